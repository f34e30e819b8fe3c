import JvmDerived
import JvmDerived.Pilot.@@N@@Statement
import JvmDerived.Pilot.@@N@@Code
set_option linter.unusedVariables false
set_option linter.unusedSimpArgs false

namespace Jvm.Pilot.@@N@@
open Jvm Jvm.ClassFile Sem Op Lib Jvm.Free Jvm.Stand Jvm.LawKit Jvm.RoadKit Bundle Jvm.Pilot.@@N@@.Jvm.D

theorem own_onn {i : Nat} (h : i < 2147483648) : ¬ Int32.ofNat i < 0 := by
  rw [Int32.lt_iff_toInt_lt, Int32.toInt_ofNat_small h, Int32.toInt_zero]; omega
theorem own_oi {i : Nat} (h : i < 2147483648) : (Int32.ofNat i).toNatClampNeg = i := by
  have q := nat_of (own_onn h)
  rw [Int32.toInt_ofNat_small h] at q; omega

def litCs : List (String × Nat × String) := [("java/lang/String", 7, ""), ("com/example/measured_flow/measuredflow/HttpRequest", 56, " ")]
theorem lit0_in : ("java/lang/String", 7, "") ∈ litCs := List.mem_of_getElem? (i := 0) rfl
theorem lit0_one : ∀ q ∈ litCs, q.2.2 = "" → q = ("java/lang/String", 7, "") := by decide +kernel
theorem lit0_lat : ∀ c ∈ "".toList, c.toNat < 256 := by decide +kernel
theorem lit0_len : "".toList.length < 2147483648 := by decide +kernel
theorem lit0_sz : 4 * "".toList.length ≤ 0 := by decide +kernel
theorem lit1_in : ("com/example/measured_flow/measuredflow/HttpRequest", 56, " ") ∈ litCs := List.mem_of_getElem? (i := 1) rfl
theorem lit1_one : ∀ q ∈ litCs, q.2.2 = " " → q = ("com/example/measured_flow/measuredflow/HttpRequest", 56, " ") := by decide +kernel
theorem lit1_lat : ∀ c ∈ " ".toList, c.toNat < 256 := by decide +kernel
theorem lit1_len : " ".toList.length < 2147483648 := by decide +kernel
theorem lit1_sz : 4 * " ".toList.length ≤ 4 := by decide +kernel

section OwnLit
/-- the bytes of a literal's text -/
def litI (text : String) : List Int32 := text.toList.map fun c => Jvm.Lit.byteI c.toNat.toUInt16
def litB (text : String) : List Value := (litI text).map Value.int
theorem litI_len (text : String) : (litI text).length = text.toList.length := List.length_map ..
theorem litB_eq (text : String) : litB text = text.toList.map fun c => Value.int (Jvm.Lit.byteI c.toNat.toUInt16) := List.map_map ..
/-- the String at a says the text, her bytes lie at t -/
def Says (Z : State) (h : Heap) (a t : Addr) (k : ClassId) (text : String) : Prop :=
  Exa Z h a "java/lang/String" ∧ Fld Z h a "java/lang/String" "coder" "B" (.int 0) ∧ Fld Z h a "java/lang/String" "value" "[B" (.ref t) ∧ Arv Z h t k .byte (Int32.ofNat (litI text).length) ((litI text).map Value.int) (.int 0)
theorem Says.ext {Z : State} {h h' : Heap} {a t : Addr} {k : ClassId} {text : String} (S : Says Z h a t k text) (E : Ext h h') : Says Z h' a t k text := ⟨S.1.ext E, S.2.1.ext E, S.2.2.1.ext E, S.2.2.2.ext E⟩
theorem Says.other {Z : State} {h h' : Heap} {a t x : Addr} {k : ClassId} {text : String} {sl : Nat} {v : Value} (S : Says Z h a t k text) (W : Wr h h' x sl v) (q1 : a ≠ x) (q2 : t ≠ x) : Says Z h' a t k text := ⟨S.1.wr W, S.2.1.other W (Or.inl q1), S.2.2.1.other W (Or.inl q1), S.2.2.2.other W q2⟩
theorem Says.keep {Z : State} {h h' : Heap} {a t : Addr} {ws : List Addr} {k : ClassId} {text : String} (S : Says Z h a t k text) (K : Keep h h' ws) (q1 : a ∉ ws) (q2 : t ∉ ws) : Says Z h' a t k text := ⟨S.1.keep K, S.2.1.keep K q1, S.2.2.1.keep K q1, S.2.2.2.keep K q2⟩
/-- what the case assumes of the literals: whatever the JVM holds already says its text; compact strings are on -/
def LH (Z : State) : Prop := (∀ q ∈ litCs, Jvm.Lit.constHeld Z q.1 q.2.1) ∧ ∀ a0, Jvm.Lit.compactW.before a0 Z = true
/-- what holds of the literals all along: those loaded since the start are booked, say their texts, and lie apart from ms, the objects that are still written -/
def Hd (Z : State) (ms : List Addr) (vm : Vm) (h : Heap) : Prop :=
  LH Z ∧ Ext Z.heap h ∧ (∀ x ∈ ms, Z.heap.size ≤ x ∧ x < h.size) ∧ ∃ Ts, IB Z vm Ts ∧ ∀ q ∈ litCs, q.2.2 ∉ Ts ∨ ∃ a t k, Lit (Z.setVm vm) q.1 q.2.1 a ∧ Says Z h a t k q.2.2 ∧ a ∉ ms ∧ t ∉ ms
theorem Hd.start {Z : State} (A : LH Z) : Hd Z [] Z.vm Z.heap := ⟨A, ⟨Nat.le_refl _, fun _ _ q => q⟩, fun x hx => (nomatch hx), [], IB.start, fun q hq => Or.inl (fun z => (nomatch z))⟩
variable {Z b : State} {ms ms' ws : List Addr} {h h' : Heap} {vm vm' : Vm} {x : Addr} {sl : Nat} {v : Value}
theorem Hd.warm (J : Hd Z ms b.vm h) (q : b.WarmedH vm') : Hd Z ms vm' h := by
  obtain ⟨A, E, M, Ts, ⟨more, e, hm⟩, L⟩ := J
  refine ⟨A, E, M, Ts, ⟨more, q.interned_eq.trans e, hm⟩, fun c hc => (L c hc).imp id fun ⟨a, t, k, l, r⟩ => ⟨a, t, k, ?_, r⟩⟩
  exact State.resolvedAt?_warmed39 (s := b) q.wide l
theorem Hd.ext (J : Hd Z ms vm h) (E' : Ext h h') : Hd Z ms vm h' := by
  obtain ⟨A, E, M, Ts, I, L⟩ := J
  exact ⟨A, ⟨Nat.le_trans E.1 E'.1, fun a c q => E'.2 a c (E.2 a c q)⟩, fun y hy => ⟨(M y hy).1, Nat.lt_of_lt_of_le (M y hy).2 E'.1⟩, Ts, I, fun c hc => (L c hc).imp id fun ⟨a, t, k, l, s, r⟩ => ⟨a, t, k, l, s.ext E', r⟩⟩
theorem Hd.add (J : Hd Z ms vm h) (E' : Ext h h') (q : x = h.size) (q' : x < h'.size) : Hd Z (x :: ms) vm h' := by
  obtain ⟨A, E, M, Ts, I, L⟩ := J
  refine ⟨A, ⟨Nat.le_trans E.1 E'.1, fun a c r => E'.2 a c (E.2 a c r)⟩, fun y hy => ?_, Ts, I, fun c hc => (L c hc).imp id fun ⟨a, t, k, l, s, r1, r2⟩ => ⟨a, t, k, l, s.ext E', ?_, ?_⟩⟩
  · rcases List.mem_cons.mp hy with rfl | hy
    · exact ⟨q ▸ E.1, q'⟩
    · exact ⟨(M y hy).1, Nat.lt_of_lt_of_le (M y hy).2 E'.1⟩
  · exact ninS (fun z => absurd s.1.lt (by rw [z, q]; exact Nat.lt_irrefl _)) r1
  · exact ninS (fun z => absurd s.2.2.2.lt (by rw [z, q]; exact Nat.lt_irrefl _)) r2
theorem Hd.keep (J : Hd Z ms vm h) (K : Keep h h' ws) (q : ∀ x ∈ ws, x ∈ ms) : Hd Z ms vm h' := by
  obtain ⟨A, E, M, Ts, I, L⟩ := J
  refine ⟨A, ⟨Nat.le_trans E.1 K.1, fun a c r => K.2.1 a c (E.2 a c r) fun z => ?_⟩, fun y hy => ⟨(M y hy).1, Nat.lt_of_lt_of_le (M y hy).2 K.1⟩, Ts, I, fun c hc => (L c hc).imp id fun ⟨a, t, k, l, s, r1, r2⟩ => ⟨a, t, k, l, s.keep K (fun z => r1 (q _ z)) (fun z => r2 (q _ z)), r1, r2⟩⟩
  exact absurd (Array.getElem?_eq_some_iff.mp r).1 (Nat.not_lt.mpr (M _ (q _ z)).1)
theorem Hd.wr (J : Hd Z ms vm h) (W : Wr h h' x sl v) (q : x ∈ ms) : Hd Z ms vm h' := J.keep (Keep.of_wr W) (fun y hy => by cases List.mem_singleton.mp hy; exact q)
theorem Hd.sub (J : Hd Z ms vm h) (q : ∀ x ∈ ms', x ∈ ms) : Hd Z ms' vm h := by
  obtain ⟨A, E, M, Ts, I, L⟩ := J
  exact ⟨A, E, fun y hy => M y (q y hy), Ts, I, fun c hc => (L c hc).imp id fun ⟨a, t, k, l, s, r1, r2⟩ => ⟨a, t, k, l, s, fun z => r1 (q _ z), fun z => r2 (q _ z)⟩⟩
theorem Hd.nms {t : Addr} (J : Hd Z ms vm h) (q : h.size ≤ t) : t ∉ ms := fun z => absurd (J.2.2.1 t z).2 (Nat.not_lt.mpr q)
/-- what the law of the cold load hands out, said of the start's tables -/
theorem slin_says {T' : State} {lo hi : Nat} {a : Addr} {units : Array UInt16} {text : String} (hal : Z.vm.Alike T'.vm) (hin : SlIn lo hi T' a units) (htext : utf16ToString? units = some text) (hl : ∀ c ∈ text.toList, c.toNat < 256) (hsz : text.toList.length < 2147483648) :
    ∃ t k, Says Z T'.heap a t k text ∧ ((a < lo ∧ t < lo) ∨ (hi ≤ a ∧ hi ≤ t)) := by
  obtain ⟨q, cS, rfl, ⟨⟨s1, s2, s3, ⟨cv, kv, iv, s4, s4'⟩, ⟨cc, kc, ic, s5, s5'⟩, s6, s7, s8, s9, s10, ⟨t1, t2, t3, t4, t5⟩, s12, s13, s14, s15, s16⟩, fS, eS⟩, ⟨kS, k1, k2, k3⟩, fB, hby, hloc⟩ := hin
  obtain ⟨kv', z4⟩ := ff_back hal s4
  obtain ⟨kc', z5⟩ := ff_back hal s5
  have fZ : Z.vm.findClass "java/lang/String" = some q.sC.cls := by rw [← hal.findClass, eS]; exact fS
  obtain ⟨kz, hz, -⟩ := Vm.findClass_spec fZ
  obtain ⟨kz', hz', ez⟩ := hal.2.2 _ _ hz
  have e1 : kz' = kS := Option.some.inj (hz'.symm.trans (eS ▸ k1))
  have bZ : Z.vm.findClass "[B" = some q.SA.cls := by rw [← hal.findClass]; exact fB
  obtain ⟨kb, hb, -⟩ := Vm.findClass_spec bZ
  obtain ⟨kb', hb', eb⟩ := hal.2.2 _ _ hb
  have e2 : t2 = kb' := Option.some.inj (t3.symm.trans hb')
  have hA : Z.isArrayOf q.SA .byte := ⟨t1, kb, hb, t4, by rw [e2, eb] at t5; exact t5⟩
  have hu := Jvm.ClassFile.units_of_text htext hl
  have hlat := Jvm.ClassFile.lat_of_text htext hl
  have hsl : q.SA.slots = units.map fun u => Value.int (Jvm.Lit.byteI u) := by rw [hby, Jvm.Free.SBG.stringBytes_lat hlat]; rfl
  have hlb : litB text = units.toList.map fun u => Value.int (Jvm.Lit.byteI u) := by rw [hu, litB_eq, List.map_map]; rfl
  have hn : q.SA.slots.size = text.toList.length := by
    have r := congrArg List.length hu
    rw [hsl, Array.size_map]; simpa using r
  have H : Has q.SA (litB text) (.int 0) := fun j hj => by
    have hj' : j < units.size := by rw [hsl, Array.size_map] at hj; exact hj
    rw [hsl, hlb]; simp [hj']
  refine ⟨q.sd, q.SA.cls, ⟨⟨q.sC, kz, s1, fZ, hz, s3, fun _ => by rw [k3, ← e1, ez]⟩, ⟨q.sC, cc, kc', ic, q.fSC, s1, z5, s7, s2, s3, by rw [← hal.assignable]; exact s5', s9⟩, ⟨q.sC, cv, kv', iv, q.fSV, s1, z4, s6, s2, s3, by rw [← hal.assignable]; exact s4', s8⟩,
    ⟨q.SA, ⟨s10, hA, s12⟩, rfl, by rw [hn, litI_len, own_oi hsz], by rw [litI_len]; exact own_onn hsz, H, fun j hj => ?_⟩⟩, hloc⟩
  have r1 := s16 j hj
  rw [Jvm.Free.SBG.getD_of (H j hj)] at r1
  exact r1
end OwnLit

section OwnKit
variable {p : Program} {l : Launch} {e : Env} {R : Room} {s b : State} {m : MethodId} {args : Array Value} {below : List Frame} {meth : Method} {c : Code} {T T' : State} {locs : List Loc} {cells slots : Nat} {Z : State} {a0 : Array Value} {h h' : Heap} {K N : Nat} {Q : Option Value → Vm → Heap → List Loc → Prop} {g g' : JFrame} {ms : List Addr}
/-- from the frame g over T the body comes to its end, and there Q holds (the end in the wide sense: literals may have been loaded) -/
def Go (p : Program) (e : Env) (s : State) (below : List Frame) (K N : Nat) (J : Vm → Heap → Prop) (Q : Option Value → Vm → Heap → List Loc → Prop) (T : State) (g : JFrame) : Prop :=
  ∃ s₂ o, Steps p.tables e below (T.setTop g) s₂ ∧ s₂.status = .running ∧ Ended s₂ below o ∧ ∃ v L, o = .returned v ∧ Q v s₂.vm s₂.heap L ∧ J s₂.vm s₂.heap ∧ ReturnedEndW s o s₂ L K N
theorem Go.of {J : Vm → Heap → Prop} (st : ∀ t, Steps p.tables e below (T'.setTop g') t → Steps p.tables e below (T.setTop g) t) (q : Go p e s below K N J Q T' g') : Go p e s below K N J Q T g := by
  obtain ⟨s2, o, h1, r⟩ := q
  exact ⟨s2, o, st _ h1, r⟩
theorem own_go0 {J : Vm → Heap → Prop} {as' : Array Value} {n : Nat} {ls : Array Slot} (q : argsToLocals as' n = ls) (r : Go p e s below K N J Q T (mkF m 0 ls [])) : Go p e s below K N J Q T (entryFrame m as' n) := by subst q; exact r
/-- two roads meet again: what comes behind is proved once -/
theorem Go.join {J : Vm → Heap → Prop} {α : Type} (P : α → Prop) (f : α → JFrame) (A : ∀ x, P x → Go p e s below K N J Q T (f x)) (C : (∀ x, P x → Go p e s below K N J Q T (f x)) → Go p e s below K N J Q T g) : Go p e s below K N J Q T g := C A
/-- the tables at hand: b is the start s with warmer tables, their new pairs booked below the heap's size -/
def Bs (s b : State) (h : Heap) : Prop := ∃ vm k, b = s.setVm vm ∧ s.Since vm k ∧ k ≤ h.size
theorem Bs.start (s : State) (h : Heap) : Bs s s h := ⟨s.vm, 0, rfl, (State.WarmedH.refl s).since 0, Nat.zero_le _⟩
theorem Bs.mono (B : Bs s b h) (q : h.size ≤ h'.size) : Bs s b h' := by
  obtain ⟨vm, k, e, hS, hk⟩ := B
  exact ⟨vm, k, e, hS, Nat.le_trans hk q⟩
theorem rend_mono {t : State} {o : Outcome} {L : List Loc} {k n k' n' : Nat} (q : ReturnedEndW s o t L k n) (hk : k ≤ k') (hn : n ≤ n') : ReturnedEndW s o t L k' n' := ⟨q.1, q.2.1, q.2.2.1, q.2.2.2.mono hk hn⟩
theorem own_retI (X : Stand p l e R s m args below meth c T locs cells slots) (hx : p.tables.exec = Jvm.exec) {pc : Nat} {Ls : Array Slot} {z : Int32} {rest : List Value} (hret : meth.sig.returnType = some .int) (hd : decode c.code pc = .ok (.ireturn, 1)) {fs : List Frame}
    (hl : ∀ (f : JFrame) (acts : List Action), f.method = m → f.locked = none → f.entered = [] → (doReturn e (T.setTop f) acts (some (.int z))).1 = T.setFrames fs) : Steps p.tables e below (T.setTop (mkF m pc Ls (.int z :: rest))) (T.setFrames fs) := by
  have hm' : T.vm.method? m = some meth := X.method'
  have hn : narrow .int (.int z) = .int z := rfl
  show Steps p.tables e below (T.setTop { method := m, pc := pc, locals := Ls, stack := _ :: rest, locked := none }) _
  jvm_step X.here [X.here.top, hx, hd, hm', hret, hn]
  first | (intro acts; rw [hl _ acts rfl rfl rfl]) | rw [hl _ _ rfl rfl rfl]
  exact Steps.refl _
theorem Go.retI (X : Stand p l e R b m args below meth c T locs cells slots) (hx : p.tables.exec = Jvm.exec) (hlk : meth.locks = false) (B : Bs s b h) (J : Hd Z ms b.vm h) (eT : T.heap = h) {pc : Nat} {Ls : Array Slot} {z : Int32} {rest : List Value} (hret : meth.sig.returnType = some .int) (hd : decode c.code pc = .ok (.ireturn, 1)) (hK : cells ≤ K) (hN : slots ≤ N)
    (hQ : ∀ vm, b.WarmedH vm → Q (some (.int z)) vm h locs) : Go p e s below K N (Hd Z ms) Q T (mkF m pc Ls (.int z :: rest)) := by
  obtain ⟨vm, k, rfl, hS, hk⟩ := B
  subst eT
  obtain ⟨fs, hr, hrun, hended, hW⟩ := X.leaveW hS hk (v := some (.int z)) (fun q => by rw [hret] at q; cases q) hlk
  exact ⟨_, _, own_retI X hx hret hd hr, hrun, hended, _, _, rfl, hQ _ X.warmed, J.warm X.warmed, rend_mono hW hK hN⟩
theorem Go.retN (X : Stand p l e R b m args below meth c T locs cells slots) (hx : p.tables.exec = Jvm.exec) (hlk : meth.locks = false) (B : Bs s b h) (J : Hd Z ms b.vm h) (eT : T.heap = h) {pc : Nat} {Ls : Array Slot} {z z' : Int32} {t : FieldType} {rest : List Value} (hret : meth.sig.returnType = some t) (ht : t = .boolean ∨ t = .byte ∨ t = .char ∨ t = .short) (hd : decode c.code pc = .ok (.ireturn, 1)) (hz : nar t z = z') (hK : cells ≤ K) (hN : slots ≤ N)
    (hQ : ∀ vm, b.WarmedH vm → Q (some (.int z')) vm h locs) : Go p e s below K N (Hd Z ms) Q T (mkF m pc Ls (.int z :: rest)) := by
  obtain ⟨vm, k, rfl, hS, hk⟩ := B
  subst eT hz
  obtain ⟨fs, hr, hrun, hended, hW⟩ := X.leaveW hS hk (v := some (.int (nar t z))) (fun q => by rw [hret] at q; cases q) hlk
  exact ⟨_, _, Jvm.RoadKit.retN X hx hret ht hd hr, hrun, hended, _, _, rfl, hQ _ X.warmed, J.warm X.warmed, rend_mono hW hK hN⟩
theorem Go.retA (X : Stand p l e R b m args below meth c T locs cells slots) (hx : p.tables.exec = Jvm.exec) (hlk : meth.locks = false) (B : Bs s b h) (J : Hd Z ms b.vm h) (eT : T.heap = h) {pc : Nat} {Ls : Array Slot} {w : Value} {t : FieldType} {rest : List Value} (hret : meth.sig.returnType = some t) (ht : t.isReference = true) (hw : w.isRef = true) (hd : decode c.code pc = .ok (.areturn, 1)) (hK : cells ≤ K) (hN : slots ≤ N)
    (hQ : ∀ vm, b.WarmedH vm → Q (some w) vm h locs) : Go p e s below K N (Hd Z ms) Q T (mkF m pc Ls (w :: rest)) := by
  obtain ⟨vm, k, rfl, hS, hk⟩ := B
  subst eT
  obtain ⟨fs, hr, hrun, hended, hW⟩ := X.leaveW hS hk (v := some w) (fun q => by rw [hret] at q; cases q) hlk
  have hn : narrow t w = w := by
    cases t <;> first | (cases ht; done) | (cases w <;> first | rfl | (cases hw; done))
  exact ⟨_, _, retOut X hx hret hn (Or.inr (Or.inr (Or.inr (Or.inr ⟨rfl, ht, hw⟩)))) hd hr, hrun, hended, _, _, rfl, hQ _ X.warmed, J.warm X.warmed, rend_mono hW hK hN⟩
theorem Go.retV (X : Stand p l e R b m args below meth c T locs cells slots) (hx : p.tables.exec = Jvm.exec) (hlk : meth.locks = false) (B : Bs s b h) (J : Hd Z ms b.vm h) (eT : T.heap = h) {pc : Nat} {Ls : Array Slot} (hret : meth.sig.returnType = none) (hd : decode c.code pc = .ok (.return_, 1)) (hK : cells ≤ K) (hN : slots ≤ N)
    (hQ : ∀ vm, b.WarmedH vm → Q none vm h locs) : Go p e s below K N (Hd Z ms) Q T (mkF m pc Ls []) := by
  obtain ⟨vm, k, rfl, hS, hk⟩ := B
  subst eT
  obtain ⟨fs, hr, hrun, hended, hW⟩ := X.leaveW hS hk (v := none) (fun _ => rfl) hlk
  exact ⟨_, _, X.returnOut hx hret hd hr, hrun, hended, _, _, rfl, hQ _ X.warmed, J.warm X.warmed, rend_mono hW hK hN⟩
/-- a body's contract in this family -/
def Con (l : Launch) (Z : State) (ms : List Addr) (y : MethodName) (bytes : ByteArray) (maxL : Nat) (ret : Option FieldType) (ws : List Jvm.Cond) (rm : Room) (as' : Array Value) (h : Heap) (Q : Option Value → Vm → Heap → List Loc → Prop) : Prop :=
  MetFree l y (head1 (Jvm.Cond.code y bytes maxL ret :: ws) rm) (fun a U => a = as' ∧ Z.Warmed39 U.vm ∧ U.heap = h ∧ Hd Z ms U.vm U.heap) (fun _ _ _ _ _ => True) (fun _ U o U' => ∃ v L, o = .returned v ∧ Q v U'.vm U'.heap L ∧ Hd Z ms U'.vm U'.heap ∧ ReturnedEndW U o U' L rm.cells rm.slots)
/-- what a walk knows of the body that it walks -/
def Cx (Z : State) (p : Program) (b : State) (m : MethodId) (meth : Method) (c : Code) (own : String) (bytes : ByteArray) (ml : Nat) (nm : String) (rt : Option FieldType) : Prop :=
  p.tables.exec = Jvm.exec ∧ Z.Warmed39 b.vm ∧ b.vm.findClass own = some m.cls ∧ c.code = bytes ∧ c.maxLocals = ml ∧ meth.name = nm ∧ meth.sig.returnType = rt ∧ meth.locks = false
theorem Con.mk {y : MethodName} {bytes : ByteArray} {maxL : Nat} {ret : Option FieldType} {ws : List Jvm.Cond} {rm : Room} {as' : Array Value} (hp : plainFor y = true)
    (body : ∀ p e s m below meth c s₁, Cx Z p s m meth c y.cls bytes maxL y.name ret → Stand p l e rm s m as' below meth c s₁ [] 0 0 → s₁.heap = h → s.heap = h → Hd Z ms s.vm h → Bs s s h → s.methodNamed? y = some m → Go p e s below rm.cells rm.slots (Hd Z ms) Q s₁ (entryFrame m as' maxL)) : Con l Z ms y bytes maxL ret ws rm as' h Q := by
  refine MetFree.of_bodySF hp hisR ?_
  intro p e s m args below meth c s₁ Bd hml0 hP hK
  obtain ⟨rfl, hZ, hh, hJ⟩ := hP
  exact body p e s m below meth c s₁ ⟨Bd.exec, hZ, findClass_of_methodNamed Bd.named, Bd.bytes, hml0, (name_of_methodNamed Bd.named Bd.method).1, Bd.returns, Bd.notSynchronized⟩ (Stand.of_body Bd) (by rw [← hh, Bd.state]; rfl) hh (hh ▸ hJ) (Bs.start s h) Bd.named
section Calls
variable {y : MethodName} {bytes mybytes : ByteArray} {maxL ml : Nat} {ret rt : Option FieldType} {rm : Room} {own nm : String} {index W : Nat} {argsL rest : List Value} {Q' : Option Value → Vm → Heap → List Loc → Prop}
/-- two roads meet again behind calls that leave the heap as it was -/
theorem Go.joinC {Jq : Vm → Heap → Prop} {α : Type} {n : Nat} (Cc : Cx Z p b m meth c own mybytes ml nm rt) (X : Stand p l e R b m args below meth c T locs cells slots) (hJ : Hd Z ms b.vm h) (hN : Fr n locs) (P : α → Prop) (f : α → JFrame)
    (A : ∀ x b' T' locs', Cx Z p b' m meth c own mybytes ml nm rt → Stand p l e R b' m args below meth c T' locs' cells slots → T'.heap = h → Bs s b' h → Hd Z ms b'.vm h → Fr n locs' → P x → Go p e s below K N Jq Q T' (f x))
    (C : (∀ x b' T' locs', Cx Z p b' m meth c own mybytes ml nm rt → Stand p l e R b' m args below meth c T' locs' cells slots → T'.heap = h → Bs s b' h → Hd Z ms b'.vm h → Fr n locs' → P x → Go p e s below K N Jq Q T' (f x)) → Go p e s below K N Jq Q T g) : Go p e s below K N Jq Q T g := C A
/-- what a call leaves: the tables at hand may be others -/
def Called (Z : State) (ms : List Addr) (p : Program) (l : Launch) (e : Env) (R : Room) (s : State) (m : MethodId) (args : Array Value) (below : List Frame) (meth : Method) (c : Code) (own : String) (mybytes : ByteArray) (ml : Nat) (nm : String) (rt : Option FieldType) (locs : List Loc) (cells slots : Nat) (h : Heap) (Q' : Option Value → Vm → Heap → List Loc → Prop) (T : State) (g : JFrame) (len : Nat) (rest : List Value) : Prop :=
  ∃ v b' T' h' L, T'.heap = h' ∧ Cx Z p b' m meth c own mybytes ml nm rt ∧ Stand p l e R b' m args below meth c T' (locs ++ L) cells slots ∧ Bs s b' h' ∧ Hd Z ms b'.vm h' ∧ h.size ≤ h'.size ∧ Q' v b'.vm h' L ∧ ∀ t, Steps p.tables e below (T'.setTop { g with pc := g.pc + len, stack := v.toList ++ rest }) t → Steps p.tables e below (T.setTop g) t
theorem own_back {as' : Array Value} {len : Nat} (hM : Con l Z ms y bytes maxL ret [] rm as' h Q') (hZ : Z.Warmed39 b.vm) (J : Hd Z ms b.vm h) (wc : (Jvm.Cond.code y bytes maxL ret).before a0 Z = true) (wz : (Jvm.Cond.initialized y.cls).before a0 Z = true) (hf : rm.frames + 1 ≤ R.frames) (hl : W + (maxL + 11) + rm.locals ≤ R.locals) :
    BackS l R p e below b args y len W (fun A a => a = as' ∧ A.U.heap = h ∧ A.cells + rm.cells ≤ R.cells ∧ A.slots + rm.slots ≤ R.slots)
      (fun A _ v B => ∃ L, (Q' v B.U.vm B.U.heap L ∧ Hd Z ms B.U.vm B.U.heap) ∧ B.locs = A.locs ++ L ∧ B.cells = A.cells + rm.cells ∧ B.slots = A.slots + rm.slots) :=
  BackS.of_freeW (bytes := bytes) (maxL := maxL) (ret := ret) (E := fun _ _ o t L k n => k = rm.cells ∧ n = rm.slots ∧ ∃ v, o = .returned v ∧ Q' v t.vm t.heap L ∧ Hd Z ms t.vm t.heap) hM hf hl
    (fun m meth c A a Y hp => have hU : Z.Warmed39 A.U.vm := wtrans hZ Y.warmed
      ⟨by show (Jvm.Cond.and _ .tt).before a A.U = true; rw [Cond.before_and, mv hU wc]; rfl, mv hU wc, mv hU wz, hp.2.2.1, hp.2.2.2⟩)
    (fun m meth c A a g mk Y hp => ⟨hp.1, wtrans hZ Y.warmed, hp.2.1, by show Hd Z ms A.U.vm A.U.heap; rw [hp.2.1]; exact J.warm Y.warmed⟩) (fun _ _ _ _ _ _ _ _ _ => trivial)
    (fun _ _ _ _ ⟨v, L, h1, h2, h3, h4⟩ => ⟨L, _, _, h4, rfl, rfl, v, h1, h2, h3⟩)
    (fun m meth c A a g mk v t L k n Y hp _ _ ⟨e1, e2, v', e3, e4, e5⟩ => by cases e3; subst e1 e2; exact ⟨L, ⟨e4, e5⟩, rfl, rfl, rfl⟩)
theorem own_done {len : Nat} {v : Option Value} {B : Pt} (Cc : Cx Z p b m meth c own mybytes ml nm rt) (hB : Bs s b h) (eT : T.heap = h) (X1 : Stand p l e R (b.setVm B.U.vm) m args below meth c B.U B.locs B.cells B.slots) (hS : b.Since B.U.vm B.U.heap.size) (hg : T.heap.size ≤ B.U.heap.size)
    (hq : ∃ L, (Q' v B.U.vm B.U.heap L ∧ Hd Z ms B.U.vm B.U.heap) ∧ B.locs = locs ++ L ∧ B.cells = cells + rm.cells ∧ B.slots = slots + rm.slots) (st : ∀ t, Steps p.tables e below (B.U.setTop { g with pc := g.pc + len, stack := v.toList ++ rest }) t → Steps p.tables e below (T.setTop g) t) :
    Called Z ms p l e R s m args below meth c own mybytes ml nm rt locs (cells + rm.cells) (slots + rm.slots) h Q' T g len rest := by
  obtain ⟨T1, L1, k1, n1⟩ := B
  obtain ⟨Lc, ⟨hQ, hJ⟩, l1, y1, z1⟩ := hq
  dsimp only [Pt.U, Pt.locs, Pt.cells, Pt.slots] at X1 l1 y1 z1 st hQ hJ hS hg
  subst l1 y1 z1
  obtain ⟨vm, k, rfl, hS0, hk⟩ := hB
  obtain ⟨hx, hZ, hown, r⟩ := Cc
  exact ⟨v, (s.setVm vm).setVm T1.vm, T1, _, Lc, rfl, ⟨hx, State.Warmed39.trans hZ hS.1, (hS.1.alike.findClass _ _).trans hown, r⟩, X1, ⟨T1.vm, T1.heap.size, rfl, hS0.trans hS (Nat.le_trans hk (eT ▸ hg)), Nat.le_refl _⟩, hJ, eT ▸ hg, hQ, st⟩
theorem own_callS (Cc : Cx Z p b m meth c own mybytes ml nm rt) (hB : Bs s b h) (J : Hd Z ms b.vm h) (X : Stand p l e R b m args below meth c T locs cells slots)
    (wl : (Jvm.Cond.methodLink own index y).before a0 Z = true) (wst : (Jvm.Cond.static y).before a0 Z = true) (wi : (Jvm.Cond.initialized y.cls).before a0 Z = true) (wc : (Jvm.Cond.code y bytes maxL ret).before a0 Z = true) (hy : y.cls ≠ "java/lang/invoke/MethodHandle" ∧ y.cls ≠ "java/lang/invoke/VarHandle")
    (hM : Con l Z ms y bytes maxL ret [] rm argsL.toArray h Q') (eT : T.heap = h) (hg : g.method = m) (hsize : g.locals.size = c.maxLocals) (hlen : ∀ sig, parseMethodDescriptor y.desc = some sig → argsL.length = sig.parameters.length) (hstack : g.stack = argsL.reverse ++ rest)
    (hW : 2 * g.monitorRoom + (rest.map fun v => v.category).sum ≤ W) (hdg : decode c.code g.pc = .ok (.invokestatic index, 3)) (hf : rm.frames + 1 ≤ R.frames) (hl : W + (maxL + 11) + rm.locals ≤ R.locals) (hc : cells + rm.cells ≤ R.cells) (hs : slots + rm.slots ≤ R.slots) :
    Called Z ms p l e R s m args below meth c own mybytes ml nm rt locs (cells + rm.cells) (slots + rm.slots) h Q' T g 3 rest := by
  obtain ⟨hx, hZ, hown, -⟩ := id Cc
  obtain ⟨v, _, B, -, X1, hS, hgr, hq, st⟩ := callSS X hx (y := y) hown (mvT hZ wl) (mvT hZ wst) (mvT hZ wi) (mvT hZ wc) hy (own_back (W := W) hM hZ J wc wi hf hl) hg hsize (argsL := argsL) (rest := rest) hlen hstack hW hdg (fun _ _ => ⟨rfl, eT, hc, hs⟩)
  exact own_done Cc hB eT X1 hS hgr hq (fun _ hr => st.trans hr)
theorem own_callI (Cc : Cx Z p b m meth c own mybytes ml nm rt) (hB : Bs s b h) (J : Hd Z ms b.vm h) (X : Stand p l e R b m args below meth c T locs cells slots) (hin : y.name = "<init>")
    (wl : (Jvm.Cond.methodLink own index y).before a0 Z = true) (wim : (Jvm.Cond.instanceMethod y).before a0 Z = true) (wi : (Jvm.Cond.initialized y.cls).before a0 Z = true) (wc : (Jvm.Cond.code y bytes maxL none).before a0 Z = true) (hy : y.cls ≠ "java/lang/invoke/MethodHandle" ∧ y.cls ≠ "java/lang/invoke/VarHandle")
    {a : Addr} (hM : Con l Z ms y bytes maxL none [] rm (Value.ref a :: argsL).toArray h Q') (eT : T.heap = h) (hg : g.method = m) (hsize : g.locals.size = c.maxLocals) (hlen : ∀ sig, parseMethodDescriptor y.desc = some sig → argsL.length = sig.parameters.length) (hstack : g.stack = argsL.reverse ++ .ref a :: rest)
    (hW : 2 * g.monitorRoom + (rest.map fun v => v.category).sum ≤ W) (hdg : decode c.code g.pc = .ok (.invokespecial index, 3)) (hf : rm.frames + 1 ≤ R.frames) (hl : W + (maxL + 11) + rm.locals ≤ R.locals) (hc : cells + rm.cells ≤ R.cells) (hs : slots + rm.slots ≤ R.slots) :
    Called Z ms p l e R s m args below meth c own mybytes ml nm rt locs (cells + rm.cells) (slots + rm.slots) h Q' T g 3 rest := by
  obtain ⟨hx, hZ, hown, -⟩ := id Cc
  obtain ⟨v, _, B, -, X1, hS, hgr, hq, st⟩ := X.specialBackS hx (y := y) hin hown (mvT hZ wl) (mvT hZ wim) (mvT hZ wc) hy (own_back (W := W) hM hZ J wc wi hf hl) hg hsize (Steps.refl _) (a := a) (argsL := argsL) (rest := rest) hlen hstack hW hdg (fun _ _ => ⟨rfl, eT, hc, hs⟩)
  exact own_done Cc hB eT X1 hS hgr hq (fun _ hr => st.trans hr)
theorem own_callV (Cc : Cx Z p b m meth c own mybytes ml nm rt) (hB : Bs s b h) (J : Hd Z ms b.vm h) (X : Stand p l e R b m args below meth c T locs cells slots) {z : MethodName} {C : String}
    (wl : (Jvm.Cond.methodLink own index y).before a0 Z = true) (wd : (Jvm.Cond.declares y).before a0 Z = true) (nf : NotFace b y) (wsel : (Jvm.Cond.selects C y z).before a0 Z = true) (wim : (Jvm.Cond.instanceMethod z).before a0 Z = true) (wi : (Jvm.Cond.initialized z.cls).before a0 Z = true) (wc : (Jvm.Cond.code z bytes maxL ret).before a0 Z = true) (hy : y.cls ≠ "java/lang/invoke/MethodHandle" ∧ y.cls ≠ "java/lang/invoke/VarHandle")
    {a : Addr} (E : Exa Z h a C) (hM : Con l Z ms z bytes maxL ret [] rm (Value.ref a :: argsL).toArray h Q') (eT : T.heap = h) (hg : g.method = m) (hsize : g.locals.size = c.maxLocals) (hlen : ∀ sig, parseMethodDescriptor y.desc = some sig → argsL.length = sig.parameters.length) (hstack : g.stack = argsL.reverse ++ .ref a :: rest)
    (hW : 2 * g.monitorRoom + (rest.map fun v => v.category).sum ≤ W) (hdg : decode c.code g.pc = .ok (.invokevirtual index, 3)) (hf : rm.frames + 1 ≤ R.frames) (hl : W + (maxL + 11) + rm.locals ≤ R.locals) (hc : cells + rm.cells ≤ R.cells) (hs : slots + rm.slots ≤ R.slots) :
    Called Z ms p l e R s m args below meth c own mybytes ml nm rt locs (cells + rm.cells) (slots + rm.slots) h Q' T g 3 rest := by
  obtain ⟨hx, hZ, hown, -⟩ := id Cc
  obtain ⟨cq, kq, qa, qb, qc⟩ := isOf hZ eT E
  obtain ⟨v, _, B, -, X1, hS, hgr, hq, st⟩ := X.virtualBackS hx (y := y) (z := z) hown (mvT hZ wl) (mvT hZ wd) nf (mvT hZ wsel) (mvT hZ wim) hy (own_back (W := W) hM hZ J wc wi hf hl) qa qc hg hsize (Steps.refl _) (argsL := argsL) (rest := rest) hlen hstack hW hdg (fun _ _ => ⟨rfl, eT, hc, hs⟩)
  exact own_done Cc hB eT X1 hS hgr hq (fun _ hr => st.trans hr)
/-- an inherited method, by the class that the entry names -/
theorem own_callU (Cc : Cx Z p b m meth c own mybytes ml nm rt) (hB : Bs s b h) (J : Hd Z ms b.vm h) (X : Stand p l e R b m args below meth c T locs cells slots) {z : MethodName} {C owner : String}
    (wl : (Jvm.Cond.methodLink own index y).before a0 Z = true) (wsm : (Jvm.Cond.sameMethod y.cls owner y.name y.desc).before a0 Z = true) (wd : (Jvm.Cond.declares ⟨owner, y.name, y.desc⟩).before a0 Z = true) (wsel : (Jvm.Cond.selects C y z).before a0 Z = true) (wim : (Jvm.Cond.instanceMethod z).before a0 Z = true) (wi : (Jvm.Cond.initialized z.cls).before a0 Z = true) (wc : (Jvm.Cond.code z bytes maxL ret).before a0 Z = true) (ho : owner ≠ "java/lang/invoke/MethodHandle" ∧ owner ≠ "java/lang/invoke/VarHandle")
    {a : Addr} (E : Exa Z h a C) (hM : Con l Z ms z bytes maxL ret [] rm (Value.ref a :: argsL).toArray h Q') (eT : T.heap = h) (hg : g.method = m) (hsize : g.locals.size = c.maxLocals) (hlen : ∀ sig, parseMethodDescriptor y.desc = some sig → argsL.length = sig.parameters.length) (hstack : g.stack = argsL.reverse ++ .ref a :: rest)
    (hW : 2 * g.monitorRoom + (rest.map fun v => v.category).sum ≤ W) (hdg : decode c.code g.pc = .ok (.invokevirtual index, 3)) (hf : rm.frames + 1 ≤ R.frames) (hl : W + (maxL + 11) + rm.locals ≤ R.locals) (hc : cells + rm.cells ≤ R.cells) (hs : slots + rm.slots ≤ R.slots) :
    Called Z ms p l e R s m args below meth c own mybytes ml nm rt locs (cells + rm.cells) (slots + rm.slots) h Q' T g 3 rest := by
  obtain ⟨hx, hZ, hown, -⟩ := id Cc
  obtain ⟨cq, kq, qa, qb, qc⟩ := isOf hZ eT E
  obtain ⟨v, _, B, -, X1, hS, hgr, hq, st⟩ := X.virtualBackUpS hx (x := y) (y := z) hown (mvT hZ wl) (mvT hZ wsm) (mvT hZ wd) ho (mvT hZ wsel) (mvT hZ wim) (own_back (W := W) hM hZ J wc wi hf hl) qa qc hg hsize (Steps.refl _) (argsL := argsL) (rest := rest) hlen hstack hW hdg (fun _ _ => ⟨rfl, eT, hc, hs⟩)
  exact own_done Cc hB eT X1 hS hgr hq (fun _ hr => st.trans hr)
/-- through an interface -/
theorem own_callF (Cc : Cx Z p b m meth c own mybytes ml nm rt) (hB : Bs s b h) (J : Hd Z ms b.vm h) (X : Stand p l e R b m args below meth c T locs cells slots) {z : MethodName} {C : String} {count : Nat}
    (wl : (Jvm.Cond.methodLink own index y).before a0 Z = true) (wd : (Jvm.Cond.declares y).before a0 Z = true) (wfc : (Jvm.Cond.interfaceMethod y.cls y.cls y.name y.desc).before a0 Z = true) (hfc : ((Jvm.Cond.interfaceMethod y.cls y.cls y.name y.desc).onTables && (Jvm.Cond.interfaceMethod y.cls y.cls y.name y.desc).keepsFace) = true) (wsel : (Jvm.Cond.selects C y z).before a0 Z = true) (wim : (Jvm.Cond.instanceMethod z).before a0 Z = true) (wpb : (Jvm.Cond.publicMethod z).before a0 Z = true) (wun : (Jvm.Cond.unhidden C y.name y.desc).before a0 Z = true) (wca : (Jvm.Cond.castable C y.cls).before a0 Z = true)
    (wi : (Jvm.Cond.initialized z.cls).before a0 Z = true) (wc : (Jvm.Cond.code z bytes maxL ret).before a0 Z = true) (hy : y.cls ≠ "java/lang/invoke/MethodHandle" ∧ y.cls ≠ "java/lang/invoke/VarHandle")
    {a : Addr} (E : Exa Z h a C) (hM : Con l Z ms z bytes maxL ret [] rm (Value.ref a :: argsL).toArray h Q') (eT : T.heap = h) (hg : g.method = m) (hsize : g.locals.size = c.maxLocals) (hlen : ∀ sig, parseMethodDescriptor y.desc = some sig → argsL.length = sig.parameters.length) (hstack : g.stack = argsL.reverse ++ .ref a :: rest)
    (hW : 2 * g.monitorRoom + (rest.map fun v => v.category).sum ≤ W) (hdg : decode c.code g.pc = .ok (.invokeinterface index count, 5)) (hf : rm.frames + 1 ≤ R.frames) (hl : W + (maxL + 11) + rm.locals ≤ R.locals) (hc : cells + rm.cells ≤ R.cells) (hs : slots + rm.slots ≤ R.slots) :
    Called Z ms p l e R s m args below meth c own mybytes ml nm rt locs (cells + rm.cells) (slots + rm.slots) h Q' T g 5 rest := by
  obtain ⟨hx, hZ, hown, -⟩ := id Cc
  obtain ⟨cq, kq, qa, qb, qc⟩ := isOf hZ eT E
  obtain ⟨v, _, B, -, X1, hS, hgr, hq, st⟩ := X.interfaceBackS hx (xi := y) (y := z) hown (mvT hZ wl) (mvT hZ wd) (mvT hZ wfc hfc) (mvT hZ wsel) (mvT hZ wim) (mvT hZ wpb) (mvT hZ wun) (mvT hZ wca) hy (own_back (W := W) hM hZ J wc wi hf hl) qa qb qc hg hsize (Steps.refl _) (argsL := argsL) (rest := rest) hlen hstack hW hdg (fun _ _ => ⟨rfl, eT, hc, hs⟩)
  exact own_done Cc hB eT X1 hS hgr hq (fun _ hr => st.trans hr)
/-- super.m() -/
theorem own_callP (Cc : Cx Z p b m meth c own mybytes ml nm rt) (hB : Bs s b h) (J : Hd Z ms b.vm h) (X : Stand p l e R b m args below meth c T locs cells slots) {C : String}
    (wl : (Jvm.Cond.methodLink own index y).before a0 Z = true) (wsm : (Jvm.Cond.sameMethod y.cls y.cls y.name y.desc).before a0 Z = true) (wim : (Jvm.Cond.instanceMethod y).before a0 Z = true) (wsu : (Jvm.Cond.superclass own y.cls).before a0 Z = true) (hn : y.name ≠ "<init>") (wi : (Jvm.Cond.initialized y.cls).before a0 Z = true) (wc : (Jvm.Cond.code y bytes maxL ret).before a0 Z = true)
    {a : Addr} (E : Exa Z h a C) (hM : Con l Z ms y bytes maxL ret [] rm (Value.ref a :: argsL).toArray h Q') (eT : T.heap = h) (hg : g.method = m) (hsize : g.locals.size = c.maxLocals) (hlen : ∀ sig, parseMethodDescriptor y.desc = some sig → argsL.length = sig.parameters.length) (hstack : g.stack = argsL.reverse ++ .ref a :: rest)
    (hW : 2 * g.monitorRoom + (rest.map fun v => v.category).sum ≤ W) (hdg : decode c.code g.pc = .ok (.invokespecial index, 3)) (hf : rm.frames + 1 ≤ R.frames) (hl : W + (maxL + 11) + rm.locals ≤ R.locals) (hc : cells + rm.cells ≤ R.cells) (hs : slots + rm.slots ≤ R.slots) :
    Called Z ms p l e R s m args below meth c own mybytes ml nm rt locs (cells + rm.cells) (slots + rm.slots) h Q' T g 3 rest := by
  obtain ⟨hx, hZ, hown, -⟩ := id Cc
  obtain ⟨v, _, B, -, X1, hS, hgr, hq, st⟩ := superBackS X hx hZ (y := y) hown wl wsm wim wsu hn (own_back (W := W) hM hZ J wc wi hf hl) eT (Ins.self E) hg hsize wc (argsL := argsL) (rest := rest) hlen hstack hW hdg (fun _ _ => ⟨rfl, eT, hc, hs⟩)
  exact own_done Cc hB eT X1 hS hgr hq (fun _ hr => st.trans hr)
/-- a private method -/
theorem own_callR (Cc : Cx Z p b m meth c own mybytes ml nm rt) (hB : Bs s b h) (J : Hd Z ms b.vm h) (X : Stand p l e R b m args below meth c T locs cells slots) {C : String}
    (wl : (Jvm.Cond.methodLink own index y).before a0 Z = true) (wim : (Jvm.Cond.instanceMethod y).before a0 Z = true) (wsel : (Jvm.Cond.selects y.cls y y).before a0 Z = true) (wpr : (Jvm.Cond.privateMethod y).before a0 Z = true) (wi : (Jvm.Cond.initialized y.cls).before a0 Z = true) (wc : (Jvm.Cond.code y bytes maxL ret).before a0 Z = true) (hy : y.cls ≠ "java/lang/invoke/MethodHandle" ∧ y.cls ≠ "java/lang/invoke/VarHandle")
    {a : Addr} (E : Exa Z h a C) (hM : Con l Z ms y bytes maxL ret [] rm (Value.ref a :: argsL).toArray h Q') (eT : T.heap = h) (hg : g.method = m) (hsize : g.locals.size = c.maxLocals) (hlen : ∀ sig, parseMethodDescriptor y.desc = some sig → argsL.length = sig.parameters.length) (hstack : g.stack = argsL.reverse ++ .ref a :: rest)
    (hW : 2 * g.monitorRoom + (rest.map fun v => v.category).sum ≤ W) (hdg : decode c.code g.pc = .ok (.invokevirtual index, 3)) (hf : rm.frames + 1 ≤ R.frames) (hl : W + (maxL + 11) + rm.locals ≤ R.locals) (hc : cells + rm.cells ≤ R.cells) (hs : slots + rm.slots ≤ R.slots) :
    Called Z ms p l e R s m args below meth c own mybytes ml nm rt locs (cells + rm.cells) (slots + rm.slots) h Q' T g 3 rest := by
  obtain ⟨hx, hZ, hown, -⟩ := id Cc
  obtain ⟨cl, q1, q2⟩ := E.cell
  obtain ⟨v, _, B, -, X1, hS, hgr, hq, st⟩ := X.privateBackS hx (y := y) hown (mvT hZ wl) (mvT hZ wim) (mvT hZ wsel) (Cond.privateMethod_at (mvP hZ wpr (args := #[]))) (mvT hZ wc) hy (own_back (W := W) hM hZ J wc wi hf hl) hg hsize (Steps.refl _) (a := a) (by rw [eT]; exact q1) q2 (argsL := argsL) (rest := rest) hlen hstack hW hdg (fun _ _ => ⟨rfl, eT, hc, hs⟩)
  exact own_done Cc hB eT X1 hS hgr hq (fun _ hr => st.trans hr)
/-- a nest-mate's constructor -/
theorem own_callN (Cc : Cx Z p b m meth c own mybytes ml nm rt) (hB : Bs s b h) (J : Hd Z ms b.vm h) (X : Stand p l e R b m args below meth c T locs cells slots) (hin : y.name = "<init>") {host : String}
    (wl : (Jvm.Cond.methodLinkNest own index y host).before a0 Z = true) (wim : (Jvm.Cond.instanceMethod y).before a0 Z = true) (wi : (Jvm.Cond.initialized y.cls).before a0 Z = true) (wc : (Jvm.Cond.code y bytes maxL none).before a0 Z = true) (hy : y.cls ≠ "java/lang/invoke/MethodHandle" ∧ y.cls ≠ "java/lang/invoke/VarHandle")
    {a : Addr} (hM : Con l Z ms y bytes maxL none [] rm (Value.ref a :: argsL).toArray h Q') (eT : T.heap = h) (hg : g.method = m) (hsize : g.locals.size = c.maxLocals) (hlen : ∀ sig, parseMethodDescriptor y.desc = some sig → argsL.length = sig.parameters.length) (hstack : g.stack = argsL.reverse ++ .ref a :: rest)
    (hW : 2 * g.monitorRoom + (rest.map fun v => v.category).sum ≤ W) (hdg : decode c.code g.pc = .ok (.invokespecial index, 3)) (hf : rm.frames + 1 ≤ R.frames) (hl : W + (maxL + 11) + rm.locals ≤ R.locals) (hc : cells + rm.cells ≤ R.cells) (hs : slots + rm.slots ≤ R.slots) :
    Called Z ms p l e R s m args below meth c own mybytes ml nm rt locs (cells + rm.cells) (slots + rm.slots) h Q' T g 3 rest := by
  obtain ⟨hx, hZ, hown, -⟩ := id Cc
  have wl' : (Jvm.Cond.methodLinkNest own index y host).before args b = true := (Cond.methodLinkNest_wide hZ wl :)
  obtain ⟨v, _, B, -, X1, hS, hgr, hq, st⟩ := X.specialBackNestS hx (y := y) hin hown wl' (mvT hZ wim) (mvT hZ wc) hy (own_back (W := W) hM hZ J wc wi hf hl) hg hsize (Steps.refl _) (a := a) (argsL := argsL) (rest := rest) hlen hstack hW hdg (fun _ _ => ⟨rfl, eT, hc, hs⟩)
  exact own_done Cc hB eT X1 hS hgr hq (fun _ hr => st.trans hr)
end Calls
theorem own_nf {s : State} {args : Array Value} {C : String} {y z : MethodName} (hsel : (Jvm.Cond.selects C z z).before args s = true) (hc : z.cls = y.cls) : NotFace s y := fun r0 h0 => by
  obtain ⟨c2, r2, m2, -, -, q3, -⟩ := Cond.selects_spec hsel
  obtain ⟨kr, k1, k2⟩ := notFace_of_selects hsel m2 q3
  have a := findClass_of_methodNamed h0
  have b := findClass_of_methodNamed q3
  rw [hc] at b
  have e : r0.cls = m2.cls := Option.some.inj (a.symm.trans b)
  exact ⟨kr, by rw [e]; exact k1, k2⟩
theorem own_sm {y : MethodName} (wim : (Jvm.Cond.instanceMethod y).before a0 Z = true) (nf : NotFace Z y) (hy : y.cls ≠ "java/lang/invoke/MethodHandle" ∧ y.cls ≠ "java/lang/invoke/VarHandle") : (Jvm.Cond.sameMethod y.cls y.cls y.name y.desc).before a0 Z = true := by
  obtain ⟨mk, methM, hnamed, -⟩ := Cond.instanceMethod_spec wim
  obtain ⟨kr, k1, k2⟩ := nf _ hnamed
  have hf := State.methodFound?_of_named hnamed hy
  have hc := findClass_of_methodNamed hnamed
  have hn' : Z.methodNamed? ⟨y.cls, y.name, y.desc⟩ = some mk := hnamed
  simp [Cond.before, Cond.holds, Cond.value, hc, hf, hn', k1, k2]
theorem own_decl {y : MethodName} {bytes : ByteArray} {maxL : Nat} {ret : Option FieldType} (wim : (Jvm.Cond.instanceMethod y).before a0 Z = true) (wc : (Jvm.Cond.code y bytes maxL ret).before a0 Z = true) : (Jvm.Cond.declares y).before a0 Z = true := by
  obtain ⟨mk, methM, hnamed, hmethM, hst, -⟩ := Cond.instanceMethod_spec wim
  obtain ⟨m2, cM, q1, -, -, -, -, -, -, hsig⟩ := Cond.code_spec hnamed wc
  cases hmethM.symm.trans q1
  simp [Cond.before, Cond.holds, Cond.value, hnamed, hmethM, hst, hsig]
theorem keep_ext (q : Keep h h' []) : Ext h h' := ⟨q.1, fun a c r => q.2.1 a c r (fun z => nomatch z)⟩
theorem ext_keep (q : Ext h h') : Keep h h' [] := (Keep.refl h []).ext q
theorem own_ole {n0 : Nat} (O : Old Z n0 h) : n0 ≤ h.size := O.1 ▸ O.2.1
/-- an equation of the case's words -/
theorem own_eqI {t : Term} {n : Int32} (q : (Jvm.Cond.eq t (.int n)).value args s none s [] = some true) : t.eval args s none [] s = some (.int n) := by
  cases ha : t.eval args s none [] s with
  | none => simp [Cond.value, ha] at q
  | some x => cases x <;> simp [Cond.value, Term.eval, ha] at q ⊢; exact q
theorem own_sub1 {z : Addr} {ms L : List Addr} (q : z ∈ L) (r : ∀ x ∈ ms, x ∈ L) : ∀ x ∈ z :: ms, x ∈ L := fun x hx => (List.mem_cons.mp hx).elim (fun e => by rw [e]; exact q) (r x)
end OwnKit

section OwnLdc
variable {p : Program} {l : Launch} {e : Env} {R : Room} {s b : State} {m : MethodId} {args : Array Value} {below : List Frame} {meth : Method} {c : Code} {T : State} {locs : List Loc} {cells slots : Nat} {Z : State} {a0 : Array Value} {h : Heap} {ms : List Addr} {own nm text : String} {mybytes : ByteArray} {ml index n : Nat} {rt : Option FieldType} {g : JFrame}
/-- a constant that is booked at T', and whose address is older than this load, was held at the start -/
theorem own_heldZ {T' : State} {vm0 : Vm} {Ts : List String} {a : Addr} (hW : Z.Warmed39 T'.vm) (w : (Jvm.Cond.stringLink own index text).before a0 Z = true) (I : IB Z vm0 Ts) (hnot : text ∉ Ts) (lit : Lit T' own index a) (hHZ : ConstHeldL Z own index) {cO : ClassId} (hcO : Z.vm.findClass own = some cO)
    (hint : T'.vm.interned = vm0.interned ∨ ∃ (u : Array UInt16) (a' : Addr), T'.vm.interned = vm0.interned.push (u, a') ∧ a ≠ a') : ∃ units, SlOf Z a units := by
  obtain ⟨k, cf, i, units, hk, hcf, hp, hu, hnm, htext, -⟩ := Cond.stringLink_spec hcO w
  obtain ⟨k', hk', hke, -, ee, -⟩ := hW.2.2.2 cO k hk
  have hl : k'.resolved[index]? = some (some (.string a)) := by
    have q : T'.resolvedAt? own index = some (.string a) := lit
    have f : T'.vm.findClass own = some cO := by rw [hW.alike.findClass]; exact hcO
    simp only [State.resolvedAt?, f, hk', Option.bind_eq_bind, Option.bind_some] at q
    cases hr : k'.resolved[index]? with
    | none => simp [hr] at q
    | some y => cases y <;> simp [hr] at q; rw [q]
  have hfind : vm0.interned.find? (fun p => p.1 == units) = some (units, a) → Z.vm.interned.find? (fun p => p.1 == units) = some (units, a) := fun hf => by
    obtain ⟨more, e, hm⟩ := I
    rw [e, Array.find?_append] at hf
    cases hs : Z.vm.interned.find? (fun p => p.1 == units) with
    | some pr => rw [hs] at hf; simpa using hf
    | none =>
      rw [hs, Option.none_or] at hf
      obtain ⟨t, ht, hd⟩ := hm _ (Array.mem_of_find?_eq_some hf)
      cases htext.symm.trans hd
      exact absurd ht hnot
  rcases ee index with e0 | ⟨hop, r, e1, hr | ⟨a3, t, si, us, rfl, -, q3, q4, q5⟩⟩
  · exact ⟨units, hHZ cO k cf i units a hcO hk hcf hp hu (Or.inl (e0 ▸ hl))⟩
  · exfalso
    cases r <;> simp [State.rightAt, hk, hcf, hnm] at hr
  · rw [hcf] at q3 q4
    obtain rfl : si = i := by have := q3.symm.trans hp; simpa using this
    obtain rfl : us = units := by simpa [ConstantPool.utf8?, hu] using q4.symm
    obtain rfl : a3 = a := by have := e1.symm.trans hl; simpa using this
    refine ⟨us, hHZ cO k cf si us a3 hcO hk hcf hp hu (Or.inr ⟨hop, hfind ?_⟩)⟩
    rcases hint with q | ⟨u, a', q, hne⟩
    · rw [← q]; exact q5
    · rw [q, Array.find?_push] at q5
      cases hs : vm0.interned.find? (fun p => p.1 == us) with
      | some pr => rw [hs] at q5; simpa using q5
      | none =>
        rw [hs, Option.none_or] at q5
        split at q5
        · cases q5; exact absurd rfl hne
        · cases q5
theorem own_ldcV (Cc : Cx Z p b m meth c own mybytes ml nm rt) (hB : Bs s b h) (J : Hd Z ms b.vm h) (X : Stand p l e R b m args below meth c T locs cells slots) (hC : (own, index, text) ∈ litCs) (hD : ∀ q ∈ litCs, q.2.2 = text → q = (own, index, text))
    (w : (Jvm.Cond.stringLink own index text).before a0 Z = true) (wS : ∀ a ∈ Bundle.stringAtoms, a.before a0 Z = true) (hl : ∀ c ∈ text.toList, c.toNat < 256) (hsz : text.toList.length < 2147483648) (N : Fr s.heap.size locs) (hks : Ext Z.heap s.heap)
    (eT : T.heap = h) (hg : g.method = m) (hd : decode c.code g.pc = .ok (.ldc index, 2)) (hn : 4 * text.toList.length ≤ n) (hbig : n ≤ 536870912) (hc : cells + 2 ≤ R.cells) (hl' : slots + (n + 4) ≤ R.slots) :
    ∃ (a t : Addr) (k : ClassId) (b' T' : State) (h' : Heap), T'.heap = h' ∧ Cx Z p b' m meth c own mybytes ml nm rt ∧ Stand p l e R b' m args below meth c T' locs (cells + 2) (slots + (n + 4)) ∧ Bs s b' h' ∧ Hd Z ms b'.vm h' ∧ Ext h h' ∧ Says Z h' a t k text ∧ a ∉ ms ∧ t ∉ ms ∧ Lit b' own index a ∧ ∀ u, Steps p.tables e below (T'.setTop { g with pc := g.pc + 2, stack := .ref a :: g.stack }) u → Steps p.tables e below (T.setTop g) u := by
  obtain ⟨vm0, k0, rfl, hS, hk⟩ := hB
  obtain ⟨hx, hZ, hown, r⟩ := Cc
  obtain ⟨A, E, M, Ts, I, L⟩ := id J
  have hH : Jvm.Lit.constHeld Z own index := A.1 _ hC
  have hcw := A.2 a0
  rcases L _ hC with hnot | ⟨a, t, k, lit, says, n1, n2⟩
  · have wi : (Jvm.Cond.instantiable "java/lang/String" 4).before a0 Z = true := wS _ (by simp [Bundle.stringAtoms, Bundle.sN])
    have wa : (Jvm.Cond.arrayClass .byte).before a0 Z = true := wS _ (by simp [Bundle.stringAtoms])
    have hHZ : ConstHeldL Z own index := heldStart hH w hl hcw wa wi
    obtain ⟨a, T', X', hS', ⟨kk, hkk, hrr⟩, hb, hI1, hint, ⟨units, htext, hin⟩, st⟩ := X.ldcColdF (oldF X N) hx (own := own) hown (mvS hZ w) (fun d hd => by
      have q := wS d hd
      simp only [Bundle.stringAtoms, List.mem_cons, List.not_mem_nil, or_false] at hd
      rcases hd with rfl | rfl | rfl | rfl | rfl | rfl | rfl
      · exact mv (s := s.setVm vm0) hZ q
      · exact mv (s := s.setVm vm0) hZ q
      · exact mvA (s := s.setVm vm0) hZ q
      · exact mv (s := s.setVm vm0) hZ q
      · exact mv (s := s.setVm vm0) hZ q
      · exact mv (s := s.setVm vm0) hZ q
      · exact mv (s := s.setVm vm0) hZ q) (heldCarry hZ w I hnot hks.2 hHZ) (fun u hu => Jvm.ClassFile.lat_of_text hu hl) hg hd hn hbig hc hl'
    subst eT
    have E' := ext_of hb
    have hW : Z.Warmed39 T'.vm := State.Warmed39.trans (t := s.setVm vm0) hZ hS'.1
    have hTi : T.vm.interned = vm0.interned := X.warmed.interned_eq
    obtain ⟨t, k, says, hloc⟩ := slin_says hW.alike hin htext hl hsz
    have hf : T'.vm.findClass own = some m.cls := by rw [hS'.1.alike.findClass]; exact hown
    have lit : Lit (s.setVm T'.vm) own index a := by simp [Lit, State.resolvedAt?, hf, hkk, hrr]
    have EZ : Ext Z.heap T'.heap := ⟨Nat.le_trans E.1 E'.1, fun a c q => E'.2 a c (E.2 a c q)⟩
    have hap : (a < Z.heap.size ∧ t < Z.heap.size) ∨ (T.heap.size ≤ a ∧ T.heap.size ≤ t) := by
      rcases hloc with ⟨l1, l2⟩ | q
      · left
        have hcO : Z.vm.findClass own = some m.cls := by rw [← hW.alike.findClass]; exact hf
        have hsT : s.heap.size ≤ T.heap.size := X.same.2.1
        obtain ⟨us, q, cS, rfl, ⟨⟨s1, -, -, ⟨cv, kv, iv, s4, -⟩, -, -, -, s8, -, s10, -⟩, -⟩, -⟩ := own_heldZ (T' := T') hW w I hnot lit hHZ hcO (by
          rcases hI1.2 with q | ⟨u, a', q, q2, -⟩
          · exact Or.inl (q.trans hTi)
          · exact Or.inr ⟨u, a', by rw [q, hTi]; rfl, fun z => absurd l1 (Nat.not_lt.mpr (by rw [z]; exact Nat.le_trans hsT q2))⟩)
        obtain ⟨cell, cf, kf, i, f, f1, f2, -, -, -, -, f7⟩ := says.2.2.1
        cases (EZ.2 _ _ s1).symm.trans f1
        cases s4.symm.trans f2
        cases s8.symm.trans f7
        exact ⟨(Array.getElem?_eq_some_iff.mp s1).1, (Array.getElem?_eq_some_iff.mp s10).1⟩
      · exact Or.inr q
    have n1 : a ∉ ms := fun z => by
      obtain ⟨m1, m2⟩ := M a z
      rcases hap with ⟨h1, -⟩ | ⟨h1, -⟩
      · exact absurd h1 (Nat.not_lt.mpr m1)
      · exact absurd m2 (Nat.not_lt.mpr h1)
    have n2 : t ∉ ms := fun z => by
      obtain ⟨m1, m2⟩ := M t z
      rcases hap with ⟨-, h1⟩ | ⟨-, h1⟩
      · exact absurd h1 (Nat.not_lt.mpr m1)
      · exact absurd m2 (Nat.not_lt.mpr h1)
    refine ⟨a, t, k, s.setVm T'.vm, T', _, rfl, ⟨hx, hW, hf, r⟩, X', ⟨T'.vm, T'.heap.size, rfl, hS.trans hS' (Nat.le_trans hk E'.1), Nat.le_refl _⟩, ⟨A, EZ, fun y hy => ⟨(M y hy).1, Nat.lt_of_lt_of_le (M y hy).2 E'.1⟩, text :: Ts, I.step (by have q := hint; rw [hTi] at q; exact q), fun q hq => ?_⟩, E', says, n1, n2, lit, st⟩
    by_cases hqt : q.2.2 = text
    · obtain rfl := hD q hq hqt
      exact Or.inr ⟨a, t, k, lit, says, n1, n2⟩
    · rcases L q hq with h1 | ⟨a2, t2, k2, l2, s2, r2⟩
      · exact Or.inl (fun z => (List.mem_cons.mp z).elim hqt h1)
      · exact Or.inr ⟨a2, t2, k2, Lit.stays (s := s) (vm0 := vm0) l2 hS'.1, s2.ext E', r2⟩
  · exact ⟨a, t, k, s.setVm vm0, T, h, eT, ⟨hx, hZ, hown, r⟩, X.mono (by omega) (by omega), ⟨vm0, k0, rfl, hS, hk⟩, J, ⟨Nat.le_refl _, fun _ _ q => q⟩, says, n1, n2, lit, ldcAgain X hx hZ hown w lit hg hd⟩
/-- a second load in one walk -/
theorem own_ldcA {a : Addr} (Cc : Cx Z p b m meth c own mybytes ml nm rt) (X : Stand p l e R b m args below meth c T locs cells slots) (hB : Bs s b h) (w : (Jvm.Cond.stringLink own index text).before a0 Z = true) (lit : Lit b own index a) (hg : g.method = m) (hd : decode c.code g.pc = .ok (.ldc index, 2)) :
    ∀ u, Steps p.tables e below (T.setTop { g with pc := g.pc + 2, stack := .ref a :: g.stack }) u → Steps p.tables e below (T.setTop g) u := by
  obtain ⟨vm0, k0, rfl, hS, hk⟩ := hB
  exact ldcAgain X Cc.1 Cc.2.1 Cc.2.2.1 w lit hg hd
end OwnLdc

section OwnStr
abbrev lo8 (x : Int32) : Int32 := x.toInt8.toInt32
theorem oi_toInt {i : Nat} (h : i < 2147483648) : (Int32.ofNat i).toInt = i := Int32.toInt_ofNat_small h
theorem oi_nn {i : Nat} (h : i < 2147483648) : ¬ Int32.ofNat i < 0 := by
  rw [Int32.lt_iff_toInt_lt, oi_toInt h, Int32.toInt_zero]; omega
theorem oi_nat {i : Nat} (h : i < 2147483648) : (Int32.ofNat i).toNatClampNeg = i := by
  have q := nat_of (oi_nn h)
  rw [oi_toInt h] at q; omega
theorem oi_lt {i n : Nat} (hi : i < 2147483648) (hn : n < 2147483648) (q : i < n) : Int32.ofNat i < Int32.ofNat n := by
  rw [Int32.lt_iff_toInt_lt, oi_toInt hi, oi_toInt hn]; omega
theorem oi_nlt {i n : Nat} (hi : i < 2147483648) (hn : n < 2147483648) (q : ¬ i < n) : ¬ Int32.ofNat i < Int32.ofNat n := by
  rw [Int32.lt_iff_toInt_lt, oi_toInt hi, oi_toInt hn]; omega
theorem oi_succ {i : Nat} (h : i + 1 < 2147483648) : Int32.ofNat i + (1 : Int32) = Int32.ofNat (i + 1) := by
  have q := c_iadd (Int32.ofNat i) 1
  have r := rng32 (Int32.ofNat i + 1)
  rw [oi_toInt (by omega), show (1 : Int32).toInt = 1 from rfl] at q
  apply Int32.toInt_inj.mp
  rw [oi_toInt h]; omega
theorem nar_b (x : Int32) : nar .byte (lo8 x) = lo8 x := by
  have a := c_i2b x
  have b := c_i2b (x.toInt8.toInt32)
  apply Int32.toInt_inj.mp
  show (x.toInt8.toInt32.toInt8.toInt32).toInt = x.toInt8.toInt32.toInt
  omega
theorem fits_b (x : Int32) : fits .byte (.int (lo8 x)) = true := fits_nar_byte x
theorem c_rng {x : Int32} (h0 : ¬ x < 0) (h1 : ¬ 65535 < x) : 0 ≤ x.toInt ∧ x.toInt ≤ 65535 := by
  rw [Int32.lt_iff_toInt_lt] at h0 h1
  exact ⟨by simpa using h0, by simpa using h1⟩
theorem nar_c {x : Int32} (h0 : ¬ x < 0) (h1 : ¬ 65535 < x) : nar .char x = x := by
  have a := c_rng h0 h1
  have b := c_i2c x
  apply Int32.toInt_inj.mp
  show (x.toUInt32.toUInt16.toUInt32.toInt32).toInt = x.toInt
  omega
theorem fits_c {x : Int32} (h0 : ¬ x < 0) (h1 : ¬ 65535 < x) : fits .char (.int x) = true := by
  have q := fits_nar_char x
  rwa [nar_c h0 h1] at q
theorem le255 {x : Int32} (h1 : ¬ 255 < x) : ¬ 65535 < x := by
  rw [Int32.lt_iff_toInt_lt] at h1 ⊢
  have a : (255 : Int32).toInt = 255 := by decide
  have b : (65535 : Int32).toInt = 65535 := by decide
  omega
theorem chr8 (x : Int32) : ¬ (x &&& (255 : Int32)).toUInt32.toUInt16.toUInt32.toInt32 < 0 ∧ ¬ 255 < (x &&& (255 : Int32)).toUInt32.toUInt16.toUInt32.toInt32 := by
  rw [i2c_mask]
  have q := c_and x 255 (by decide)
  have a : (255 : Int32).toInt = 255 := by decide
  rw [Int32.lt_iff_toInt_lt, Int32.lt_iff_toInt_lt, Int32.toInt_zero]
  omega
theorem own_push {Z : State} {h h' : Heap} {a : Addr} {k : ClassId} {ty : FieldType} {z j : Int32} {vs : List Value} {v dv : Value} (V : Arv Z h a k ty z vs dv) (W : Wr h h' a j.toNatClampNeg v) (hj : j.toNatClampNeg = vs.length) (hv : fits ty v = true) : Arv Z h' a k ty z (vs ++ [v]) dv := by
  obtain ⟨c, A, q1, S, q3, H, G⟩ := V.pad (pad_rep vs dv 1)
  have q := Arv.set A q1 S q3 H G hv W vs.length hj (by simp)
  simpa [List.set_append] using q
theorem getD_int (cs : List Int32) (i : Nat) : (cs.map Value.int).getD i (.int 0) = .int (cs.getD i 0) := by
  simp only [List.getD_eq_getElem?_getD, List.getElem?_map]
  cases cs[i]? <;> rfl
theorem take_push (cs : List Int32) {i : Nat} (h : i < cs.length) (f : Int32 → Value) : (cs.take i).map f ++ [f (cs.getD i 0)] = (cs.take (i + 1)).map f := by
  rw [List.take_succ_eq_append_getElem h, List.map_append, List.getD_eq_getElem?_getD, List.getElem?_eq_getElem h]; rfl
theorem mem_getD {cs : List Int32} {i : Nat} (h : i < cs.length) : cs.getD i 0 ∈ cs := by
  rw [List.getD_eq_getElem?_getD, List.getElem?_eq_getElem h]; exact List.getElem_mem h
theorem oi_inj {a b : Nat} (ha : a < 2147483648) (hb : b < 2147483648) (q : Int32.ofNat a = Int32.ofNat b) : a = b := by
  have r := congrArg Int32.toInt q
  rw [oi_toInt ha, oi_toInt hb] at r; omega
theorem oi_nil {cs : List Int32} {n : Nat} (hn : cs.length ≤ n) (q : Int32.ofNat cs.length = 0) (hs : n < 2147483648 := by decide) : cs = [] := by
  have r := oi_inj (b := 0) (by omega) (by decide) q
  exact List.eq_nil_of_length_eq_zero r
theorem asB {Z : State} {h : Heap} {t : Addr} {k : ClassId} {cs : List Int32} {dv : Value} (q : Arv Z h t k .byte (Int32.ofNat cs.length) (cs.map fun x => Value.int (lo8 x)) dv) : Arv Z h t k .byte (Int32.ofNat (cs.map lo8).length) ((cs.map lo8).map Value.int) dv := by
  rw [List.length_map, List.map_map]; exact q
theorem teq_all {b1 b2 : List Int32} {i : Nat} (hl : b1.length = b2.length) (hi : i + 0 = b1.length) (h : b1.take i = b2.take i) : b1 = b2 := by
  have e : i = b1.length := by omega
  rw [e, List.take_length, hl, List.take_length] at h; exact h
theorem teq_step {b1 b2 : List Int32} {i : Nat} (h : b1.take i = b2.take i) (h1 : i < b1.length) (h2 : i < b2.length) (q : b1.getD i 0 = b2.getD i 0) : b1.take (i + 1) = b2.take (i + 1) := by
  rw [List.getD_eq_getElem?_getD, List.getD_eq_getElem?_getD, List.getElem?_eq_getElem h1, List.getElem?_eq_getElem h2] at q
  rw [List.take_succ_eq_append_getElem h1, List.take_succ_eq_append_getElem h2, h]
  exact congrArg (fun z => b2.take i ++ [z]) q
theorem nar_z {x : Int32} (h : x = 1 ∨ x = 0) : nar .boolean x = x := by rcases h with rfl | rfl <;> decide
theorem fits_z {x : Int32} (h : x = 1 ∨ x = 0) : fits .boolean (.int x) = true := by rcases h with rfl | rfl <;> decide
theorem and3 (x : Int32) : x &&& 3 = 0 ∨ x &&& 3 = 1 ∨ x &&& 3 = 2 ∨ x &&& 3 = 3 := by
  have q := c_and x 3 (by decide)
  have a : (3 : Int32).toInt = 3 := by decide
  have r : (x &&& 3).toInt = 0 ∨ (x &&& 3).toInt = 1 ∨ (x &&& 3).toInt = 2 ∨ (x &&& 3).toInt = 3 := by omega
  rcases r with r | r | r | r
  · exact Or.inl (Int32.toInt_inj.mp r)
  · exact Or.inr (Or.inl (Int32.toInt_inj.mp r))
  · exact Or.inr (Or.inr (Or.inl (Int32.toInt_inj.mp r)))
  · exact Or.inr (Or.inr (Or.inr (Int32.toInt_inj.mp r)))
theorem rem3 (x : Int32) : (x &&& 3) % 3 = 0 ∨ (x &&& 3) % 3 = 1 ∨ (x &&& 3) % 3 = 2 := by
  rcases and3 x with r | r | r | r <;> rw [r] <;> decide
theorem lo8_inj {x y : Int32} (hx : ¬ x < 0 ∧ ¬ 255 < x) (hy : ¬ y < 0 ∧ ¬ 255 < y) (h : lo8 x = lo8 y) : x = y := by
  obtain ⟨x0, x1⟩ := hx
  obtain ⟨y0, y1⟩ := hy
  have a : (255 : Int32).toInt = 255 := by decide
  rw [Int32.lt_iff_toInt_lt, Int32.toInt_zero] at x0 y0
  rw [Int32.lt_iff_toInt_lt] at x1 y1
  have q : x.toInt8.toInt32.toInt = y.toInt8.toInt32.toInt := congrArg Int32.toInt h
  have cx := c_i2b x
  have cy := c_i2b y
  apply Int32.toInt_inj.mp
  omega
theorem q_back {q : Int32} (h : ¬ q < 0) : Int32.ofNat q.toNatClampNeg = q := by
  have a := nat_of h
  have r := rng32 q
  apply Int32.toInt_inj.mp
  rw [oi_toInt (by omega), a]
theorem own_idx {j : Int32} {n : Nat} (h : ¬ (j < 0 ∨ n ≤ j.toNatClampNeg)) : j.toNatClampNeg.toInt32 = j := q_back (fun q => h (Or.inl q))
end OwnStr

theorem litI_nil : litI "" = [] := by decide +kernel
theorem asN {Z : State} {h : Heap} {t : Addr} {k : ClassId} {cs : List Int32} {dv : Value} (q : Arv Z h t k .byte (Int32.ofNat (litI "").length) ((litI "").map Value.int) dv) (e : cs = []) : Arv Z h t k .byte (Int32.ofNat (cs.map lo8).length) ((cs.map lo8).map Value.int) dv := by
  rw [litI_nil] at q; subst e; exact q
theorem own_compact {Z : State} {a1 a0 : Array Value} (q : (Jvm.Cond.not (Jvm.Cond.eq (Jvm.Term.static "java/lang/String" "COMPACT_STRINGS" "Z") (Jvm.Term.int 0))).before a1 Z = true) : Jvm.Lit.compactW.before a0 Z = true := q

theorem own_wS (Z : State) (a0 : Array Value) (hw : ∀ d ∈ tables_1, d.before a0 Z = true) : ∀ a ∈ Bundle.stringAtoms, a.before a0 Z = true := by
  intro a ha
  simp only [Bundle.stringAtoms, List.mem_cons, List.not_mem_nil, or_false] at ha
  rcases ha with rfl | rfl | rfl | rfl | rfl | rfl | rfl
  · exact (hw _ (List.mem_of_getElem? (i := 6) rfl))
  · exact (hw _ (List.mem_of_getElem? (i := 5) rfl))
  · exact (hw _ (List.mem_of_getElem? (i := 19) rfl))
  · exact (hw _ (List.mem_of_getElem? (i := 20) rfl))
  · exact (hw _ (List.mem_of_getElem? (i := 21) rfl))
  · exact (hw _ (List.mem_of_getElem? (i := 22) rfl))
  · exact (hw _ (List.mem_of_getElem? (i := 23) rfl))

theorem own_sh0 (x : Int32) : x >>> ((0 : Int32) &&& 31) = x := by
  rw [show ((0 : Int32) &&& 31) = 0 from by decide]; exact Int32.shiftRight_zero
theorem own_sl0 (x : Int32) : x <<< ((0 : Int32) &&& 31) = x := by
  rw [show ((0 : Int32) &&& 31) = 0 from by decide]; exact Int32.shiftLeft_zero
def chV (b : List Int32) (i : Int32) : Int32 := ((b.getD i.toNatClampNeg 0) &&& (255 : Int32)).toUInt32.toUInt16.toUInt32.toInt32
theorem own_c2 (x : Int32) : nar .char (x &&& (255 : Int32)).toUInt32.toUInt16.toUInt32.toInt32 = (x &&& (255 : Int32)).toUInt32.toUInt16.toUInt32.toInt32 := nar_c (chr8 x).1 (le255 (chr8 x).2)
theorem oi_add {a b : Nat} (h : a + b < 2147483648) : Int32.ofNat a + Int32.ofNat b = Int32.ofNat (a + b) := by
  have q := c_iadd (Int32.ofNat a) (Int32.ofNat b)
  have r := rng32 (Int32.ofNat a + Int32.ofNat b)
  rw [oi_toInt (by omega), oi_toInt (by omega)] at q
  apply Int32.toInt_inj.mp
  rw [oi_toInt h]; omega
theorem own_ens {j : Nat} (h : j ≤ 16) : ¬ (0 : Int32) < Int32.ofNat j - (16 : Int32) := by
  have q := c_isub (Int32.ofNat j) 16
  have r := rng32 (Int32.ofNat j - 16)
  rw [oi_toInt (by omega), show (16 : Int32).toInt = 16 from rfl] at q
  rw [Int32.lt_iff_toInt_lt, Int32.toInt_zero]; omega
theorem own_lt16 {j : Nat} (h : j < 16) : Int32.ofNat j < (16 : Int32) := by
  rw [Int32.lt_iff_toInt_lt, oi_toInt (by omega), show (16 : Int32).toInt = 16 from rfl]; omega
theorem own_ne16 {j : Nat} (h : j < 16) : ¬ Int32.ofNat j = (16 : Int32) := fun q => by
  have r := congrArg Int32.toInt q
  rw [oi_toInt (by omega), show (16 : Int32).toInt = 16 from rfl] at r; omega
theorem cp4 {n : Nat} {z : Int32} (hn : n < 2147483648) (h : n ≤ z.toNatClampNeg) : (0 : Int32).toNatClampNeg + (Int32.ofNat n).toNatClampNeg ≤ z.toNatClampNeg := by
  rw [oi_nat hn, show (0 : Int32).toNatClampNeg = 0 from rfl]; omega
theorem cp5 {a n : Nat} {z : Int32} (ha : a < 2147483648) (hn : n < 2147483648) (h : a + n ≤ z.toNatClampNeg) : (Int32.ofNat a).toNatClampNeg + (Int32.ofNat n).toNatClampNeg ≤ z.toNatClampNeg := by
  rw [oi_nat hn, oi_nat ha]; exact h
theorem cpu (cs : List Int32) (hn : cs.length < 2147483648) : cs.map Value.int = (List.range (Int32.ofNat cs.length).toNatClampNeg).map fun i => (cs.map Value.int).getD ((0 : Int32).toNatClampNeg + i) (.int 0) := by
  rw [oi_nat hn, show (0 : Int32).toNatClampNeg = 0 from rfl]
  refine List.ext_getElem (by simp) fun i h1 h2 => ?_
  have hi : i < cs.length := by simpa using h1
  simp [List.getD_eq_getElem?_getD, hi]
theorem cpl (bs cs : List Int32) (hb : bs.length < 2147483648) (hn : cs.length < 2147483648) : (Int32.ofNat bs.length).toNatClampNeg + (Int32.ofNat cs.length).toNatClampNeg ≤ (bs.map Value.int ++ List.replicate cs.length (Value.int 0)).length := by
  rw [oi_nat hn, oi_nat hb]; simp
theorem cp_res (bs cs : List Int32) (hb : bs.length < 2147483648) (hn : cs.length < 2147483648) : ((bs.map Value.int ++ List.replicate cs.length (Value.int 0)).take (Int32.ofNat bs.length).toNatClampNeg ++ cs.map Value.int ++ (bs.map Value.int ++ List.replicate cs.length (Value.int 0)).drop ((Int32.ofNat bs.length).toNatClampNeg + (Int32.ofNat cs.length).toNatClampNeg)) = (bs ++ cs).map Value.int := by
  rw [oi_nat hn, oi_nat hb]
  have e1 : (bs.map Value.int ++ List.replicate cs.length (Value.int 0)).take bs.length = bs.map Value.int := by
    rw [List.take_append_of_le_length (by simp)]; exact List.take_of_length_le (by simp)
  have e2 : (bs.map Value.int ++ List.replicate cs.length (Value.int 0)).drop (bs.length + cs.length) = [] := List.drop_of_length_le (by simp)
  rw [e1, e2, List.append_nil, List.map_append]
theorem own_isr {args : Array Value} {s : State} {t : Term} (h : (Jvm.Cond.isRef t).value args s none s [] = some true) : ∃ v : Value, (v = .null ∨ ∃ a, v = .ref a) ∧ t.eval args s none [] s = some v := by
  cases ha : t.eval args s none [] s with
  | none => simp [Cond.value, ha] at h
  | some x =>
    cases x <;> simp [Cond.value, ha] at h
    · exact ⟨_, Or.inl rfl, rfl⟩
    · exact ⟨_, Or.inr ⟨_, rfl⟩, rfl⟩

def mkL (n x y : Int32) : List Int32 := if n = 0 then [] else if n = 1 then [x] else [x, y]
theorem mkL_len (n x y : Int32) : ((mkL n x y).map lo8).length < 2147483648 := by
  rw [List.length_map]
  by_cases h0 : n = 0
  · simp [mkL, h0]
  by_cases h1 : n = 1
  · simp [mkL, h1]
  simp [mkL, h0, h1]
theorem mkL_eq {n m x y u v : Int32} (hn : n = 0 ∨ n = 1 ∨ n = 2) (hm : m = 0 ∨ m = 1 ∨ m = 2) (hx : ¬ x < 0 ∧ ¬ 255 < x) (hy : ¬ y < 0 ∧ ¬ 255 < y) (hu : ¬ u < 0 ∧ ¬ 255 < u) (hv : ¬ v < 0 ∧ ¬ 255 < v) :
    (mkL m u v).map lo8 = (mkL n x y).map lo8 ↔ n = m ∧ (n < 1 ∨ x = u) ∧ (n < 2 ∨ y = v) := by
  have a : lo8 u = lo8 x ↔ x = u := ⟨fun q => (lo8_inj hu hx q).symm, fun q => by rw [q]⟩
  have b : lo8 v = lo8 y ↔ y = v := ⟨fun q => (lo8_inj hv hy q).symm, fun q => by rw [q]⟩
  rcases hn with rfl | rfl | rfl <;> rcases hm with rfl | rfl | rfl <;> simp only [mkL, if_true, if_false, reduceIte, List.map_cons, List.map_nil, List.cons.injEq, and_true, true_and, a, b, show (0 : Int32) < 1 by decide, show (0 : Int32) < 2 by decide, show (1 : Int32) < 2 by decide, show ¬ (1 : Int32) < 1 by decide, show ¬ (2 : Int32) < 1 by decide, show ¬ (2 : Int32) < 2 by decide, show (1 : Int32) ≠ 0 by decide, show (2 : Int32) ≠ 0 by decide, show (2 : Int32) ≠ 1 by decide, show (0 : Int32) ≠ 1 by decide, show (0 : Int32) ≠ 2 by decide, show (1 : Int32) ≠ 2 by decide, false_or, true_or, false_and, reduceCtorEq, and_false, iff_self]
theorem mkL_le (n x y : Int32) : ((mkL n x y).map lo8).length ≤ 2 := by
  rw [List.length_map]
  by_cases h0 : n = 0
  · simp [mkL, h0]
  by_cases h1 : n = 1
  · simp [mkL, h1]
  simp [mkL, h0, h1]
theorem and255 (x : Int32) : (x &&& 255).toInt = x.toInt % 256 := by
  have h1 : (x &&& 255).toBitVec.toNat = x.toBitVec.toNat % 256 := by
    show (x.toBitVec &&& (255 : Int32).toBitVec).toNat = _
    rw [BitVec.toNat_and, show (255 : Int32).toBitVec.toNat = 2 ^ 8 - 1 from by decide, Nat.and_two_pow_sub_one_eq_mod]
  have e1 := BitVec.toInt_eq_toNat_cond (x &&& 255).toBitVec
  have e2 := BitVec.toInt_eq_toNat_cond x.toBitVec
  have h2 := x.toBitVec.isLt
  show (x &&& 255).toBitVec.toInt = x.toBitVec.toInt % 256
  rw [e1, e2, h1]
  split <;> split <;> omega
theorem chr_lo8 {x : Int32} (h : ¬ x < 0 ∧ ¬ 255 < x) : (lo8 x &&& (255 : Int32)).toUInt32.toUInt16.toUInt32.toInt32 = x := by
  obtain ⟨x0, x1⟩ := h
  have a : (255 : Int32).toInt = 255 := by decide
  rw [Int32.lt_iff_toInt_lt, Int32.toInt_zero] at x0
  rw [Int32.lt_iff_toInt_lt] at x1
  rw [i2c_mask]
  have cx := c_i2b x
  have m : (x.toInt8.toInt32 &&& 255).toInt = x.toInt8.toInt32.toInt % 256 := and255 (lo8 x)
  apply Int32.toInt_inj.mp
  show (x.toInt8.toInt32 &&& 255).toInt = x.toInt
  omega
theorem mkL_len_eq {n x y : Int32} (hn : n = 0 ∨ n = 1 ∨ n = 2) : ((mkL n x y).map lo8).length = n.toNatClampNeg := by
  rw [List.length_map]
  rcases hn with rfl | rfl | rfl
  · simp only [mkL, if_true]; rfl
  · simp only [mkL, show ¬ (1 : Int32) = 0 by decide, if_false, if_true]; rfl
  · simp only [mkL, show ¬ (2 : Int32) = 0 by decide, show ¬ (2 : Int32) = 1 by decide, if_false]; rfl

theorem pn0 : plainName "java/lang/StringLatin1" = true := by first | (simp [plainName, overriddenIn]; done) | decide +kernel
theorem d37_0 : decode jdk_43_method_3_code 0 = .ok (.iload_n 0, 1) := by decide +kernel
theorem d37_1 : decode jdk_43_method_3_code 1 = .ok (.sipush 255, 3) := by decide +kernel
theorem d37_4 : decode jdk_43_method_3_code 4 = .ok (.if_icmp .gt 7, 3) := by decide +kernel
theorem d37_7 : decode jdk_43_method_3_code 7 = .ok (.iconst 1, 1) := by decide +kernel
theorem d37_8 : decode jdk_43_method_3_code 8 = .ok (.goto 4, 3) := by decide +kernel
theorem d37_12 : decode jdk_43_method_3_code 12 = .ok (.ireturn, 1) := by decide +kernel
set_option maxRecDepth 65536 in
set_option maxHeartbeats 40000000 in
theorem rm37 (l : Launch) (Z : State) (a0 : Array Value) (hw : ∀ d ∈ tables_1, d.before a0 Z = true) (ws : List Jvm.Cond) (c1 : Int32) (ms : List Addr) (h0 : Heap) (n0 : Nat) (O0 : Old Z n0 h0) (nb : Nat) (hb0 : n0 ≤ nb) (hnb : nb ≤ h0.size) (q1 : ¬ 255 < c1) :
    Con l Z ms (⟨"java/lang/StringLatin1", "canEncode", "(C)Z"⟩ : MethodName) jdk_43_method_3_code 1 (some .boolean) ws ({ frames := 0, cells := 0, slots := 0, locals := 0 } : Room) #[(.int c1)] h0 (fun v vm h L => v = some (.int 1) ∧ Fr nb L ∧ h = h0) := by
  refine Con.mk (plainFor_of_name pn0) ?_
  intro p e s m below meth c s₁ Cc X0 e0 eb J0 B0 M0
  obtain ⟨hx, hZ, hown, hby, hml, hnm, hret, hlk⟩ := id Cc
  have N0 := Fr.nil h0.size
  have K0 := Keep.refl h0 []
  show Go p e s below _ _ _ _ s₁ (mkF m 0 #[.val (.int c1)] [])
  refine Go.of (fun _ hr => XS.iloadN X0.here hx rfl (hb hby d37_0) rfl  hr) ?_
  show Go p e s below _ _ _ _ s₁ (mkF m 1 #[.val (.int c1)] [(.int c1)])
  refine Go.of (fun _ hr => XS.sipush X0.here hx rfl (hb hby d37_1) hr) ?_
  show Go p e s below _ _ _ _ s₁ (mkF m 4 #[.val (.int c1)] [(.int (255 : Int32)), (.int c1)])
  refine Go.of (fun _ hr => XS.icmpNo X0.here hx rfl (hb hby d37_4) rfl (flt q1).2.2.1 hr) ?_
  show Go p e s below _ _ _ _ s₁ (mkF m 7 #[.val (.int c1)] [])
  refine Go.of (fun _ hr => XS.iconst X0.here hx rfl (hb hby d37_7) hr) ?_
  show Go p e s below _ _ _ _ s₁ (mkF m 8 #[.val (.int c1)] [(.int (1 : Int32))])
  refine Go.of (fun _ hr => XS.goto X0.here hx rfl (pc0 := 8) (pc' := 12) rfl (hb hby d37_8) (by decide) (by decide) hr) ?_
  show Go p e s below _ _ _ _ s₁ (mkF m 12 #[.val (.int c1)] [(.int (1 : Int32))])
  exact Go.retN X0 hx hlk B0 J0 e0 (t := .boolean) (z' := (1 : Int32)) hret (by simp) (hb hby d37_12) rfl (by decide) (by decide) (fun vm_ hw_ => ⟨rfl, (fun y hy => Nat.le_trans hnb (N0 y hy)), rfl⟩)

theorem d38_0 : decode jdk_43_method_46_code 0 = .ok (.iconst 1, 1) := by decide +kernel
theorem d38_1 : decode jdk_43_method_46_code 1 = .ok (.newarray .byte, 2) := by decide +kernel
theorem d38_3 : decode jdk_43_method_46_code 3 = .ok (.dup, 1) := by decide +kernel
theorem d38_4 : decode jdk_43_method_46_code 4 = .ok (.iconst 0, 1) := by decide +kernel
theorem d38_5 : decode jdk_43_method_46_code 5 = .ok (.iload_n 0, 1) := by decide +kernel
theorem d38_6 : decode jdk_43_method_46_code 6 = .ok (.i2b, 1) := by decide +kernel
theorem d38_7 : decode jdk_43_method_46_code 7 = .ok (.bastore, 1) := by decide +kernel
theorem d38_8 : decode jdk_43_method_46_code 8 = .ok (.areturn, 1) := by decide +kernel
set_option maxRecDepth 65536 in
set_option maxHeartbeats 40000000 in
theorem rm38 (l : Launch) (Z : State) (a0 : Array Value) (hw : ∀ d ∈ tables_1, d.before a0 Z = true) (ws : List Jvm.Cond) (c1 : Int32) (ms : List Addr) (h0 : Heap) (n0 : Nat) (O0 : Old Z n0 h0) (nb : Nat) (hb0 : n0 ≤ nb) (hnb : nb ≤ h0.size) :
    Con l Z ms (⟨"java/lang/StringLatin1", "toBytes", "(C)[B"⟩ : MethodName) jdk_43_method_46_code 1 (some (.array .byte)) ws ({ frames := 0, cells := 1, slots := 1, locals := 0 } : Room) #[(.int c1)] h0 (fun v vm h L => ∃ r k, v = some (.ref r) ∧ Fr nb L ∧ Ext h0 h ∧ h0.size ≤ r ∧ Arv Z h r k .byte 1 [.int (lo8 c1)] (.int 0)) := by
  refine Con.mk (plainFor_of_name pn0) ?_
  intro p e s m below meth c s₁ Cc X0 e0 eb J0 B0 M0
  obtain ⟨hx, hZ, hown, hby, hml, hnm, hret, hlk⟩ := id Cc
  have N0 := Fr.nil h0.size
  have K0 := Keep.refl h0 []
  show Go p e s below _ _ _ _ s₁ (mkF m 0 #[.val (.int c1)] [])
  refine Go.of (fun _ hr => XS.iconst X0.here hx rfl (hb hby d38_0) hr) ?_
  show Go p e s below _ _ _ _ s₁ (mkF m 1 #[.val (.int c1)] [(.int (1 : Int32))])
  obtain ⟨T101, h101, k101, X101, e101, E101, A101, st101⟩ := newP X0 hx hZ (hw _ (List.mem_of_getElem? (i := 19) rfl)) e0 (g := (mkF m 1 #[.val (.int c1)] [(.int (1 : Int32))])) rfl (hb hby d38_1) rfl (by decide) (cap := 1) (by decide) (by decide) (by decide) (by decide)
  obtain ⟨o101, g101⟩ : ∃ z, z = h0.size := ⟨_, rfl⟩
  rw [← g101] at A101 st101
  have V101 : Arv Z h101 o101 k101 .byte (1 : Int32) [(.int (0 : Int32))] (.int (0 : Int32)) := (Arv.new A101 (by decide)).pad (pad_rep [] (.int (0 : Int32)) 1)
  have lt101 : o101 < h101.size := A101.lt
  have J101 := J0.add E101 g101 lt101
  have B101 := B0.mono E101.1
  have O101 := O0.ext E101
  have sz101 : h0.size ≤ o101 := Nat.le_trans K0.1 (Nat.le_of_eq g101.symm)
  have fr101 : h0.size ≤ o101 := sz101
  have K101 := K0.ext E101
  refine Go.of (fun _ hr => st101 _ hr) ?_
  show Go p e s below _ _ _ _ T101 (mkF m 3 #[.val (.int c1)] [(.ref o101)])
  refine Go.of (fun _ hr => XS.dup X101.here hx rfl (hb hby d38_3) rfl rfl hr) ?_
  show Go p e s below _ _ _ _ T101 (mkF m 4 #[.val (.int c1)] [(.ref o101), (.ref o101)])
  refine Go.of (fun _ hr => XS.iconst X101.here hx rfl (hb hby d38_4) hr) ?_
  show Go p e s below _ _ _ _ T101 (mkF m 5 #[.val (.int c1)] [(.int (0 : Int32)), (.ref o101), (.ref o101)])
  refine Go.of (fun _ hr => XS.iloadN X101.here hx rfl (hb hby d38_5) rfl  hr) ?_
  show Go p e s below _ _ _ _ T101 (mkF m 6 #[.val (.int c1)] [(.int c1), (.int (0 : Int32)), (.ref o101), (.ref o101)])
  refine Go.of (fun _ hr => XS.i2b X101.here hx rfl (hb hby d38_6) rfl hr) ?_
  show Go p e s below _ _ _ _ T101 (mkF m 7 #[.val (.int c1)] [(.int (c1.toInt8.toInt32)), (.int (0 : Int32)), (.ref o101), (.ref o101)])
  obtain ⟨cl102, Ar102, q102, S102, N102_, H102, G102⟩ := id V101
  have hin102 : ¬ ((0 : Int32) < 0 ∨ cl102.slots.size ≤ ((0 : Int32)).toNatClampNeg) := inb_of S102 ⟨by decide, by decide⟩
  obtain ⟨T102, h102, X102, e102, W102, st102⟩ := stB X101 hx hZ e101 Ar102 (j := (0 : Int32)) hin102 (g := (mkF m 7 #[.val (.int c1)] [(.int (c1.toInt8.toInt32)), (.int (0 : Int32)), (.ref o101), (.ref o101)])) rfl rfl (hb hby d38_7)
  have W102' := W102
  rw [show nar .byte (c1.toInt8.toInt32) = (c1.toInt8.toInt32) from (nar_b _)] at W102'
  have V102 : Arv Z h102 o101 k101 .byte (1 : Int32) [(.int (c1.toInt8.toInt32))] (.int (0 : Int32)) := Arv.set Ar102 q102 S102 N102_ H102 G102 (fits_b _) W102' 0 rfl (by simp)
  have N102 := Fr.snoc X102 N0 fr101
  have J102 := J101.wr W102 (List.mem_cons_self ..)
  have B102 := B101.mono (Nat.le_of_eq W102.size.symm)
  have O102 := O101.wr W102 (Nat.le_trans (own_ole O0) fr101)
  have K102 := K101.wr W102 (Or.inr sz101)
  refine Go.of (fun _ hr => st102 _ hr) ?_
  show Go p e s below _ _ _ _ T102 (mkF m 8 #[.val (.int c1)] [(.ref o101)])
  exact Go.retA X102 hx hlk B102 (J102.sub fun x hx => (List.mem_cons_of_mem _ hx)) e102 hret rfl rfl (hb hby d38_8) (by decide) (by decide) (fun vm_ hw_ => ⟨_, _, rfl, (fun y hy => Nat.le_trans hnb (N102 y hy)), keep_ext K102, sz101, V102⟩)

theorem pn1 : plainName "java/lang/String" = true := by first | (simp [plainName, overriddenIn]; done) | decide +kernel
theorem d39_0 : decode jdk_42_method_151_code 0 = .ok (.aload_n 0, 1) := by decide +kernel
theorem d39_1 : decode jdk_42_method_151_code 1 = .ok (.invokespecial 1, 3) := by decide +kernel
theorem d39_4 : decode jdk_42_method_151_code 4 = .ok (.aload_n 0, 1) := by decide +kernel
theorem d39_5 : decode jdk_42_method_151_code 5 = .ok (.aload_n 1, 1) := by decide +kernel
theorem d39_6 : decode jdk_42_method_151_code 6 = .ok (.putfield 9, 3) := by decide +kernel
theorem d39_9 : decode jdk_42_method_151_code 9 = .ok (.aload_n 0, 1) := by decide +kernel
theorem d39_10 : decode jdk_42_method_151_code 10 = .ok (.iload_n 2, 1) := by decide +kernel
theorem d39_11 : decode jdk_42_method_151_code 11 = .ok (.putfield 15, 3) := by decide +kernel
theorem d39_14 : decode jdk_42_method_151_code 14 = .ok (.return_, 1) := by decide +kernel
set_option maxRecDepth 65536 in
set_option maxHeartbeats 40000000 in
theorem rm39 (l : Launch) (Z : State) (a0 : Array Value) (hw : ∀ d ∈ tables_1, d.before a0 Z = true) (ws : List Jvm.Cond) (a1 a2 : Addr) (u1 u2 : Value) (ms : List Addr) (h0 : Heap) (n0 : Nat) (O0 : Old Z n0 h0) (nb : Nat) (hb0 : n0 ≤ nb) (hnb : nb ≤ h0.size) (fr_a1 : nb ≤ a1) (hm_a1 : a1 ∈ ms) (E1 : Exa Z h0 a1 "java/lang/String") (F1 : Fld Z h0 a1 "java/lang/String" "value" "[B" u1) (F2 : Fld Z h0 a1 "java/lang/String" "coder" "B" u2) :
    Con l Z ms (⟨"java/lang/String", "<init>", "([BB)V"⟩ : MethodName) jdk_42_method_151_code 3 none ws ({ frames := 1, cells := 0, slots := 0, locals := 12 } : Room) #[(.ref a1), (.ref a2), (.int (0 : Int32))] h0 (fun v vm h L => v = none ∧ Fr nb L ∧ Keep h0 h [a1] ∧ Fld Z h a1 "java/lang/String" "value" "[B" (.ref a2) ∧ Fld Z h a1 "java/lang/String" "coder" "B" (.int 0)) := by
  refine Con.mk (plainFor_of_name pn1) ?_
  intro p e s m below meth c s₁ Cc X0 e0 eb J0 B0 M0
  obtain ⟨hx, hZ, hown, hby, hml, hnm, hret, hlk⟩ := id Cc
  have N0 := Fr.nil nb
  have K0 := Keep.refl h0 [a1]
  show Go p e s below _ _ _ _ s₁ (mkF m 0 #[.val (.ref a1), .val (.ref a2), .val (.int (0 : Int32))] [])
  refine Go.of (fun _ hr => XS.aloadN X0.here hx rfl (hb hby d39_0) rfl rfl hr) ?_
  show Go p e s below _ _ _ _ s₁ (mkF m 1 #[.val (.ref a1), .val (.ref a2), .val (.int (0 : Int32))] [(.ref a1)])
  obtain ⟨T101, X101, e101, st101⟩ := initO X0 hx hZ hown (hw _ (List.mem_of_getElem? (i := 15) rfl)) (hw _ (List.mem_of_getElem? (i := 16) rfl)) (hw _ (List.mem_of_getElem? (i := 17) rfl)) e0 (g := (mkF m 1 #[.val (.ref a1), .val (.ref a2), .val (.int (0 : Int32))] [(.ref a1)])) rfl (by rw [hml]; rfl) rfl (hb hby d39_1) (by decide) (W := 0) (by show 2 * 0 + _ ≤ _; exact Nat.le_of_eq rfl) (by decide)
  refine Go.of (fun _ hr => st101 _ hr) ?_
  show Go p e s below _ _ _ _ T101 (mkF m 4 #[.val (.ref a1), .val (.ref a2), .val (.int (0 : Int32))] [])
  refine Go.of (fun _ hr => XS.aloadN X101.here hx rfl (hb hby d39_4) rfl rfl hr) ?_
  show Go p e s below _ _ _ _ T101 (mkF m 5 #[.val (.ref a1), .val (.ref a2), .val (.int (0 : Int32))] [(.ref a1)])
  refine Go.of (fun _ hr => XS.aloadN X101.here hx rfl (hb hby d39_5) rfl rfl hr) ?_
  show Go p e s below _ _ _ _ T101 (mkF m 6 #[.val (.ref a1), .val (.ref a2), .val (.int (0 : Int32))] [(.ref a2), (.ref a1)])
  obtain ⟨T102, h102, X102, e102, W102, st102⟩ := putF X101 hx hZ hown (host := "") (Or.inl (hw _ (List.mem_of_getElem? (i := 24) rfl))) Via.refl e101 F1 E1 (Or.inr ⟨(hw _ (List.mem_of_getElem? (i := 20) rfl)), rfl, hnm⟩) (hw _ (List.mem_of_getElem? (i := 5) rfl)) (ty := (.array .byte)) (by decide) rfl rfl (g := (mkF m 6 #[.val (.ref a1), .val (.ref a2), .val (.int (0 : Int32))] [(.ref a2), (.ref a1)])) rfl rfl (hb hby d39_6)
  have N102 := Fr.snoc X102 N0 fr_a1
  have J102 := J0.wr W102 hm_a1
  have B102 := B0.mono (Nat.le_of_eq W102.size.symm)
  have O102 := O0.wr W102 (Nat.le_trans hb0 fr_a1)
  have K102 := K0.wr W102 (Or.inl (List.mem_of_getElem? (i := 0) rfl))
  have Fw102 := F1.same W102
  refine Go.of (fun _ hr => st102 _ hr) ?_
  show Go p e s below _ _ _ _ T102 (mkF m 9 #[.val (.ref a1), .val (.ref a2), .val (.int (0 : Int32))] [])
  refine Go.of (fun _ hr => XS.aloadN X102.here hx rfl (hb hby d39_9) rfl rfl hr) ?_
  show Go p e s below _ _ _ _ T102 (mkF m 10 #[.val (.ref a1), .val (.ref a2), .val (.int (0 : Int32))] [(.ref a1)])
  refine Go.of (fun _ hr => XS.iloadN X102.here hx rfl (hb hby d39_10) rfl  hr) ?_
  show Go p e s below _ _ _ _ T102 (mkF m 11 #[.val (.ref a1), .val (.ref a2), .val (.int (0 : Int32))] [(.int (0 : Int32)), (.ref a1)])
  have f104 := (F2.other W102 (Or.inr (slot_ne (Or.inr (hw _ (List.mem_of_getElem? (i := 21) rfl))) (Or.inr (hw _ (List.mem_of_getElem? (i := 20) rfl))) (by decide) (t := .byte) (t' := (.array .byte)) (by decide) (by decide))))
  have f105 := (E1.wr W102)
  obtain ⟨T103, h103, X103, e103, W103, st103⟩ := putFN X102 hx hZ hown (hw _ (List.mem_of_getElem? (i := 25) rfl)) Via.refl e102 f104 f105 (Or.inr ⟨(hw _ (List.mem_of_getElem? (i := 21) rfl)), rfl, hnm⟩) (hw _ (List.mem_of_getElem? (i := 5) rfl)) (ty := .byte) (v := (.int (0 : Int32))) (v' := (.int (0 : Int32))) (by decide) rfl rfl (g := (mkF m 11 #[.val (.ref a1), .val (.ref a2), .val (.int (0 : Int32))] [(.int (0 : Int32)), (.ref a1)])) rfl rfl (hb hby d39_11)
  have N103 := Fr.snoc X103 N102 fr_a1
  have J103 := J102.wr W103 hm_a1
  have B103 := B102.mono (Nat.le_of_eq W103.size.symm)
  have O103 := O102.wr W103 (Nat.le_trans hb0 fr_a1)
  have K103 := K102.wr W103 (Or.inl (List.mem_of_getElem? (i := 0) rfl))
  have Fw103 := f104.same W103
  refine Go.of (fun _ hr => st103 _ hr) ?_
  show Go p e s below _ _ _ _ T103 (mkF m 14 #[.val (.ref a1), .val (.ref a2), .val (.int (0 : Int32))] [])
  have f106 := (Fw102.other W103 (Or.inr (slot_ne (Or.inr (hw _ (List.mem_of_getElem? (i := 20) rfl))) (Or.inr (hw _ (List.mem_of_getElem? (i := 21) rfl))) (by decide) (t := (.array .byte)) (t' := .byte) (by decide) (by decide))))
  exact Go.retV X103 hx hlk B103 J103 e103 hret (hb hby d39_14) (by decide) (by decide) (fun vm_ hw_ => ⟨rfl, N103, K103, f106, Fw103⟩)

theorem d36_0 : decode jdk_42_method_139_code 0 = .ok (.getstatic 38, 3) := by decide +kernel
theorem d36_3 : decode jdk_42_method_139_code 3 = .ok (.ifCond .eq 23, 3) := by decide +kernel
theorem d36_6 : decode jdk_42_method_139_code 6 = .ok (.iload_n 0, 1) := by decide +kernel
theorem d36_7 : decode jdk_42_method_139_code 7 = .ok (.invokestatic 1015, 3) := by decide +kernel
theorem pd0 : parseMethodDescriptor "(C)Z" = some ⟨[.char], some .boolean⟩ := by decide +kernel
theorem d36_10 : decode jdk_42_method_139_code 10 = .ok (.ifCond .eq 16, 3) := by decide +kernel
theorem d36_13 : decode jdk_42_method_139_code 13 = .ok (.new 10, 3) := by decide +kernel
theorem d36_16 : decode jdk_42_method_139_code 16 = .ok (.dup, 1) := by decide +kernel
theorem d36_17 : decode jdk_42_method_139_code 17 = .ok (.iload_n 0, 1) := by decide +kernel
theorem d36_18 : decode jdk_42_method_139_code 18 = .ok (.invokestatic 1018, 3) := by decide +kernel
theorem pd1 : parseMethodDescriptor "(C)[B" = some ⟨[.char], some (.array .byte)⟩ := by decide +kernel
theorem d36_21 : decode jdk_42_method_139_code 21 = .ok (.iconst 0, 1) := by decide +kernel
theorem d36_22 : decode jdk_42_method_139_code 22 = .ok (.invokespecial 209, 3) := by decide +kernel
theorem pd2 : parseMethodDescriptor "([BB)V" = some ⟨[(.array .byte), .byte], none⟩ := by decide +kernel
theorem d36_25 : decode jdk_42_method_139_code 25 = .ok (.areturn, 1) := by decide +kernel
set_option maxRecDepth 65536 in
set_option maxHeartbeats 40000000 in
theorem rm36 (l : Launch) (Z : State) (a0 : Array Value) (hw : ∀ d ∈ tables_1, d.before a0 Z = true) (ws : List Jvm.Cond) (c1 : Int32) (zc : Int32) (ms : List Addr) (h0 : Heap) (n0 : Nat) (O0 : Old Z n0 h0) (nb : Nat) (hb0 : n0 ≤ nb) (hnb : nb ≤ h0.size) (q1 : ¬ 255 < c1) (S_C : Sta Z Z.heap "java/lang/String" "COMPACT_STRINGS" "Z" (.int zc)) (hzc : ¬ zc = 0) :
    Con l Z ms (⟨"java/lang/String", "valueOf", "(C)Ljava/lang/String;"⟩ : MethodName) jdk_42_method_139_code 1 (some (.object "java/lang/String")) ws ({ frames := 2, cells := 2, slots := 5, locals := 27 } : Room) #[(.int c1)] h0 (fun v vm h L => ∃ r t k, v = some (.ref r) ∧ Fr nb L ∧ Ext h0 h ∧ h0.size ≤ r ∧ h0.size ≤ t ∧ Exa Z h r "java/lang/String" ∧ Fld Z h r "java/lang/String" "value" "[B" (.ref t) ∧ Fld Z h r "java/lang/String" "coder" "B" (.int 0) ∧ Arv Z h t k .byte 1 [.int (lo8 c1)] (.int 0)) := by
  refine Con.mk (plainFor_of_name pn1) ?_
  intro p e s m below meth c s₁ Cc X0 e0 eb J0 B0 M0
  obtain ⟨hx, hZ, hown, hby, hml, hnm, hret, hlk⟩ := id Cc
  have N0 := Fr.nil h0.size
  have K0 := Keep.refl h0 []
  show Go p e s below _ _ _ _ s₁ (mkF m 0 #[.val (.int c1)] [])
  obtain ⟨T101, X101, e101, st101⟩ := getS2 X0 hx hZ hown (host := "") (Or.inl (hw _ (List.mem_of_getElem? (i := 93) rfl))) Via.refl e0 (S_C.ext O0.2) (g := (mkF m 0 #[.val (.int c1)] [])) rfl (hb hby d36_0)
  refine Go.of (fun _ hr => st101 _ hr) ?_
  show Go p e s below _ _ _ _ T101 (mkF m 3 #[.val (.int c1)] [(.int zc)])
  refine Go.of (fun _ hr => XS.ifNo X101.here hx rfl (hb hby d36_3) rfl ((if0 _ _).trans (feq hzc).1) hr) ?_
  show Go p e s below _ _ _ _ T101 (mkF m 6 #[.val (.int c1)] [])
  refine Go.of (fun _ hr => XS.iloadN X101.here hx rfl (hb hby d36_6) rfl  hr) ?_
  show Go p e s below _ _ _ _ T101 (mkF m 7 #[.val (.int c1)] [(.int c1)])
  obtain ⟨_, b102, T102, h102, L102, e102, Cc102, X102, B102, J102, g102, hQ102, st102⟩ := own_callS Cc B0 J0 X101 (hw _ (List.mem_of_getElem? (i := 196) rfl)) (hw _ (List.mem_of_getElem? (i := 197) rfl)) (hw _ (List.mem_of_getElem? (i := 183) rfl)) (hw _ (List.mem_of_getElem? (i := 198) rfl)) (by decide) (rm37 l Z a0 hw [] c1 _ h0 n0 O0 h0.size (own_ole O0) K0.1 q1) e101 (g := (mkF m 7 #[.val (.int c1)] [(.int c1)])) rfl (by rw [hml]; rfl) (argsL := [(.int c1)]) (rest := []) (lenOf pd0 rfl) rfl (W := 0) (by show 2 * 0 + _ ≤ _; exact Nat.le_of_eq rfl) (hb hby d36_7) (by decide) (by decide) (by decide) (by decide)
  obtain ⟨rfl, Nq102, hh102⟩ := hQ102
  have N102 := Fr.app N0 Nq102
  obtain ⟨hx, hZ, hown, hby, hml, hnm, hret, hlk⟩ := id Cc102
  rw [hh102] at e102 B102 J102
  refine Go.of st102 ?_
  show Go p e s below _ _ _ _ T102 (mkF m 10 #[.val (.int c1)] [(.int (1 : Int32))])
  refine Go.of (fun _ hr => XS.ifNo X102.here hx rfl (hb hby d36_10) rfl ((if0 _ _).trans (feq (by decide : ¬ ((1 : Int32) = (0 : Int32)))).1) hr) ?_
  show Go p e s below _ _ _ _ T102 (mkF m 13 #[.val (.int c1)] [])
  obtain ⟨T103, h103, X103, e103, E103, A103, D103, -, st103⟩ := newO X102 hx hZ hown (hw _ (List.mem_of_getElem? (i := 199) rfl)) (hw _ (List.mem_of_getElem? (i := 5) rfl)) (hw _ (List.mem_of_getElem? (i := 6) rfl)) e102 (g := (mkF m 13 #[.val (.int c1)] [])) rfl (hb hby d36_13) (by decide) (by decide)
  obtain ⟨o103, g103⟩ : ∃ z, z = h0.size := ⟨_, rfl⟩
  rw [← g103] at A103 D103 st103
  have lt103 : o103 < h103.size := A103.lt
  have J103 := J102.add E103 g103 lt103
  have B103 := B102.mono E103.1
  have O103 := O0.ext E103
  have sz103 : h0.size ≤ o103 := Nat.le_trans K0.1 (Nat.le_of_eq g103.symm)
  have fr103 : h0.size ≤ o103 := sz103
  have K103 := K0.ext E103
  have F103_value : Fld Z h103 o103 "java/lang/String" "value" "[B" .null := D103 (Or.inr (hw _ (List.mem_of_getElem? (i := 20) rfl))) (ty := (.array .byte)) (by decide)
  have F103_coder : Fld Z h103 o103 "java/lang/String" "coder" "B" (.int (0 : Int32)) := D103 (Or.inr (hw _ (List.mem_of_getElem? (i := 21) rfl))) (ty := .byte) (by decide)
  refine Go.of (fun _ hr => st103 _ hr) ?_
  show Go p e s below _ _ _ _ T103 (mkF m 16 #[.val (.int c1)] [(.ref o103)])
  refine Go.of (fun _ hr => XS.dup X103.here hx rfl (hb hby d36_16) rfl rfl hr) ?_
  show Go p e s below _ _ _ _ T103 (mkF m 17 #[.val (.int c1)] [(.ref o103), (.ref o103)])
  refine Go.of (fun _ hr => XS.iloadN X103.here hx rfl (hb hby d36_17) rfl  hr) ?_
  show Go p e s below _ _ _ _ T103 (mkF m 18 #[.val (.int c1)] [(.int c1), (.ref o103), (.ref o103)])
  obtain ⟨_, b104, T104, h104, L104, e104, Cc104, X104, B104, J104, g104, hQ104, st104⟩ := own_callS Cc102 B103 J103 X103 (hw _ (List.mem_of_getElem? (i := 200) rfl)) (hw _ (List.mem_of_getElem? (i := 201) rfl)) (hw _ (List.mem_of_getElem? (i := 183) rfl)) (hw _ (List.mem_of_getElem? (i := 202) rfl)) (by decide) (rm38 l Z a0 hw [] c1 _ h103 n0 O103 h0.size (own_ole O0) K103.1) e103 (g := (mkF m 18 #[.val (.int c1)] [(.int c1), (.ref o103), (.ref o103)])) rfl (by rw [hml]; rfl) (argsL := [(.int c1)]) (rest := [(.ref o103), (.ref o103)]) (lenOf pd1 rfl) rfl (W := 2) (by show 2 * 0 + _ ≤ _; exact Nat.le_of_eq rfl) (hb hby d36_18) (by decide) (by decide) (by decide) (by decide)
  obtain ⟨r104, kr104, rfl, Nq104, Eq104, R_r104, Vr104⟩ := hQ104
  have N104 := Fr.app N102 Nq104
  obtain ⟨hx, hZ, hown, hby, hml, hnm, hret, hlk⟩ := id Cc104
  have sz_r104 : h0.size ≤ r104 := Nat.le_trans K103.1 R_r104
  have fr_r104 : h0.size ≤ r104 := sz_r104
  have ne_o103_r104 : o103 ≠ r104 := Nat.ne_of_lt (Nat.lt_of_lt_of_le A103.lt R_r104)
  have K104 := K103.ext Eq104
  have O104 := O103.ext Eq104
  refine Go.of st104 ?_
  show Go p e s below _ _ _ _ T104 (mkF m 21 #[.val (.int c1)] [(.ref r104), (.ref o103), (.ref o103)])
  refine Go.of (fun _ hr => XS.iconst X104.here hx rfl (hb hby d36_21) hr) ?_
  show Go p e s below _ _ _ _ T104 (mkF m 22 #[.val (.int c1)] [(.int (0 : Int32)), (.ref r104), (.ref o103), (.ref o103)])
  have f106 := (A103.ext Eq104)
  have f107 := (F103_value.ext Eq104)
  have f108 := (F103_coder.ext Eq104)
  obtain ⟨_, b105, T105, h105, L105, e105, Cc105, X105, B105, J105, g105, hQ105, st105⟩ := own_callI Cc104 B104 J104 X104 rfl (hw _ (List.mem_of_getElem? (i := 203) rfl)) (hw _ (List.mem_of_getElem? (i := 204) rfl)) (hw _ (List.mem_of_getElem? (i := 6) rfl)) (hw _ (List.mem_of_getElem? (i := 205) rfl)) (by decide) (rm39 l Z a0 hw [] o103 r104 _ _ _ h104 n0 O104 h0.size (own_ole O0) K104.1 fr103 (List.mem_cons_self ..) f106 f107 f108) e104 (g := (mkF m 22 #[.val (.int c1)] [(.int (0 : Int32)), (.ref r104), (.ref o103), (.ref o103)])) rfl (by rw [hml]; rfl) (argsL := [(.ref r104), (.int (0 : Int32))]) (rest := [(.ref o103)]) (lenOf pd2 rfl) rfl (W := 1) (by show 2 * 0 + _ ≤ _; exact Nat.le_of_eq rfl) (hb hby d36_22) (by decide) (by decide) (by decide) (by decide)
  obtain ⟨rfl, Nq105, Kq105, Fv105, Fc105⟩ := hQ105
  have N105 := Fr.app N104 Nq105
  obtain ⟨hx, hZ, hown, hby, hml, hnm, hret, hlk⟩ := id Cc105
  have K105 := K104.trans Kq105 (allS (Or.inr sz103) all0)
  have O105 := O104.keep Kq105 (allS (Nat.le_trans (own_ole O0) fr103) all0)
  refine Go.of st105 ?_
  show Go p e s below _ _ _ _ T105 (mkF m 25 #[.val (.int c1)] [(.ref o103)])
  have f109 := (f106.keep Kq105)
  have f110 := (Vr104.keep Kq105 (ninS (Ne.symm ne_o103_r104) nin0))
  exact Go.retA X105 hx hlk B105 (J105.sub fun x hx => (List.mem_cons_of_mem _ hx)) e105 hret rfl rfl (hb hby d36_25) (by decide) (by decide) (fun vm_ hw_ => ⟨_, _, _, rfl, (fun y hy => Nat.le_trans hnb (N105 y hy)), keep_ext K105, sz103, sz_r104, f109, Fv105, Fc105, f110⟩)

theorem d41_3 : decode jdk_52_method_21_code 3 = .ok (.iload 5, 2) := by decide +kernel
theorem d41_5 : decode jdk_52_method_21_code 5 = .ok (.iload 4, 2) := by decide +kernel
theorem d41_7 : decode jdk_52_method_21_code 7 = .ok (.if_icmp .ge 37, 3) := by decide +kernel
theorem d41_44 : decode jdk_52_method_21_code 44 = .ok (.iload 4, 2) := by decide +kernel
theorem d41_46 : decode jdk_52_method_21_code 46 = .ok (.ireturn, 1) := by decide +kernel
theorem d41_10 : decode jdk_52_method_21_code 10 = .ok (.aload_n 0, 1) := by decide +kernel
theorem d41_11 : decode jdk_52_method_21_code 11 = .ok (.iload_n 1, 1) := by decide +kernel
theorem d41_12 : decode jdk_52_method_21_code 12 = .ok (.caload, 1) := by decide +kernel
theorem d41_13 : decode jdk_52_method_21_code 13 = .ok (.istore 6, 2) := by decide +kernel
theorem d41_15 : decode jdk_52_method_21_code 15 = .ok (.iload 6, 2) := by decide +kernel
theorem d41_17 : decode jdk_52_method_21_code 17 = .ok (.sipush 255, 3) := by decide +kernel
theorem d41_20 : decode jdk_52_method_21_code 20 = .ok (.if_icmp .le 6, 3) := by decide +kernel
theorem d41_26 : decode jdk_52_method_21_code 26 = .ok (.aload_n 2, 1) := by decide +kernel
theorem d41_27 : decode jdk_52_method_21_code 27 = .ok (.iload_n 3, 1) := by decide +kernel
theorem d41_28 : decode jdk_52_method_21_code 28 = .ok (.iload 6, 2) := by decide +kernel
theorem d41_30 : decode jdk_52_method_21_code 30 = .ok (.i2b, 1) := by decide +kernel
theorem d41_31 : decode jdk_52_method_21_code 31 = .ok (.bastore, 1) := by decide +kernel
theorem d41_32 : decode jdk_52_method_21_code 32 = .ok (.iinc 1 1, 3) := by decide +kernel
theorem d41_35 : decode jdk_52_method_21_code 35 = .ok (.iinc 3 1, 3) := by decide +kernel
theorem d41_38 : decode jdk_52_method_21_code 38 = .ok (.iinc 5 1, 3) := by decide +kernel
theorem d41_41 : decode jdk_52_method_21_code 41 = .ok (.goto (-38), 3) := by decide +kernel
theorem own_st6 {v0 v1 v2 v3 v4 v5 : Value} {s6 : Slot} {x : Int32} (h : One s6) : storeLocals #[.val v0, .val v1, .val v2, .val v3, .val v4, .val v5, s6] 6 (.int x) = some #[.val v0, .val v1, .val v2, .val v3, .val v4, .val v5, .val (.int x)] := by
  rcases h with rfl | ⟨w, rfl, hw⟩
  · rfl
  · cases w <;> first | rfl | (simp [Value.category] at hw)

set_option maxRecDepth 65536 in
set_option maxHeartbeats 40000000 in
theorem cloop {l : Launch} {Z : State} {p : Program} {e : Env} {R : Room} {s b : State} {m : MethodId} {args : Array Value} {below : List Frame} {meth : Method} {c : Code} {K N : Nat} {Q : Option Value → Vm → Heap → List Loc → Prop} {ms : List Addr} {h0 : Heap} {n0 nb : Nat} (Cc : Cx Z p b m meth c "java/lang/StringUTF16" jdk_52_method_21_code 7 "compress" (some .int)) (a1 a2 : Addr) (k1 k2 : ClassId) (cs : List Int32) (hn : cs.length ≤ 2) (hr : ∀ x ∈ cs, ¬ x < 0 ∧ ¬ 255 < x) (ne12 : a1 ≠ a2) (hb0 : n0 ≤ nb) (hnb : nb ≤ h0.size) (fr_a2 : nb ≤ a2) (hm_a2 : a2 ∈ ms)
    (hQ : ∀ vm h L, Keep h0 h [a2] → Fr nb L → Arv Z h a2 k2 .byte (Int32.ofNat cs.length) (cs.map fun x => Value.int (lo8 x)) (.int 0) → Q (some (.int (Int32.ofNat cs.length))) vm h L) :
    ∀ (r i : Nat), i + r = cs.length → ∀ (T : State) (h : Heap) (locs : List Loc) (cells slots : Nat) (s6 : Slot), One s6 → Stand p l e R b m args below meth c T locs cells slots → T.heap = h → Old Z n0 h → Fr nb locs → Keep h0 h [a2] → Hd Z ms b.vm h → Bs s b h → Arv Z h a1 k1 .char (Int32.ofNat cs.length) (cs.map Value.int) (.int 0) → Arv Z h a2 k2 .byte (Int32.ofNat cs.length) ((cs.take i).map fun x => Value.int (lo8 x)) (.int 0) → cells ≤ K → slots ≤ N →
      Go p e s below K N (Hd Z ms) Q T (mkF m 3 #[.val (.ref a1), .val (.int (Int32.ofNat i)), .val (.ref a2), .val (.int (Int32.ofNat i)), .val (.int (Int32.ofNat cs.length)), .val (.int (Int32.ofNat i)), s6] []) := by
  obtain ⟨hx, hZ, hown, hby, hml, hnm, hret, hlk⟩ := id Cc
  intro r
  induction r with
  | zero =>
    intro i hi T h locs cells slots s6 one6 X eT O0 N0 K0 J0 B0 V1 V2 hK hN
    show Go p e s below _ _ _ _ T (mkF m 3 #[.val (.ref a1), .val (.int (Int32.ofNat i)), .val (.ref a2), .val (.int (Int32.ofNat i)), .val (.int (Int32.ofNat cs.length)), .val (.int (Int32.ofNat i)), s6] [])
    refine Go.of (fun _ hr => XS.iload X.here hx rfl (hb hby d41_3) rfl  hr) ?_
    show Go p e s below _ _ _ _ T (mkF m 5 #[.val (.ref a1), .val (.int (Int32.ofNat i)), .val (.ref a2), .val (.int (Int32.ofNat i)), .val (.int (Int32.ofNat cs.length)), .val (.int (Int32.ofNat i)), s6] [(.int (Int32.ofNat i))])
    refine Go.of (fun _ hr => XS.iload X.here hx rfl (hb hby d41_5) rfl  hr) ?_
    show Go p e s below _ _ _ _ T (mkF m 7 #[.val (.ref a1), .val (.int (Int32.ofNat i)), .val (.ref a2), .val (.int (Int32.ofNat i)), .val (.int (Int32.ofNat cs.length)), .val (.int (Int32.ofNat i)), s6] [(.int (Int32.ofNat cs.length)), (.int (Int32.ofNat i))])
    refine Go.of (fun _ hr => XS.icmpYes X.here hx rfl (pc0 := 7) (pc' := 44) rfl (hb hby d41_7) rfl (flt (oi_nlt (by omega) (by omega) (by omega))).2.1 (by decide) (by decide) hr) ?_
    show Go p e s below _ _ _ _ T (mkF m 44 #[.val (.ref a1), .val (.int (Int32.ofNat i)), .val (.ref a2), .val (.int (Int32.ofNat i)), .val (.int (Int32.ofNat cs.length)), .val (.int (Int32.ofNat i)), s6] [])
    refine Go.of (fun _ hr => XS.iload X.here hx rfl (hb hby d41_44) rfl  hr) ?_
    show Go p e s below _ _ _ _ T (mkF m 46 #[.val (.ref a1), .val (.int (Int32.ofNat i)), .val (.ref a2), .val (.int (Int32.ofNat i)), .val (.int (Int32.ofNat cs.length)), .val (.int (Int32.ofNat i)), s6] [(.int (Int32.ofNat cs.length))])
    exact Go.retI X hx hlk B0 J0 eT hret (hb hby d41_46) (by omega) (by omega) (fun _ _ => hQ _ _ _ K0 N0 (by have q := V2; rw [show i = cs.length by omega, List.take_length] at q; exact q))
  | succ r ih =>
    intro i hi T h locs cells slots s6 one6 X eT O0 N0 K0 J0 B0 V1 V2 hK hN
    show Go p e s below _ _ _ _ T (mkF m 3 #[.val (.ref a1), .val (.int (Int32.ofNat i)), .val (.ref a2), .val (.int (Int32.ofNat i)), .val (.int (Int32.ofNat cs.length)), .val (.int (Int32.ofNat i)), s6] [])
    refine Go.of (fun _ hr => XS.iload X.here hx rfl (hb hby d41_3) rfl  hr) ?_
    show Go p e s below _ _ _ _ T (mkF m 5 #[.val (.ref a1), .val (.int (Int32.ofNat i)), .val (.ref a2), .val (.int (Int32.ofNat i)), .val (.int (Int32.ofNat cs.length)), .val (.int (Int32.ofNat i)), s6] [(.int (Int32.ofNat i))])
    refine Go.of (fun _ hr => XS.iload X.here hx rfl (hb hby d41_5) rfl  hr) ?_
    show Go p e s below _ _ _ _ T (mkF m 7 #[.val (.ref a1), .val (.int (Int32.ofNat i)), .val (.ref a2), .val (.int (Int32.ofNat i)), .val (.int (Int32.ofNat cs.length)), .val (.int (Int32.ofNat i)), s6] [(.int (Int32.ofNat cs.length)), (.int (Int32.ofNat i))])
    refine Go.of (fun _ hr => XS.icmpNo X.here hx rfl (hb hby d41_7) rfl (tlt (oi_lt (by omega) (by omega) (by omega))).2.1 hr) ?_
    show Go p e s below _ _ _ _ T (mkF m 10 #[.val (.ref a1), .val (.int (Int32.ofNat i)), .val (.ref a2), .val (.int (Int32.ofNat i)), .val (.int (Int32.ofNat cs.length)), .val (.int (Int32.ofNat i)), s6] [])
    refine Go.of (fun _ hr => XS.aloadN X.here hx rfl (hb hby d41_10) rfl rfl hr) ?_
    show Go p e s below _ _ _ _ T (mkF m 11 #[.val (.ref a1), .val (.int (Int32.ofNat i)), .val (.ref a2), .val (.int (Int32.ofNat i)), .val (.int (Int32.ofNat cs.length)), .val (.int (Int32.ofNat i)), s6] [(.ref a1)])
    refine Go.of (fun _ hr => XS.iloadN X.here hx rfl (hb hby d41_11) rfl  hr) ?_
    show Go p e s below _ _ _ _ T (mkF m 12 #[.val (.ref a1), .val (.int (Int32.ofNat i)), .val (.ref a2), .val (.int (Int32.ofNat i)), .val (.int (Int32.ofNat cs.length)), .val (.int (Int32.ofNat i)), s6] [(.int (Int32.ofNat i)), (.ref a1)])
    obtain ⟨x, hxe⟩ : ∃ x, cs.getD i 0 = x := ⟨_, rfl⟩
    have hxr := hr _ (hxe ▸ mem_getD (show i < cs.length by omega))
    obtain ⟨cl101, Ar101, q101, S101, N101_, H101, G101⟩ := id V1
    have hin101 : ¬ ((Int32.ofNat i) < 0 ∨ cl101.slots.size ≤ ((Int32.ofNat i)).toNatClampNeg) := inb_of S101 ⟨oi_nn (by omega), oi_lt (by omega) (by omega) (by omega)⟩
    refine Go.of (fun _ hr => X.caload hx (j := (Int32.ofNat i)) (v := (.int x)) (by rw [eT]; exact Ar101.1) (State.isArrayOf_alike hZ.alike Ar101.2.1) Ar101.2.2 hin101 (H101.at hin101 (by rw [oi_nat (by omega), getD_int, hxe])) (g := (mkF m 12 #[.val (.ref a1), .val (.int (Int32.ofNat i)), .val (.ref a2), .val (.int (Int32.ofNat i)), .val (.int (Int32.ofNat cs.length)), .val (.int (Int32.ofNat i)), s6] [(.int (Int32.ofNat i)), (.ref a1)])) rfl rfl (hb hby d41_12) _ hr) ?_
    show Go p e s below _ _ _ _ T (mkF m 13 #[.val (.ref a1), .val (.int (Int32.ofNat i)), .val (.ref a2), .val (.int (Int32.ofNat i)), .val (.int (Int32.ofNat cs.length)), .val (.int (Int32.ofNat i)), s6] [(.int x)])
    refine Go.of (fun _ hr => XS.istore X.here hx rfl (hb hby d41_13) rfl (l' := #[.val (.ref a1), .val (.int (Int32.ofNat i)), .val (.ref a2), .val (.int (Int32.ofNat i)), .val (.int (Int32.ofNat cs.length)), .val (.int (Int32.ofNat i)), .val (.int x)]) (own_st6 one6) hr) ?_
    show Go p e s below _ _ _ _ T (mkF m 15 #[.val (.ref a1), .val (.int (Int32.ofNat i)), .val (.ref a2), .val (.int (Int32.ofNat i)), .val (.int (Int32.ofNat cs.length)), .val (.int (Int32.ofNat i)), .val (.int x)] [])
    refine Go.of (fun _ hr => XS.iload X.here hx rfl (hb hby d41_15) rfl  hr) ?_
    show Go p e s below _ _ _ _ T (mkF m 17 #[.val (.ref a1), .val (.int (Int32.ofNat i)), .val (.ref a2), .val (.int (Int32.ofNat i)), .val (.int (Int32.ofNat cs.length)), .val (.int (Int32.ofNat i)), .val (.int x)] [(.int x)])
    refine Go.of (fun _ hr => XS.sipush X.here hx rfl (hb hby d41_17) hr) ?_
    show Go p e s below _ _ _ _ T (mkF m 20 #[.val (.ref a1), .val (.int (Int32.ofNat i)), .val (.ref a2), .val (.int (Int32.ofNat i)), .val (.int (Int32.ofNat cs.length)), .val (.int (Int32.ofNat i)), .val (.int x)] [(.int (255 : Int32)), (.int x)])
    refine Go.of (fun _ hr => XS.icmpYes X.here hx rfl (pc0 := 20) (pc' := 26) rfl (hb hby d41_20) rfl (flt hxr.2).2.2.2 (by decide) (by decide) hr) ?_
    show Go p e s below _ _ _ _ T (mkF m 26 #[.val (.ref a1), .val (.int (Int32.ofNat i)), .val (.ref a2), .val (.int (Int32.ofNat i)), .val (.int (Int32.ofNat cs.length)), .val (.int (Int32.ofNat i)), .val (.int x)] [])
    refine Go.of (fun _ hr => XS.aloadN X.here hx rfl (hb hby d41_26) rfl rfl hr) ?_
    show Go p e s below _ _ _ _ T (mkF m 27 #[.val (.ref a1), .val (.int (Int32.ofNat i)), .val (.ref a2), .val (.int (Int32.ofNat i)), .val (.int (Int32.ofNat cs.length)), .val (.int (Int32.ofNat i)), .val (.int x)] [(.ref a2)])
    refine Go.of (fun _ hr => XS.iloadN X.here hx rfl (hb hby d41_27) rfl  hr) ?_
    show Go p e s below _ _ _ _ T (mkF m 28 #[.val (.ref a1), .val (.int (Int32.ofNat i)), .val (.ref a2), .val (.int (Int32.ofNat i)), .val (.int (Int32.ofNat cs.length)), .val (.int (Int32.ofNat i)), .val (.int x)] [(.int (Int32.ofNat i)), (.ref a2)])
    refine Go.of (fun _ hr => XS.iload X.here hx rfl (hb hby d41_28) rfl  hr) ?_
    show Go p e s below _ _ _ _ T (mkF m 30 #[.val (.ref a1), .val (.int (Int32.ofNat i)), .val (.ref a2), .val (.int (Int32.ofNat i)), .val (.int (Int32.ofNat cs.length)), .val (.int (Int32.ofNat i)), .val (.int x)] [(.int x), (.int (Int32.ofNat i)), (.ref a2)])
    refine Go.of (fun _ hr => XS.i2b X.here hx rfl (hb hby d41_30) rfl hr) ?_
    show Go p e s below _ _ _ _ T (mkF m 31 #[.val (.ref a1), .val (.int (Int32.ofNat i)), .val (.ref a2), .val (.int (Int32.ofNat i)), .val (.int (Int32.ofNat cs.length)), .val (.int (Int32.ofNat i)), .val (.int x)] [(.int (x.toInt8.toInt32)), (.int (Int32.ofNat i)), (.ref a2)])
    obtain ⟨cl102, Ar102, q102, S102, N102_, H102, G102⟩ := id V2
    have hin102 : ¬ (Int32.ofNat i < 0 ∨ cl102.slots.size ≤ (Int32.ofNat i).toNatClampNeg) := inb_of S102 ⟨oi_nn (by omega), oi_lt (by omega) (by omega) (by omega)⟩
    obtain ⟨T102, h102, X102, e102, W102, st102⟩ := stB X hx hZ eT Ar102 (j := Int32.ofNat i) hin102 (g := (mkF m 31 #[.val (.ref a1), .val (.int (Int32.ofNat i)), .val (.ref a2), .val (.int (Int32.ofNat i)), .val (.int (Int32.ofNat cs.length)), .val (.int (Int32.ofNat i)), .val (.int x)] [(.int (x.toInt8.toInt32)), (.int (Int32.ofNat i)), (.ref a2)])) rfl rfl (hb hby d41_31)
    rw [nar_b] at W102
    have V102 : Arv Z h102 a2 k2 .byte (Int32.ofNat cs.length) ((cs.take (i + 1)).map fun x => Value.int (lo8 x)) (.int 0) := by
        have q := own_push V2 W102 (by rw [oi_nat (by omega)]; simp; omega) (fits_b x)
        rw [← hxe, take_push cs (show i < cs.length by omega) (fun x => Value.int (lo8 x))] at q; exact q
    have N102 := Fr.snoc X102 N0 fr_a2
    have J102 := J0.wr W102 hm_a2
    have B102 := B0.mono (Nat.le_of_eq W102.size.symm)
    have O102 := O0.wr W102 (Nat.le_trans hb0 fr_a2)
    have K102 := K0.wr W102 (Or.inl (List.mem_of_getElem? (i := 0) rfl))
    refine Go.of (fun _ hr => st102 _ hr) ?_
    show Go p e s below _ _ _ _ T102 (mkF m 32 #[.val (.ref a1), .val (.int (Int32.ofNat i)), .val (.ref a2), .val (.int (Int32.ofNat i)), .val (.int (Int32.ofNat cs.length)), .val (.int (Int32.ofNat i)), .val (.int x)] [])
    refine Go.of (fun _ hr => XS.iinc X102.here hx rfl (hb hby d41_32) rfl (l' := #[.val (.ref a1), .val (.int ((Int32.ofNat i) + (1 : Int32))), .val (.ref a2), .val (.int (Int32.ofNat i)), .val (.int (Int32.ofNat cs.length)), .val (.int (Int32.ofNat i)), .val (.int x)]) rfl hr) ?_
    show Go p e s below _ _ _ _ T102 (mkF m 35 #[.val (.ref a1), .val (.int ((Int32.ofNat i) + (1 : Int32))), .val (.ref a2), .val (.int (Int32.ofNat i)), .val (.int (Int32.ofNat cs.length)), .val (.int (Int32.ofNat i)), .val (.int x)] [])
    refine Go.of (fun _ hr => XS.iinc X102.here hx rfl (hb hby d41_35) rfl (l' := #[.val (.ref a1), .val (.int ((Int32.ofNat i) + (1 : Int32))), .val (.ref a2), .val (.int ((Int32.ofNat i) + (1 : Int32))), .val (.int (Int32.ofNat cs.length)), .val (.int (Int32.ofNat i)), .val (.int x)]) rfl hr) ?_
    show Go p e s below _ _ _ _ T102 (mkF m 38 #[.val (.ref a1), .val (.int ((Int32.ofNat i) + (1 : Int32))), .val (.ref a2), .val (.int ((Int32.ofNat i) + (1 : Int32))), .val (.int (Int32.ofNat cs.length)), .val (.int (Int32.ofNat i)), .val (.int x)] [])
    refine Go.of (fun _ hr => XS.iinc X102.here hx rfl (hb hby d41_38) rfl (l' := #[.val (.ref a1), .val (.int ((Int32.ofNat i) + (1 : Int32))), .val (.ref a2), .val (.int ((Int32.ofNat i) + (1 : Int32))), .val (.int (Int32.ofNat cs.length)), .val (.int ((Int32.ofNat i) + (1 : Int32))), .val (.int x)]) rfl hr) ?_
    show Go p e s below _ _ _ _ T102 (mkF m 41 #[.val (.ref a1), .val (.int ((Int32.ofNat i) + (1 : Int32))), .val (.ref a2), .val (.int ((Int32.ofNat i) + (1 : Int32))), .val (.int (Int32.ofNat cs.length)), .val (.int ((Int32.ofNat i) + (1 : Int32))), .val (.int x)] [])
    refine Go.of (fun _ hr => XS.goto X102.here hx rfl (pc0 := 41) (pc' := 3) rfl (hb hby d41_41) (by decide) (by decide) hr) ?_
    show Go p e s below _ _ _ _ T102 (mkF m 3 #[.val (.ref a1), .val (.int ((Int32.ofNat i) + (1 : Int32))), .val (.ref a2), .val (.int ((Int32.ofNat i) + (1 : Int32))), .val (.int (Int32.ofNat cs.length)), .val (.int ((Int32.ofNat i) + (1 : Int32))), .val (.int x)] [])
    simp only [oi_succ (show i + 1 < 2147483648 by omega)]
    have f103 := (V1.other W102 ne12)
    exact ih (i + 1) (by omega) T102 h102 _ _ _ _ (One.val rfl) X102 e102 O102 N102 K102 J102 B102 f103 V102 hK hN

theorem pn2 : plainName "java/lang/StringUTF16" = true := by first | (simp [plainName, overriddenIn]; done) | decide +kernel
theorem d41_0 : decode jdk_52_method_21_code 0 = .ok (.iconst 0, 1) := by decide +kernel
theorem d41_1 : decode jdk_52_method_21_code 1 = .ok (.istore 5, 2) := by decide +kernel
set_option maxRecDepth 65536 in
set_option maxHeartbeats 40000000 in
theorem rm41 (l : Launch) (Z : State) (a0 : Array Value) (hw : ∀ d ∈ tables_1, d.before a0 Z = true) (ws : List Jvm.Cond) (a1 a2 : Addr) (k1 k2 : ClassId) (cs : List Int32) (ms : List Addr) (h0 : Heap) (n0 : Nat) (O0 : Old Z n0 h0) (nb : Nat) (hb0 : n0 ≤ nb) (hnb : nb ≤ h0.size) (fr_a2 : nb ≤ a2) (hm_a2 : a2 ∈ ms) (hn : cs.length ≤ 2) (hr : ∀ x ∈ cs, ¬ x < 0 ∧ ¬ 255 < x) (ne12 : a1 ≠ a2) (V1 : Arv Z h0 a1 k1 .char (Int32.ofNat cs.length) (cs.map Value.int) (.int 0)) (V2 : Arv Z h0 a2 k2 .byte (Int32.ofNat cs.length) [] (.int 0)) :
    Con l Z ms (⟨"java/lang/StringUTF16", "compress", "([CI[BII)I"⟩ : MethodName) jdk_52_method_21_code 7 (some .int) ws ({ frames := 0, cells := 0, slots := 0, locals := 0 } : Room) #[(.ref a1), (.int (0 : Int32)), (.ref a2), (.int (0 : Int32)), (.int (Int32.ofNat cs.length))] h0 (fun v vm h L => v = some (.int (Int32.ofNat cs.length)) ∧ Fr nb L ∧ Keep h0 h [a2] ∧ Arv Z h a2 k2 .byte (Int32.ofNat cs.length) (cs.map fun x => Value.int (lo8 x)) (.int 0)) := by
  refine Con.mk (plainFor_of_name pn2) ?_
  intro p e s m below meth c s₁ Cc X0 e0 eb J0 B0 M0
  obtain ⟨hx, hZ, hown, hby, hml, hnm, hret, hlk⟩ := id Cc
  have N0 := Fr.nil nb
  have K0 := Keep.refl h0 [a2]
  show Go p e s below _ _ _ _ s₁ (mkF m 0 #[.val (.ref a1), .val (.int (0 : Int32)), .val (.ref a2), .val (.int (0 : Int32)), .val (.int (Int32.ofNat cs.length)), .unset, .unset] [])
  refine Go.of (fun _ hr => XS.iconst X0.here hx rfl (hb hby d41_0) hr) ?_
  show Go p e s below _ _ _ _ s₁ (mkF m 1 #[.val (.ref a1), .val (.int (0 : Int32)), .val (.ref a2), .val (.int (0 : Int32)), .val (.int (Int32.ofNat cs.length)), .unset, .unset] [(.int (0 : Int32))])
  refine Go.of (fun _ hr => XS.istore X0.here hx rfl (hb hby d41_1) rfl (l' := #[.val (.ref a1), .val (.int (0 : Int32)), .val (.ref a2), .val (.int (0 : Int32)), .val (.int (Int32.ofNat cs.length)), .val (.int (0 : Int32)), .unset]) rfl hr) ?_
  show Go p e s below _ _ _ _ s₁ (mkF m 3 #[.val (.ref a1), .val (.int (0 : Int32)), .val (.ref a2), .val (.int (0 : Int32)), .val (.int (Int32.ofNat cs.length)), .val (.int (0 : Int32)), .unset] [])
  exact cloop Cc a1 a2 k1 k2 cs hn hr ne12 hb0 hnb fr_a2 hm_a2 (fun vm h L q1 q2 q3 => ⟨rfl, q2, q1, q3⟩) cs.length 0 (Nat.zero_add _) s₁ h0 _ _ _ _ One.u X0 e0 O0 N0 K0 J0 B0 V1 V2 (by decide) (by decide)

theorem d40_0 : decode jdk_52_method_16_code 0 = .ok (.iload_n 2, 1) := by decide +kernel
theorem d40_1 : decode jdk_52_method_16_code 1 = .ok (.newarray .byte, 2) := by decide +kernel
theorem d40_3 : decode jdk_52_method_16_code 3 = .ok (.astore_n 3, 1) := by decide +kernel
theorem d40_4 : decode jdk_52_method_16_code 4 = .ok (.aload_n 0, 1) := by decide +kernel
theorem d40_5 : decode jdk_52_method_16_code 5 = .ok (.iload_n 1, 1) := by decide +kernel
theorem d40_6 : decode jdk_52_method_16_code 6 = .ok (.aload_n 3, 1) := by decide +kernel
theorem d40_7 : decode jdk_52_method_16_code 7 = .ok (.iconst 0, 1) := by decide +kernel
theorem d40_8 : decode jdk_52_method_16_code 8 = .ok (.iload_n 2, 1) := by decide +kernel
theorem d40_9 : decode jdk_52_method_16_code 9 = .ok (.invokestatic 115, 3) := by decide +kernel
theorem pd3 : parseMethodDescriptor "([CI[BII)I" = some ⟨[(.array .char), .int, (.array .byte), .int, .int], some .int⟩ := by decide +kernel
theorem d40_12 : decode jdk_52_method_16_code 12 = .ok (.istore 4, 2) := by decide +kernel
theorem d40_14 : decode jdk_52_method_16_code 14 = .ok (.iload 4, 2) := by decide +kernel
theorem d40_16 : decode jdk_52_method_16_code 16 = .ok (.iload_n 2, 1) := by decide +kernel
theorem d40_17 : decode jdk_52_method_16_code 17 = .ok (.if_icmp .eq 40, 3) := by decide +kernel
theorem d40_57 : decode jdk_52_method_16_code 57 = .ok (.aload_n 3, 1) := by decide +kernel
theorem d40_58 : decode jdk_52_method_16_code 58 = .ok (.areturn, 1) := by decide +kernel
set_option maxRecDepth 65536 in
set_option maxHeartbeats 40000000 in
theorem rm40 (l : Launch) (Z : State) (a0 : Array Value) (hw : ∀ d ∈ tables_1, d.before a0 Z = true) (ws : List Jvm.Cond) (a1 : Addr) (k1 : ClassId) (cs : List Int32) (ms : List Addr) (h0 : Heap) (n0 : Nat) (O0 : Old Z n0 h0) (nb : Nat) (hb0 : n0 ≤ nb) (hnb : nb ≤ h0.size) (hn : cs.length ≤ 2) (hr : ∀ x ∈ cs, ¬ x < 0 ∧ ¬ 255 < x) (V1 : Arv Z h0 a1 k1 .char (Int32.ofNat cs.length) (cs.map Value.int) (.int 0)) :
    Con l Z ms (⟨"java/lang/StringUTF16", "compress", "([CII)[B"⟩ : MethodName) jdk_52_method_16_code 6 (some (.array .byte)) ws ({ frames := 1, cells := 1, slots := 2, locals := 18 } : Room) #[(.ref a1), (.int (0 : Int32)), (.int (Int32.ofNat cs.length))] h0 (fun v vm h L => ∃ d k, v = some (.ref d) ∧ Fr nb L ∧ Ext h0 h ∧ h0.size ≤ d ∧ Arv Z h d k .byte (Int32.ofNat cs.length) (cs.map fun x => Value.int (lo8 x)) (.int 0)) := by
  refine Con.mk (plainFor_of_name pn2) ?_
  intro p e s m below meth c s₁ Cc X0 e0 eb J0 B0 M0
  obtain ⟨hx, hZ, hown, hby, hml, hnm, hret, hlk⟩ := id Cc
  have N0 := Fr.nil h0.size
  have K0 := Keep.refl h0 []
  show Go p e s below _ _ _ _ s₁ (mkF m 0 #[.val (.ref a1), .val (.int (0 : Int32)), .val (.int (Int32.ofNat cs.length)), .unset, .unset, .unset] [])
  refine Go.of (fun _ hr => XS.iloadN X0.here hx rfl (hb hby d40_0) rfl  hr) ?_
  show Go p e s below _ _ _ _ s₁ (mkF m 1 #[.val (.ref a1), .val (.int (0 : Int32)), .val (.int (Int32.ofNat cs.length)), .unset, .unset, .unset] [(.int (Int32.ofNat cs.length))])
  obtain ⟨T101, h101, k101, X101, e101, E101, A101, st101⟩ := newP X0 hx hZ (hw _ (List.mem_of_getElem? (i := 19) rfl)) e0 (g := (mkF m 1 #[.val (.ref a1), .val (.int (0 : Int32)), .val (.int (Int32.ofNat cs.length)), .unset, .unset, .unset] [(.int (Int32.ofNat cs.length))])) rfl (hb hby d40_1) rfl (oi_nn (by omega)) (cap := 2) (by rw [oi_nat (by omega)]; exact hn) (by decide) (by decide) (by decide)
  obtain ⟨o101, g101⟩ : ∃ z, z = h0.size := ⟨_, rfl⟩
  rw [← g101] at A101 st101
  have ne_a1_o101 : a1 ≠ o101 := Nat.ne_of_lt (Nat.lt_of_lt_of_le V1.lt (Nat.le_of_eq g101.symm))
  have V101 := Arv.new A101 (oi_nn (by omega))
  have lt101 : o101 < h101.size := A101.lt
  have J101 := J0.add E101 g101 lt101
  have B101 := B0.mono E101.1
  have O101 := O0.ext E101
  have sz101 : h0.size ≤ o101 := Nat.le_trans K0.1 (Nat.le_of_eq g101.symm)
  have fr101 : h0.size ≤ o101 := sz101
  have K101 := K0.ext E101
  refine Go.of (fun _ hr => st101 _ hr) ?_
  show Go p e s below _ _ _ _ T101 (mkF m 3 #[.val (.ref a1), .val (.int (0 : Int32)), .val (.int (Int32.ofNat cs.length)), .unset, .unset, .unset] [(.ref o101)])
  refine Go.of (fun _ hr => XS.astoreN X101.here hx rfl (hb hby d40_3) rfl rfl (l' := #[.val (.ref a1), .val (.int (0 : Int32)), .val (.int (Int32.ofNat cs.length)), .val (.ref o101), .unset, .unset]) rfl hr) ?_
  show Go p e s below _ _ _ _ T101 (mkF m 4 #[.val (.ref a1), .val (.int (0 : Int32)), .val (.int (Int32.ofNat cs.length)), .val (.ref o101), .unset, .unset] [])
  refine Go.of (fun _ hr => XS.aloadN X101.here hx rfl (hb hby d40_4) rfl rfl hr) ?_
  show Go p e s below _ _ _ _ T101 (mkF m 5 #[.val (.ref a1), .val (.int (0 : Int32)), .val (.int (Int32.ofNat cs.length)), .val (.ref o101), .unset, .unset] [(.ref a1)])
  refine Go.of (fun _ hr => XS.iloadN X101.here hx rfl (hb hby d40_5) rfl  hr) ?_
  show Go p e s below _ _ _ _ T101 (mkF m 6 #[.val (.ref a1), .val (.int (0 : Int32)), .val (.int (Int32.ofNat cs.length)), .val (.ref o101), .unset, .unset] [(.int (0 : Int32)), (.ref a1)])
  refine Go.of (fun _ hr => XS.aloadN X101.here hx rfl (hb hby d40_6) rfl rfl hr) ?_
  show Go p e s below _ _ _ _ T101 (mkF m 7 #[.val (.ref a1), .val (.int (0 : Int32)), .val (.int (Int32.ofNat cs.length)), .val (.ref o101), .unset, .unset] [(.ref o101), (.int (0 : Int32)), (.ref a1)])
  refine Go.of (fun _ hr => XS.iconst X101.here hx rfl (hb hby d40_7) hr) ?_
  show Go p e s below _ _ _ _ T101 (mkF m 8 #[.val (.ref a1), .val (.int (0 : Int32)), .val (.int (Int32.ofNat cs.length)), .val (.ref o101), .unset, .unset] [(.int (0 : Int32)), (.ref o101), (.int (0 : Int32)), (.ref a1)])
  refine Go.of (fun _ hr => XS.iloadN X101.here hx rfl (hb hby d40_8) rfl  hr) ?_
  show Go p e s below _ _ _ _ T101 (mkF m 9 #[.val (.ref a1), .val (.int (0 : Int32)), .val (.int (Int32.ofNat cs.length)), .val (.ref o101), .unset, .unset] [(.int (Int32.ofNat cs.length)), (.int (0 : Int32)), (.ref o101), (.int (0 : Int32)), (.ref a1)])
  have f103 := (V1.ext E101)
  obtain ⟨_, b102, T102, h102, L102, e102, Cc102, X102, B102, J102, g102, hQ102, st102⟩ := own_callS Cc B101 J101 X101 (hw _ (List.mem_of_getElem? (i := 210) rfl)) (hw _ (List.mem_of_getElem? (i := 211) rfl)) (hw _ (List.mem_of_getElem? (i := 208) rfl)) (hw _ (List.mem_of_getElem? (i := 212) rfl)) (by decide) (rm41 l Z a0 hw [] a1 o101 _ _ cs _ h101 n0 O101 h0.size (own_ole O0) K101.1 fr101 (List.mem_cons_self ..) hn hr ne_a1_o101 f103 V101) e101 (g := (mkF m 9 #[.val (.ref a1), .val (.int (0 : Int32)), .val (.int (Int32.ofNat cs.length)), .val (.ref o101), .unset, .unset] [(.int (Int32.ofNat cs.length)), (.int (0 : Int32)), (.ref o101), (.int (0 : Int32)), (.ref a1)])) rfl (by rw [hml]; rfl) (argsL := [(.ref a1), (.int (0 : Int32)), (.ref o101), (.int (0 : Int32)), (.int (Int32.ofNat cs.length))]) (rest := []) (lenOf pd3 rfl) rfl (W := 0) (by show 2 * 0 + _ ≤ _; exact Nat.le_of_eq rfl) (hb hby d40_9) (by decide) (by decide) (by decide) (by decide)
  obtain ⟨rfl, Nq102, Kq102, Vd102⟩ := hQ102
  have N102 := Fr.app N0 Nq102
  obtain ⟨hx, hZ, hown, hby, hml, hnm, hret, hlk⟩ := id Cc102
  have K102 := K101.trans Kq102 (allS (Or.inr sz101) all0)
  have O102 := O101.keep Kq102 (allS (Nat.le_trans (own_ole O0) fr101) all0)
  refine Go.of st102 ?_
  show Go p e s below _ _ _ _ T102 (mkF m 12 #[.val (.ref a1), .val (.int (0 : Int32)), .val (.int (Int32.ofNat cs.length)), .val (.ref o101), .unset, .unset] [(.int (Int32.ofNat cs.length))])
  refine Go.of (fun _ hr => XS.istore X102.here hx rfl (hb hby d40_12) rfl (l' := #[.val (.ref a1), .val (.int (0 : Int32)), .val (.int (Int32.ofNat cs.length)), .val (.ref o101), .val (.int (Int32.ofNat cs.length)), .unset]) rfl hr) ?_
  show Go p e s below _ _ _ _ T102 (mkF m 14 #[.val (.ref a1), .val (.int (0 : Int32)), .val (.int (Int32.ofNat cs.length)), .val (.ref o101), .val (.int (Int32.ofNat cs.length)), .unset] [])
  refine Go.of (fun _ hr => XS.iload X102.here hx rfl (hb hby d40_14) rfl  hr) ?_
  show Go p e s below _ _ _ _ T102 (mkF m 16 #[.val (.ref a1), .val (.int (0 : Int32)), .val (.int (Int32.ofNat cs.length)), .val (.ref o101), .val (.int (Int32.ofNat cs.length)), .unset] [(.int (Int32.ofNat cs.length))])
  refine Go.of (fun _ hr => XS.iloadN X102.here hx rfl (hb hby d40_16) rfl  hr) ?_
  show Go p e s below _ _ _ _ T102 (mkF m 17 #[.val (.ref a1), .val (.int (0 : Int32)), .val (.int (Int32.ofNat cs.length)), .val (.ref o101), .val (.int (Int32.ofNat cs.length)), .unset] [(.int (Int32.ofNat cs.length)), (.int (Int32.ofNat cs.length))])
  refine Go.of (fun _ hr => XS.icmpYes X102.here hx rfl (pc0 := 17) (pc' := 57) rfl (hb hby d40_17) rfl (teq rfl).1 (by decide) (by decide) hr) ?_
  show Go p e s below _ _ _ _ T102 (mkF m 57 #[.val (.ref a1), .val (.int (0 : Int32)), .val (.int (Int32.ofNat cs.length)), .val (.ref o101), .val (.int (Int32.ofNat cs.length)), .unset] [])
  refine Go.of (fun _ hr => XS.aloadN X102.here hx rfl (hb hby d40_57) rfl rfl hr) ?_
  show Go p e s below _ _ _ _ T102 (mkF m 58 #[.val (.ref a1), .val (.int (0 : Int32)), .val (.int (Int32.ofNat cs.length)), .val (.ref o101), .val (.int (Int32.ofNat cs.length)), .unset] [(.ref o101)])
  exact Go.retA X102 hx hlk B102 (J102.sub fun x hx => (List.mem_cons_of_mem _ hx)) e102 hret rfl rfl (hb hby d40_58) (by decide) (by decide) (fun vm_ hw_ => ⟨_, _, rfl, (fun y hy => Nat.le_trans hnb (N102 y hy)), keep_ext K102, sz101, Vd102⟩)

theorem d42_0 : decode jdk_52_method_15_code 0 = .ok (.iload_n 1, 1) := by decide +kernel
theorem d42_1 : decode jdk_52_method_15_code 1 = .ok (.aload_n 0, 1) := by decide +kernel
theorem d42_2 : decode jdk_52_method_15_code 2 = .ok (.arraylength, 1) := by decide +kernel
theorem d42_3 : decode jdk_52_method_15_code 3 = .ok (.isub, 1) := by decide +kernel
theorem d42_4 : decode jdk_52_method_15_code 4 = .ok (.bipush 31, 2) := by decide +kernel
theorem d42_6 : decode jdk_52_method_15_code 6 = .ok (.iushr, 1) := by decide +kernel
theorem d42_7 : decode jdk_52_method_15_code 7 = .ok (.i2b, 1) := by decide +kernel
theorem d42_8 : decode jdk_52_method_15_code 8 = .ok (.ireturn, 1) := by decide +kernel
set_option maxRecDepth 65536 in
set_option maxHeartbeats 40000000 in
theorem rm42 (l : Launch) (Z : State) (a0 : Array Value) (hw : ∀ d ∈ tables_1, d.before a0 Z = true) (ws : List Jvm.Cond) (a1 : Addr) (k1 : ClassId) (z1 : Int32) (vs : List Value) (dv : Value) (ms : List Addr) (h0 : Heap) (n0 : Nat) (O0 : Old Z n0 h0) (nb : Nat) (hb0 : n0 ≤ nb) (hnb : nb ≤ h0.size) (V1 : Arv Z h0 a1 k1 .byte z1 vs dv) :
    Con l Z ms (⟨"java/lang/StringUTF16", "coderFromArrayLen", "([BI)B"⟩ : MethodName) jdk_52_method_15_code 2 (some .byte) ws ({ frames := 0, cells := 0, slots := 0, locals := 0 } : Room) #[(.ref a1), (.int z1)] h0 (fun v vm h L => v = some (.int 0) ∧ Fr nb L ∧ h = h0) := by
  refine Con.mk (plainFor_of_name pn2) ?_
  intro p e s m below meth c s₁ Cc X0 e0 eb J0 B0 M0
  obtain ⟨hx, hZ, hown, hby, hml, hnm, hret, hlk⟩ := id Cc
  have N0 := Fr.nil h0.size
  have K0 := Keep.refl h0 []
  show Go p e s below _ _ _ _ s₁ (mkF m 0 #[.val (.ref a1), .val (.int z1)] [])
  refine Go.of (fun _ hr => XS.iloadN X0.here hx rfl (hb hby d42_0) rfl  hr) ?_
  show Go p e s below _ _ _ _ s₁ (mkF m 1 #[.val (.ref a1), .val (.int z1)] [(.int z1)])
  refine Go.of (fun _ hr => XS.aloadN X0.here hx rfl (hb hby d42_1) rfl rfl hr) ?_
  show Go p e s below _ _ _ _ s₁ (mkF m 2 #[.val (.ref a1), .val (.int z1)] [(.ref a1), (.int z1)])
  obtain ⟨cl101, Ar101, q101, S101, N101_, H101, G101⟩ := id V1
  refine Go.of (fun _ hr => X0.arraylength hx (by rw [e0]; exact Ar101.1) (State.isArrayOf_alike hZ.alike Ar101.2.1) (g := (mkF m 2 #[.val (.ref a1), .val (.int z1)] [(.ref a1), (.int z1)])) rfl rfl (hb hby d42_2) _ hr) ?_
  rw [len_of S101 N101_]
  show Go p e s below _ _ _ _ s₁ (mkF m 3 #[.val (.ref a1), .val (.int z1)] [(.int z1), (.int z1)])
  refine Go.of (fun _ hr => XS.isub X0.here hx rfl (hb hby d42_3) rfl hr) ?_
  show Go p e s below _ _ _ _ s₁ (mkF m 4 #[.val (.ref a1), .val (.int z1)] [(.int (z1 - z1))])
  rw [Int32.sub_self]
  show Go p e s below _ _ _ _ s₁ (mkF m 4 #[.val (.ref a1), .val (.int z1)] [(.int (0 : Int32))])
  refine Go.of (fun _ hr => XS.bipush X0.here hx rfl (hb hby d42_4) hr) ?_
  show Go p e s below _ _ _ _ s₁ (mkF m 6 #[.val (.ref a1), .val (.int z1)] [(.int (31 : Int32)), (.int (0 : Int32))])
  refine Go.of (fun _ hr => XS.iushr X0.here hx rfl (hb hby d42_6) rfl hr) ?_
  show Go p e s below _ _ _ _ s₁ (mkF m 7 #[.val (.ref a1), .val (.int z1)] [(.int (((0 : Int32).toUInt32 >>> ((31 : Int32) &&& 31).toUInt32).toInt32))])
  refine Go.of (fun _ hr => XS.i2b X0.here hx rfl (hb hby d42_7) rfl hr) ?_
  show Go p e s below _ _ _ _ s₁ (mkF m 8 #[.val (.ref a1), .val (.int z1)] [(.int ((((0 : Int32).toUInt32 >>> ((31 : Int32) &&& 31).toUInt32).toInt32).toInt8.toInt32))])
  exact Go.retN X0 hx hlk B0 J0 e0 (t := .byte) (z' := ((((0 : Int32).toUInt32 >>> ((31 : Int32) &&& 31).toUInt32).toInt32).toInt8.toInt32)) hret (by simp) (hb hby d42_8) (by decide) (by decide) (by decide) (fun vm_ hw_ => ⟨rfl, (fun y hy => Nat.le_trans hnb (N0 y hy)), rfl⟩)

theorem d3_0 : decode jdk_42_method_149_code 0 = .ok (.aload_n 0, 1) := by decide +kernel
theorem d3_1 : decode jdk_42_method_149_code 1 = .ok (.invokespecial 1, 3) := by decide +kernel
theorem d3_4 : decode jdk_42_method_149_code 4 = .ok (.iload_n 3, 1) := by decide +kernel
theorem d3_5 : decode jdk_42_method_149_code 5 = .ok (.ifCond .ne 22, 3) := by decide +kernel
theorem d3_8 : decode jdk_42_method_149_code 8 = .ok (.aload_n 0, 1) := by decide +kernel
theorem d3_9 : decode jdk_42_method_149_code 9 = .ok (.ldc 7, 2) := by decide +kernel
theorem d3_11 : decode jdk_42_method_149_code 11 = .ok (.getfield 9, 3) := by decide +kernel
theorem d3_14 : decode jdk_42_method_149_code 14 = .ok (.putfield 9, 3) := by decide +kernel
theorem d3_17 : decode jdk_42_method_149_code 17 = .ok (.aload_n 0, 1) := by decide +kernel
theorem d3_18 : decode jdk_42_method_149_code 18 = .ok (.ldc 7, 2) := by decide +kernel
theorem d3_20 : decode jdk_42_method_149_code 20 = .ok (.getfield 15, 3) := by decide +kernel
theorem d3_23 : decode jdk_42_method_149_code 23 = .ok (.putfield 15, 3) := by decide +kernel
theorem d3_26 : decode jdk_42_method_149_code 26 = .ok (.return_, 1) := by decide +kernel
theorem d3_27 : decode jdk_42_method_149_code 27 = .ok (.getstatic 38, 3) := by decide +kernel
theorem d3_30 : decode jdk_42_method_149_code 30 = .ok (.ifCond .eq 28, 3) := by decide +kernel
theorem d3_33 : decode jdk_42_method_149_code 33 = .ok (.aload_n 1, 1) := by decide +kernel
theorem d3_34 : decode jdk_42_method_149_code 34 = .ok (.iload_n 2, 1) := by decide +kernel
theorem d3_35 : decode jdk_42_method_149_code 35 = .ok (.iload_n 3, 1) := by decide +kernel
theorem d3_36 : decode jdk_42_method_149_code 36 = .ok (.invokestatic 177, 3) := by decide +kernel
theorem pd4 : parseMethodDescriptor "([CII)[B" = some ⟨[(.array .char), .int, .int], some (.array .byte)⟩ := by decide +kernel
theorem d3_39 : decode jdk_42_method_149_code 39 = .ok (.astore 5, 2) := by decide +kernel
theorem d3_41 : decode jdk_42_method_149_code 41 = .ok (.aload_n 0, 1) := by decide +kernel
theorem d3_42 : decode jdk_42_method_149_code 42 = .ok (.aload 5, 2) := by decide +kernel
theorem d3_44 : decode jdk_42_method_149_code 44 = .ok (.iload_n 3, 1) := by decide +kernel
theorem d3_45 : decode jdk_42_method_149_code 45 = .ok (.invokestatic 47, 3) := by decide +kernel
theorem pd5 : parseMethodDescriptor "([BI)B" = some ⟨[(.array .byte), .int], some .byte⟩ := by decide +kernel
theorem d3_48 : decode jdk_42_method_149_code 48 = .ok (.putfield 15, 3) := by decide +kernel
theorem d3_51 : decode jdk_42_method_149_code 51 = .ok (.aload_n 0, 1) := by decide +kernel
theorem d3_52 : decode jdk_42_method_149_code 52 = .ok (.aload 5, 2) := by decide +kernel
theorem d3_54 : decode jdk_42_method_149_code 54 = .ok (.putfield 9, 3) := by decide +kernel
theorem d3_57 : decode jdk_42_method_149_code 57 = .ok (.return_, 1) := by decide +kernel
set_option maxRecDepth 65536 in
set_option maxHeartbeats 40000000 in
theorem rm3 (l : Launch) (Z : State) (a0 : Array Value) (hw : ∀ d ∈ tables_1, d.before a0 Z = true) (ws : List Jvm.Cond) (a1 a2 : Addr) (k2 : ClassId) (cs : List Int32) (u1 u2 : Value) (zc : Int32) (ms : List Addr) (h0 : Heap) (n0 : Nat) (O0 : Old Z n0 h0) (nb : Nat) (hb0 : n0 ≤ nb) (hnb : nb ≤ h0.size) (fr_a1 : nb ≤ a1) (hm_a1 : a1 ∈ ms) (hn : cs.length ≤ 2) (hr : ∀ x ∈ cs, ¬ x < 0 ∧ ¬ 255 < x) (V1 : Arv Z h0 a2 k2 .char (Int32.ofNat cs.length) (cs.map Value.int) (.int 0)) (ne12 : a2 ≠ a1) (E1 : Exa Z h0 a1 "java/lang/String") (F1 : Fld Z h0 a1 "java/lang/String" "value" "[B" u1) (F2 : Fld Z h0 a1 "java/lang/String" "coder" "B" u2) (S_C : Sta Z Z.heap "java/lang/String" "COMPACT_STRINGS" "Z" (.int zc)) (hzc : ¬ zc = 0) :
    Con l Z ms (⟨"java/lang/String", "<init>", "([CIILjava/lang/Void;)V"⟩ : MethodName) jdk_42_method_149_code 6 none ws ({ frames := 2, cells := 2, slots := 4, locals := 35 } : Room) #[(.ref a1), (.ref a2), (.int (0 : Int32)), (.int (Int32.ofNat cs.length)), .null] h0 (fun v vm h L => v = none ∧ Fr nb L ∧ Keep h0 h [a1] ∧ ∃ t k, t ∉ ms ∧ Fld Z h a1 "java/lang/String" "value" "[B" (.ref t) ∧ Fld Z h a1 "java/lang/String" "coder" "B" (.int 0) ∧ Arv Z h t k .byte (Int32.ofNat (cs.map lo8).length) ((cs.map lo8).map Value.int) (.int 0)) := by
  refine Con.mk (plainFor_of_name pn1) ?_
  intro p e s m below meth c s₁ Cc X0 e0 eb J0 B0 M0
  obtain ⟨hx, hZ, hown, hby, hml, hnm, hret, hlk⟩ := id Cc
  have N0 := Fr.nil nb
  have K0 := Keep.refl h0 [a1]
  show Go p e s below _ _ _ _ s₁ (mkF m 0 #[.val (.ref a1), .val (.ref a2), .val (.int (0 : Int32)), .val (.int (Int32.ofNat cs.length)), .val .null, .unset] [])
  refine Go.of (fun _ hr => XS.aloadN X0.here hx rfl (hb hby d3_0) rfl rfl hr) ?_
  show Go p e s below _ _ _ _ s₁ (mkF m 1 #[.val (.ref a1), .val (.ref a2), .val (.int (0 : Int32)), .val (.int (Int32.ofNat cs.length)), .val .null, .unset] [(.ref a1)])
  obtain ⟨T101, X101, e101, st101⟩ := initO X0 hx hZ hown (hw _ (List.mem_of_getElem? (i := 15) rfl)) (hw _ (List.mem_of_getElem? (i := 16) rfl)) (hw _ (List.mem_of_getElem? (i := 17) rfl)) e0 (g := (mkF m 1 #[.val (.ref a1), .val (.ref a2), .val (.int (0 : Int32)), .val (.int (Int32.ofNat cs.length)), .val .null, .unset] [(.ref a1)])) rfl (by rw [hml]; rfl) rfl (hb hby d3_1) (by decide) (W := 0) (by show 2 * 0 + _ ≤ _; exact Nat.le_of_eq rfl) (by decide)
  refine Go.of (fun _ hr => st101 _ hr) ?_
  show Go p e s below _ _ _ _ T101 (mkF m 4 #[.val (.ref a1), .val (.ref a2), .val (.int (0 : Int32)), .val (.int (Int32.ofNat cs.length)), .val .null, .unset] [])
  refine Go.of (fun _ hr => XS.iloadN X101.here hx rfl (hb hby d3_4) rfl  hr) ?_
  show Go p e s below _ _ _ _ T101 (mkF m 5 #[.val (.ref a1), .val (.ref a2), .val (.int (0 : Int32)), .val (.int (Int32.ofNat cs.length)), .val .null, .unset] [(.int (Int32.ofNat cs.length))])
  by_cases hb5_102 : (Int32.ofNat cs.length) = (0 : Int32)
  · refine Go.of (fun _ hr => XS.ifNo X101.here hx rfl (hb hby d3_5) rfl ((if0 _ _).trans (teq hb5_102).2) hr) ?_
    show Go p e s below _ _ _ _ T101 (mkF m 8 #[.val (.ref a1), .val (.ref a2), .val (.int (0 : Int32)), .val (.int (Int32.ofNat cs.length)), .val .null, .unset] [])
    refine Go.of (fun _ hr => XS.aloadN X101.here hx rfl (hb hby d3_8) rfl rfl hr) ?_
    show Go p e s below _ _ _ _ T101 (mkF m 9 #[.val (.ref a1), .val (.ref a2), .val (.int (0 : Int32)), .val (.int (Int32.ofNat cs.length)), .val .null, .unset] [(.ref a1)])
    obtain ⟨o103, t103, k103, b103, T103, h103, e103, Cc103, X103, B103, J103, E103, Sy103, na103, nt103, lt103, st103⟩ := own_ldcV Cc B0 J0 X101 lit0_in lit0_one (hw _ (List.mem_of_getElem? (i := 18) rfl)) (own_wS Z a0 hw) lit0_lat lit0_len (Fr.nil _) (by rw [eb]; exact O0.2) e101 (g := (mkF m 9 #[.val (.ref a1), .val (.ref a2), .val (.int (0 : Int32)), .val (.int (Int32.ofNat cs.length)), .val .null, .unset] [(.ref a1)])) rfl (hb hby d3_9) (n := 0) lit0_sz (by decide) (by decide) (by decide)
    obtain ⟨hx, hZ, hown, hby, hml, hnm, hret, hlk⟩ := id Cc103
    have K103 := K0.ext E103
    have O103 := O0.ext E103
    have nx_o103_a1 : o103 ≠ a1 := fun q => na103 (by rw [q]; exact hm_a1)
    have nx_t103_a1 : t103 ≠ a1 := fun q => nt103 (by rw [q]; exact hm_a1)
    refine Go.of (fun _ hr => st103 _ hr) ?_
    show Go p e s below _ _ _ _ T103 (mkF m 11 #[.val (.ref a1), .val (.ref a2), .val (.int (0 : Int32)), .val (.int (Int32.ofNat cs.length)), .val .null, .unset] [(.ref o103), (.ref a1)])
    obtain ⟨T104, X104, e104, st104⟩ := getF X103 hx hZ hown (host := "") (Or.inl (hw _ (List.mem_of_getElem? (i := 24) rfl))) Via.refl e103 Sy103.2.2.1 (g := (mkF m 11 #[.val (.ref a1), .val (.ref a2), .val (.int (0 : Int32)), .val (.int (Int32.ofNat cs.length)), .val .null, .unset] [(.ref o103), (.ref a1)])) rfl rfl (hb hby d3_11)
    refine Go.of (fun _ hr => st104 _ hr) ?_
    show Go p e s below _ _ _ _ T104 (mkF m 14 #[.val (.ref a1), .val (.ref a2), .val (.int (0 : Int32)), .val (.int (Int32.ofNat cs.length)), .val .null, .unset] [(.ref t103), (.ref a1)])
    have f106 := (F1.ext E103)
    have f107 := (E1.ext E103)
    obtain ⟨T105, h105, X105, e105, W105, st105⟩ := putF X104 hx hZ hown (host := "") (Or.inl (hw _ (List.mem_of_getElem? (i := 24) rfl))) Via.refl e104 f106 f107 (Or.inr ⟨(hw _ (List.mem_of_getElem? (i := 20) rfl)), rfl, hnm⟩) (hw _ (List.mem_of_getElem? (i := 5) rfl)) (ty := (.array .byte)) (by decide) rfl rfl (g := (mkF m 14 #[.val (.ref a1), .val (.ref a2), .val (.int (0 : Int32)), .val (.int (Int32.ofNat cs.length)), .val .null, .unset] [(.ref t103), (.ref a1)])) rfl rfl (hb hby d3_14)
    have N105 := Fr.snoc X105 N0 fr_a1
    have J105 := J103.wr W105 hm_a1
    have B105 := B103.mono (Nat.le_of_eq W105.size.symm)
    have O105 := O103.wr W105 (Nat.le_trans hb0 fr_a1)
    have K105 := K103.wr W105 (Or.inl (List.mem_of_getElem? (i := 0) rfl))
    have Fw105 := f106.same W105
    refine Go.of (fun _ hr => st105 _ hr) ?_
    show Go p e s below _ _ _ _ T105 (mkF m 17 #[.val (.ref a1), .val (.ref a2), .val (.int (0 : Int32)), .val (.int (Int32.ofNat cs.length)), .val .null, .unset] [])
    refine Go.of (fun _ hr => XS.aloadN X105.here hx rfl (hb hby d3_17) rfl rfl hr) ?_
    show Go p e s below _ _ _ _ T105 (mkF m 18 #[.val (.ref a1), .val (.ref a2), .val (.int (0 : Int32)), .val (.int (Int32.ofNat cs.length)), .val .null, .unset] [(.ref a1)])
    refine Go.of (own_ldcA Cc103 X105 B105 (hw _ (List.mem_of_getElem? (i := 18) rfl)) lt103 (g := (mkF m 18 #[.val (.ref a1), .val (.ref a2), .val (.int (0 : Int32)), .val (.int (Int32.ofNat cs.length)), .val .null, .unset] [(.ref a1)])) rfl (hb hby d3_18)) ?_
    show Go p e s below _ _ _ _ T105 (mkF m 20 #[.val (.ref a1), .val (.ref a2), .val (.int (0 : Int32)), .val (.int (Int32.ofNat cs.length)), .val .null, .unset] [(.ref o103), (.ref a1)])
    have f110 := (Sy103.2.1.other W105 (Or.inl nx_o103_a1))
    obtain ⟨T109, X109, e109, st109⟩ := getF X105 hx hZ hown (host := "") (Or.inl (hw _ (List.mem_of_getElem? (i := 25) rfl))) Via.refl e105 f110 (g := (mkF m 20 #[.val (.ref a1), .val (.ref a2), .val (.int (0 : Int32)), .val (.int (Int32.ofNat cs.length)), .val .null, .unset] [(.ref o103), (.ref a1)])) rfl rfl (hb hby d3_20)
    refine Go.of (fun _ hr => st109 _ hr) ?_
    show Go p e s below _ _ _ _ T109 (mkF m 23 #[.val (.ref a1), .val (.ref a2), .val (.int (0 : Int32)), .val (.int (Int32.ofNat cs.length)), .val .null, .unset] [(.int (0 : Int32)), (.ref a1)])
    have f112 := ((F2.ext E103).other W105 (Or.inr (slot_ne (Or.inr (hw _ (List.mem_of_getElem? (i := 21) rfl))) (Or.inr (hw _ (List.mem_of_getElem? (i := 20) rfl))) (by decide) (t := .byte) (t' := (.array .byte)) (by decide) (by decide))))
    have f113 := (f107.wr W105)
    obtain ⟨T111, h111, X111, e111, W111, st111⟩ := putFN X109 hx hZ hown (hw _ (List.mem_of_getElem? (i := 25) rfl)) Via.refl e109 f112 f113 (Or.inr ⟨(hw _ (List.mem_of_getElem? (i := 21) rfl)), rfl, hnm⟩) (hw _ (List.mem_of_getElem? (i := 5) rfl)) (ty := .byte) (v := (.int (0 : Int32))) (v' := (.int (0 : Int32))) (by decide) rfl rfl (g := (mkF m 23 #[.val (.ref a1), .val (.ref a2), .val (.int (0 : Int32)), .val (.int (Int32.ofNat cs.length)), .val .null, .unset] [(.int (0 : Int32)), (.ref a1)])) rfl rfl (hb hby d3_23)
    have N111 := Fr.snoc X111 N105 fr_a1
    have J111 := J105.wr W111 hm_a1
    have B111 := B105.mono (Nat.le_of_eq W111.size.symm)
    have O111 := O105.wr W111 (Nat.le_trans hb0 fr_a1)
    have K111 := K105.wr W111 (Or.inl (List.mem_of_getElem? (i := 0) rfl))
    have Fw111 := f112.same W111
    refine Go.of (fun _ hr => st111 _ hr) ?_
    show Go p e s below _ _ _ _ T111 (mkF m 26 #[.val (.ref a1), .val (.ref a2), .val (.int (0 : Int32)), .val (.int (Int32.ofNat cs.length)), .val .null, .unset] [])
    have f114 := ((Sy103.2.2.2.other W105 nx_t103_a1).other W111 nx_t103_a1)
    have f115 := (Fw105.other W111 (Or.inr (slot_ne (Or.inr (hw _ (List.mem_of_getElem? (i := 20) rfl))) (Or.inr (hw _ (List.mem_of_getElem? (i := 21) rfl))) (by decide) (t := (.array .byte)) (t' := .byte) (by decide) (by decide))))
    exact Go.retV X111 hx hlk B111 J111 e111 hret (hb hby d3_26) (by decide) (by decide) (fun vm_ hw_ => ⟨rfl, N111, K111, _, _, (fun hz => nt103 hz), f115, Fw111, asN f114 (oi_nil hn hb5_102)⟩)
  · refine Go.of (fun _ hr => XS.ifYes X101.here hx rfl (pc0 := 5) (pc' := 27) rfl (hb hby d3_5) rfl ((if0 _ _).trans (feq hb5_102).2) (by decide) (by decide) hr) ?_
    show Go p e s below _ _ _ _ T101 (mkF m 27 #[.val (.ref a1), .val (.ref a2), .val (.int (0 : Int32)), .val (.int (Int32.ofNat cs.length)), .val .null, .unset] [])
    obtain ⟨T116, X116, e116, st116⟩ := getS2 X101 hx hZ hown (host := "") (Or.inl (hw _ (List.mem_of_getElem? (i := 93) rfl))) Via.refl e101 (S_C.ext O0.2) (g := (mkF m 27 #[.val (.ref a1), .val (.ref a2), .val (.int (0 : Int32)), .val (.int (Int32.ofNat cs.length)), .val .null, .unset] [])) rfl (hb hby d3_27)
    refine Go.of (fun _ hr => st116 _ hr) ?_
    show Go p e s below _ _ _ _ T116 (mkF m 30 #[.val (.ref a1), .val (.ref a2), .val (.int (0 : Int32)), .val (.int (Int32.ofNat cs.length)), .val .null, .unset] [(.int zc)])
    refine Go.of (fun _ hr => XS.ifNo X116.here hx rfl (hb hby d3_30) rfl ((if0 _ _).trans (feq hzc).1) hr) ?_
    show Go p e s below _ _ _ _ T116 (mkF m 33 #[.val (.ref a1), .val (.ref a2), .val (.int (0 : Int32)), .val (.int (Int32.ofNat cs.length)), .val .null, .unset] [])
    refine Go.of (fun _ hr => XS.aloadN X116.here hx rfl (hb hby d3_33) rfl rfl hr) ?_
    show Go p e s below _ _ _ _ T116 (mkF m 34 #[.val (.ref a1), .val (.ref a2), .val (.int (0 : Int32)), .val (.int (Int32.ofNat cs.length)), .val .null, .unset] [(.ref a2)])
    refine Go.of (fun _ hr => XS.iloadN X116.here hx rfl (hb hby d3_34) rfl  hr) ?_
    show Go p e s below _ _ _ _ T116 (mkF m 35 #[.val (.ref a1), .val (.ref a2), .val (.int (0 : Int32)), .val (.int (Int32.ofNat cs.length)), .val .null, .unset] [(.int (0 : Int32)), (.ref a2)])
    refine Go.of (fun _ hr => XS.iloadN X116.here hx rfl (hb hby d3_35) rfl  hr) ?_
    show Go p e s below _ _ _ _ T116 (mkF m 36 #[.val (.ref a1), .val (.ref a2), .val (.int (0 : Int32)), .val (.int (Int32.ofNat cs.length)), .val .null, .unset] [(.int (Int32.ofNat cs.length)), (.int (0 : Int32)), (.ref a2)])
    obtain ⟨_, b117, T117, h117, L117, e117, Cc117, X117, B117, J117, g117, hQ117, st117⟩ := own_callS Cc B0 J0 X116 (hw _ (List.mem_of_getElem? (i := 206) rfl)) (hw _ (List.mem_of_getElem? (i := 207) rfl)) (hw _ (List.mem_of_getElem? (i := 208) rfl)) (hw _ (List.mem_of_getElem? (i := 209) rfl)) (by decide) (rm40 l Z a0 hw [] a2 _ cs _ h0 n0 O0 h0.size (own_ole O0) K0.1 hn hr V1) e116 (g := (mkF m 36 #[.val (.ref a1), .val (.ref a2), .val (.int (0 : Int32)), .val (.int (Int32.ofNat cs.length)), .val .null, .unset] [(.int (Int32.ofNat cs.length)), (.int (0 : Int32)), (.ref a2)])) rfl (by rw [hml]; rfl) (argsL := [(.ref a2), (.int (0 : Int32)), (.int (Int32.ofNat cs.length))]) (rest := []) (lenOf pd4 rfl) rfl (W := 0) (by show 2 * 0 + _ ≤ _; exact Nat.le_of_eq rfl) (hb hby d3_36) (by decide) (by decide) (by decide) (by decide)
    obtain ⟨r117, kr117, rfl, Nq117, Eq117, R_r117, Vr117⟩ := hQ117
    have N117 := Fr.app N0 (show Fr nb _ from fun y hy => Nat.le_trans hnb (Nq117 y hy))
    have NS117 := Fr.app (Fr.nil _) Nq117
    obtain ⟨hx, hZ, hown, hby, hml, hnm, hret, hlk⟩ := id Cc117
    have sz_r117 : h0.size ≤ r117 := Nat.le_trans K0.1 R_r117
    have fr_r117 : nb ≤ r117 := Nat.le_trans hnb sz_r117
    have ne_a1_r117 : a1 ≠ r117 := Nat.ne_of_lt (Nat.lt_of_lt_of_le E1.lt R_r117)
    have ne_a2_r117 : a2 ≠ r117 := Nat.ne_of_lt (Nat.lt_of_lt_of_le V1.lt R_r117)
    have K117 := K0.ext Eq117
    have O117 := O0.ext Eq117
    refine Go.of st117 ?_
    show Go p e s below _ _ _ _ T117 (mkF m 39 #[.val (.ref a1), .val (.ref a2), .val (.int (0 : Int32)), .val (.int (Int32.ofNat cs.length)), .val .null, .unset] [(.ref r117)])
    refine Go.of (fun _ hr => XS.astore X117.here hx rfl (hb hby d3_39) rfl rfl (l' := #[.val (.ref a1), .val (.ref a2), .val (.int (0 : Int32)), .val (.int (Int32.ofNat cs.length)), .val .null, .val (.ref r117)]) rfl hr) ?_
    show Go p e s below _ _ _ _ T117 (mkF m 41 #[.val (.ref a1), .val (.ref a2), .val (.int (0 : Int32)), .val (.int (Int32.ofNat cs.length)), .val .null, .val (.ref r117)] [])
    refine Go.of (fun _ hr => XS.aloadN X117.here hx rfl (hb hby d3_41) rfl rfl hr) ?_
    show Go p e s below _ _ _ _ T117 (mkF m 42 #[.val (.ref a1), .val (.ref a2), .val (.int (0 : Int32)), .val (.int (Int32.ofNat cs.length)), .val .null, .val (.ref r117)] [(.ref a1)])
    refine Go.of (fun _ hr => XS.aload X117.here hx rfl (hb hby d3_42) rfl rfl hr) ?_
    show Go p e s below _ _ _ _ T117 (mkF m 44 #[.val (.ref a1), .val (.ref a2), .val (.int (0 : Int32)), .val (.int (Int32.ofNat cs.length)), .val .null, .val (.ref r117)] [(.ref r117), (.ref a1)])
    refine Go.of (fun _ hr => XS.iloadN X117.here hx rfl (hb hby d3_44) rfl  hr) ?_
    show Go p e s below _ _ _ _ T117 (mkF m 45 #[.val (.ref a1), .val (.ref a2), .val (.int (0 : Int32)), .val (.int (Int32.ofNat cs.length)), .val .null, .val (.ref r117)] [(.int (Int32.ofNat cs.length)), (.ref r117), (.ref a1)])
    obtain ⟨_, b118, T118, h118, L118, e118, Cc118, X118, B118, J118, g118, hQ118, st118⟩ := own_callS Cc117 B117 J117 X117 (hw _ (List.mem_of_getElem? (i := 213) rfl)) (hw _ (List.mem_of_getElem? (i := 214) rfl)) (hw _ (List.mem_of_getElem? (i := 208) rfl)) (hw _ (List.mem_of_getElem? (i := 215) rfl)) (by decide) (rm42 l Z a0 hw [] r117 _ (Int32.ofNat cs.length) _ _ _ h117 n0 O117 h0.size (own_ole O0) K117.1 Vr117) e117 (g := (mkF m 45 #[.val (.ref a1), .val (.ref a2), .val (.int (0 : Int32)), .val (.int (Int32.ofNat cs.length)), .val .null, .val (.ref r117)] [(.int (Int32.ofNat cs.length)), (.ref r117), (.ref a1)])) rfl (by rw [hml]; rfl) (argsL := [(.ref r117), (.int (Int32.ofNat cs.length))]) (rest := [(.ref a1)]) (lenOf pd5 rfl) rfl (W := 1) (by show 2 * 0 + _ ≤ _; exact Nat.le_of_eq rfl) (hb hby d3_45) (by decide) (by decide) (by decide) (by decide)
    obtain ⟨rfl, Nq118, hh118⟩ := hQ118
    have N118 := Fr.app N117 (show Fr nb _ from fun y hy => Nat.le_trans hnb (Nq118 y hy))
    have NS118 := Fr.app NS117 Nq118
    obtain ⟨hx, hZ, hown, hby, hml, hnm, hret, hlk⟩ := id Cc118
    rw [hh118] at e118 B118 J118
    refine Go.of st118 ?_
    show Go p e s below _ _ _ _ T118 (mkF m 48 #[.val (.ref a1), .val (.ref a2), .val (.int (0 : Int32)), .val (.int (Int32.ofNat cs.length)), .val .null, .val (.ref r117)] [(.int (0 : Int32)), (.ref a1)])
    have f120 := (F2.ext Eq117)
    have f121 := (E1.ext Eq117)
    obtain ⟨T119, h119, X119, e119, W119, st119⟩ := putFN X118 hx hZ hown (hw _ (List.mem_of_getElem? (i := 25) rfl)) Via.refl e118 f120 f121 (Or.inr ⟨(hw _ (List.mem_of_getElem? (i := 21) rfl)), rfl, hnm⟩) (hw _ (List.mem_of_getElem? (i := 5) rfl)) (ty := .byte) (v := (.int (0 : Int32))) (v' := (.int (0 : Int32))) (by decide) rfl rfl (g := (mkF m 48 #[.val (.ref a1), .val (.ref a2), .val (.int (0 : Int32)), .val (.int (Int32.ofNat cs.length)), .val .null, .val (.ref r117)] [(.int (0 : Int32)), (.ref a1)])) rfl rfl (hb hby d3_48)
    have N119 := Fr.snoc X119 N118 fr_a1
    have J119 := J118.wr W119 hm_a1
    have B119 := B118.mono (Nat.le_of_eq W119.size.symm)
    have O119 := O117.wr W119 (Nat.le_trans hb0 fr_a1)
    have K119 := K117.wr W119 (Or.inl (List.mem_of_getElem? (i := 0) rfl))
    have Fw119 := f120.same W119
    refine Go.of (fun _ hr => st119 _ hr) ?_
    show Go p e s below _ _ _ _ T119 (mkF m 51 #[.val (.ref a1), .val (.ref a2), .val (.int (0 : Int32)), .val (.int (Int32.ofNat cs.length)), .val .null, .val (.ref r117)] [])
    refine Go.of (fun _ hr => XS.aloadN X119.here hx rfl (hb hby d3_51) rfl rfl hr) ?_
    show Go p e s below _ _ _ _ T119 (mkF m 52 #[.val (.ref a1), .val (.ref a2), .val (.int (0 : Int32)), .val (.int (Int32.ofNat cs.length)), .val .null, .val (.ref r117)] [(.ref a1)])
    refine Go.of (fun _ hr => XS.aload X119.here hx rfl (hb hby d3_52) rfl rfl hr) ?_
    show Go p e s below _ _ _ _ T119 (mkF m 54 #[.val (.ref a1), .val (.ref a2), .val (.int (0 : Int32)), .val (.int (Int32.ofNat cs.length)), .val .null, .val (.ref r117)] [(.ref r117), (.ref a1)])
    have f123 := ((F1.ext Eq117).other W119 (Or.inr (slot_ne (Or.inr (hw _ (List.mem_of_getElem? (i := 20) rfl))) (Or.inr (hw _ (List.mem_of_getElem? (i := 21) rfl))) (by decide) (t := (.array .byte)) (t' := .byte) (by decide) (by decide))))
    have f124 := (f121.wr W119)
    obtain ⟨T122, h122, X122, e122, W122, st122⟩ := putF X119 hx hZ hown (host := "") (Or.inl (hw _ (List.mem_of_getElem? (i := 24) rfl))) Via.refl e119 f123 f124 (Or.inr ⟨(hw _ (List.mem_of_getElem? (i := 20) rfl)), rfl, hnm⟩) (hw _ (List.mem_of_getElem? (i := 5) rfl)) (ty := (.array .byte)) (by decide) rfl rfl (g := (mkF m 54 #[.val (.ref a1), .val (.ref a2), .val (.int (0 : Int32)), .val (.int (Int32.ofNat cs.length)), .val .null, .val (.ref r117)] [(.ref r117), (.ref a1)])) rfl rfl (hb hby d3_54)
    have N122 := Fr.snoc X122 N119 fr_a1
    have J122 := J119.wr W122 hm_a1
    have B122 := B119.mono (Nat.le_of_eq W122.size.symm)
    have O122 := O119.wr W122 (Nat.le_trans hb0 fr_a1)
    have K122 := K119.wr W122 (Or.inl (List.mem_of_getElem? (i := 0) rfl))
    have Fw122 := f123.same W122
    refine Go.of (fun _ hr => st122 _ hr) ?_
    show Go p e s below _ _ _ _ T122 (mkF m 57 #[.val (.ref a1), .val (.ref a2), .val (.int (0 : Int32)), .val (.int (Int32.ofNat cs.length)), .val .null, .val (.ref r117)] [])
    have f125 := ((Vr117.other W119 (Ne.symm ne_a1_r117)).other W122 (Ne.symm ne_a1_r117))
    have f126 := (Fw119.other W122 (Or.inr (slot_ne (Or.inr (hw _ (List.mem_of_getElem? (i := 21) rfl))) (Or.inr (hw _ (List.mem_of_getElem? (i := 20) rfl))) (by decide) (t := .byte) (t' := (.array .byte)) (by decide) (by decide))))
    exact Go.retV X122 hx hlk B122 J122 e122 hret (hb hby d3_57) (by decide) (by decide) (fun vm_ hw_ => ⟨rfl, N122, K122, _, _, (J0.nms sz_r117), Fw122, f126, asB f125⟩)

theorem d2_0 : decode jdk_42_method_3_code 0 = .ok (.aload_n 0, 1) := by decide +kernel
theorem d2_1 : decode jdk_42_method_3_code 1 = .ok (.aload_n 1, 1) := by decide +kernel
theorem d2_2 : decode jdk_42_method_3_code 2 = .ok (.iconst 0, 1) := by decide +kernel
theorem d2_3 : decode jdk_42_method_3_code 3 = .ok (.aload_n 1, 1) := by decide +kernel
theorem d2_4 : decode jdk_42_method_3_code 4 = .ok (.arraylength, 1) := by decide +kernel
theorem d2_5 : decode jdk_42_method_3_code 5 = .ok (.aconst_null, 1) := by decide +kernel
theorem d2_6 : decode jdk_42_method_3_code 6 = .ok (.invokespecial 27, 3) := by decide +kernel
theorem pd6 : parseMethodDescriptor "([CIILjava/lang/Void;)V" = some ⟨[(.array .char), .int, .int, (.object "java/lang/Void")], none⟩ := by decide +kernel
theorem d2_9 : decode jdk_42_method_3_code 9 = .ok (.return_, 1) := by decide +kernel
set_option maxRecDepth 65536 in
set_option maxHeartbeats 40000000 in
theorem rm2 (l : Launch) (Z : State) (a0 : Array Value) (hw : ∀ d ∈ tables_1, d.before a0 Z = true) (ws : List Jvm.Cond) (a1 a2 : Addr) (k2 : ClassId) (cs : List Int32) (u1 u2 : Value) (zc : Int32) (ms : List Addr) (h0 : Heap) (n0 : Nat) (O0 : Old Z n0 h0) (nb : Nat) (hb0 : n0 ≤ nb) (hnb : nb ≤ h0.size) (fr_a1 : nb ≤ a1) (hm_a1 : a1 ∈ ms) (hn : cs.length ≤ 2) (hr : ∀ x ∈ cs, ¬ x < 0 ∧ ¬ 255 < x) (V1 : Arv Z h0 a2 k2 .char (Int32.ofNat cs.length) (cs.map Value.int) (.int 0)) (ne12 : a2 ≠ a1) (E1 : Exa Z h0 a1 "java/lang/String") (F1 : Fld Z h0 a1 "java/lang/String" "value" "[B" u1) (F2 : Fld Z h0 a1 "java/lang/String" "coder" "B" u2) (S_C : Sta Z Z.heap "java/lang/String" "COMPACT_STRINGS" "Z" (.int zc)) (hzc : ¬ zc = 0) :
    Con l Z ms (⟨"java/lang/String", "<init>", "([C)V"⟩ : MethodName) jdk_42_method_3_code 2 none ws ({ frames := 3, cells := 2, slots := 4, locals := 52 } : Room) #[(.ref a1), (.ref a2)] h0 (fun v vm h L => v = none ∧ Fr nb L ∧ Keep h0 h [a1] ∧ ∃ t k, t ∉ ms ∧ Fld Z h a1 "java/lang/String" "value" "[B" (.ref t) ∧ Fld Z h a1 "java/lang/String" "coder" "B" (.int 0) ∧ Arv Z h t k .byte (Int32.ofNat (cs.map lo8).length) ((cs.map lo8).map Value.int) (.int 0)) := by
  refine Con.mk (plainFor_of_name pn1) ?_
  intro p e s m below meth c s₁ Cc X0 e0 eb J0 B0 M0
  obtain ⟨hx, hZ, hown, hby, hml, hnm, hret, hlk⟩ := id Cc
  have N0 := Fr.nil nb
  have K0 := Keep.refl h0 [a1]
  show Go p e s below _ _ _ _ s₁ (mkF m 0 #[.val (.ref a1), .val (.ref a2)] [])
  refine Go.of (fun _ hr => XS.aloadN X0.here hx rfl (hb hby d2_0) rfl rfl hr) ?_
  show Go p e s below _ _ _ _ s₁ (mkF m 1 #[.val (.ref a1), .val (.ref a2)] [(.ref a1)])
  refine Go.of (fun _ hr => XS.aloadN X0.here hx rfl (hb hby d2_1) rfl rfl hr) ?_
  show Go p e s below _ _ _ _ s₁ (mkF m 2 #[.val (.ref a1), .val (.ref a2)] [(.ref a2), (.ref a1)])
  refine Go.of (fun _ hr => XS.iconst X0.here hx rfl (hb hby d2_2) hr) ?_
  show Go p e s below _ _ _ _ s₁ (mkF m 3 #[.val (.ref a1), .val (.ref a2)] [(.int (0 : Int32)), (.ref a2), (.ref a1)])
  refine Go.of (fun _ hr => XS.aloadN X0.here hx rfl (hb hby d2_3) rfl rfl hr) ?_
  show Go p e s below _ _ _ _ s₁ (mkF m 4 #[.val (.ref a1), .val (.ref a2)] [(.ref a2), (.int (0 : Int32)), (.ref a2), (.ref a1)])
  obtain ⟨cl101, Ar101, q101, S101, N101_, H101, G101⟩ := id V1
  refine Go.of (fun _ hr => X0.arraylength hx (by rw [e0]; exact Ar101.1) (State.isArrayOf_alike hZ.alike Ar101.2.1) (g := (mkF m 4 #[.val (.ref a1), .val (.ref a2)] [(.ref a2), (.int (0 : Int32)), (.ref a2), (.ref a1)])) rfl rfl (hb hby d2_4) _ hr) ?_
  rw [len_of S101 N101_]
  show Go p e s below _ _ _ _ s₁ (mkF m 5 #[.val (.ref a1), .val (.ref a2)] [(.int (Int32.ofNat cs.length)), (.int (0 : Int32)), (.ref a2), (.ref a1)])
  refine Go.of (fun _ hr => XS.aconstNull X0.here hx rfl (hb hby d2_5) hr) ?_
  show Go p e s below _ _ _ _ s₁ (mkF m 6 #[.val (.ref a1), .val (.ref a2)] [.null, (.int (Int32.ofNat cs.length)), (.int (0 : Int32)), (.ref a2), (.ref a1)])
  obtain ⟨_, b102, T102, h102, L102, e102, Cc102, X102, B102, J102, g102, hQ102, st102⟩ := own_callI Cc B0 J0 X0 rfl (hw _ (List.mem_of_getElem? (i := 11) rfl)) (hw _ (List.mem_of_getElem? (i := 12) rfl)) (hw _ (List.mem_of_getElem? (i := 6) rfl)) (hw _ (List.mem_of_getElem? (i := 14) rfl)) (by decide) (rm3 l Z a0 hw [] a1 a2 _ cs _ _ zc _ h0 n0 O0 nb hb0 (Nat.le_trans hnb K0.1) fr_a1 hm_a1 hn hr V1 ne12 E1 F1 F2 S_C hzc) e0 (g := (mkF m 6 #[.val (.ref a1), .val (.ref a2)] [.null, (.int (Int32.ofNat cs.length)), (.int (0 : Int32)), (.ref a2), (.ref a1)])) rfl (by rw [hml]; rfl) (argsL := [(.ref a2), (.int (0 : Int32)), (.int (Int32.ofNat cs.length)), .null]) (rest := []) (lenOf pd6 rfl) rfl (W := 0) (by show 2 * 0 + _ ≤ _; exact Nat.le_of_eq rfl) (hb hby d2_6) (by decide) (by decide) (by decide) (by decide)
  obtain ⟨rfl, Nq102, Kq102, t102, kt102, nt102, Fv102, Fc102, Vt102⟩ := hQ102
  have N102 := Fr.app N0 Nq102
  obtain ⟨hx, hZ, hown, hby, hml, hnm, hret, hlk⟩ := id Cc102
  have K102 := K0.trans Kq102 (allS (Or.inl (List.mem_of_getElem? (i := 0) rfl)) all0)
  have O102 := O0.keep Kq102 (allS (Nat.le_trans hb0 fr_a1) all0)
  refine Go.of st102 ?_
  have nx_t102_a1 : t102 ≠ a1 := fun q => nt102 (by rw [q]; exact hm_a1)
  show Go p e s below _ _ _ _ T102 (mkF m 9 #[.val (.ref a1), .val (.ref a2)] [])
  exact Go.retV X102 hx hlk B102 J102 e102 hret (hb hby d2_9) (by decide) (by decide) (fun vm_ hw_ => ⟨rfl, N102, K102, _, _, (fun hz => nt102 hz), Fv102, Fc102, Vt102⟩)

theorem d14_0 : decode jdk_42_method_152_code 0 = .ok (.getstatic 38, 3) := by decide +kernel
theorem d14_3 : decode jdk_42_method_152_code 3 = .ok (.ifCond .eq 10, 3) := by decide +kernel
theorem d14_6 : decode jdk_42_method_152_code 6 = .ok (.aload_n 0, 1) := by decide +kernel
theorem d14_7 : decode jdk_42_method_152_code 7 = .ok (.getfield 15, 3) := by decide +kernel
theorem d14_10 : decode jdk_42_method_152_code 10 = .ok (.goto 4, 3) := by decide +kernel
theorem d14_14 : decode jdk_42_method_152_code 14 = .ok (.ireturn, 1) := by decide +kernel
set_option maxRecDepth 65536 in
set_option maxHeartbeats 40000000 in
theorem rm14 (l : Launch) (Z : State) (a0 : Array Value) (hw : ∀ d ∈ tables_1, d.before a0 Z = true) (ws : List Jvm.Cond) (s1 : Addr) (zc : Int32) (ms : List Addr) (h0 : Heap) (n0 : Nat) (O0 : Old Z n0 h0) (nb : Nat) (hb0 : n0 ≤ nb) (hnb : nb ≤ h0.size) (Fc1 : Fld Z h0 s1 "java/lang/String" "coder" "B" (.int 0)) (S_C : Sta Z Z.heap "java/lang/String" "COMPACT_STRINGS" "Z" (.int zc)) (hzc : ¬ zc = 0) :
    Con l Z ms (⟨"java/lang/String", "coder", "()B"⟩ : MethodName) jdk_42_method_152_code 1 (some .byte) ws ({ frames := 0, cells := 0, slots := 0, locals := 0 } : Room) #[(.ref s1)] h0 (fun v vm h L => v = some (.int 0) ∧ Fr nb L ∧ h = h0) := by
  refine Con.mk (plainFor_of_name pn1) ?_
  intro p e s m below meth c s₁ Cc X0 e0 eb J0 B0 M0
  obtain ⟨hx, hZ, hown, hby, hml, hnm, hret, hlk⟩ := id Cc
  have N0 := Fr.nil h0.size
  have K0 := Keep.refl h0 []
  show Go p e s below _ _ _ _ s₁ (mkF m 0 #[.val (.ref s1)] [])
  obtain ⟨T101, X101, e101, st101⟩ := getS2 X0 hx hZ hown (host := "") (Or.inl (hw _ (List.mem_of_getElem? (i := 93) rfl))) Via.refl e0 (S_C.ext O0.2) (g := (mkF m 0 #[.val (.ref s1)] [])) rfl (hb hby d14_0)
  refine Go.of (fun _ hr => st101 _ hr) ?_
  show Go p e s below _ _ _ _ T101 (mkF m 3 #[.val (.ref s1)] [(.int zc)])
  refine Go.of (fun _ hr => XS.ifNo X101.here hx rfl (hb hby d14_3) rfl ((if0 _ _).trans (feq hzc).1) hr) ?_
  show Go p e s below _ _ _ _ T101 (mkF m 6 #[.val (.ref s1)] [])
  refine Go.of (fun _ hr => XS.aloadN X101.here hx rfl (hb hby d14_6) rfl rfl hr) ?_
  show Go p e s below _ _ _ _ T101 (mkF m 7 #[.val (.ref s1)] [(.ref s1)])
  obtain ⟨T102, X102, e102, st102⟩ := getF X101 hx hZ hown (host := "") (Or.inl (hw _ (List.mem_of_getElem? (i := 25) rfl))) Via.refl e101 Fc1 (g := (mkF m 7 #[.val (.ref s1)] [(.ref s1)])) rfl rfl (hb hby d14_7)
  refine Go.of (fun _ hr => st102 _ hr) ?_
  show Go p e s below _ _ _ _ T102 (mkF m 10 #[.val (.ref s1)] [(.int (0 : Int32))])
  refine Go.of (fun _ hr => XS.goto X102.here hx rfl (pc0 := 10) (pc' := 14) rfl (hb hby d14_10) (by decide) (by decide) hr) ?_
  show Go p e s below _ _ _ _ T102 (mkF m 14 #[.val (.ref s1)] [(.int (0 : Int32))])
  exact Go.retN X102 hx hlk B0 J0 e102 (t := .byte) (z' := (0 : Int32)) hret (by simp) (hb hby d14_14) rfl (by decide) (by decide) (fun vm_ hw_ => ⟨rfl, (fun y hy => Nat.le_trans hnb (N0 y hy)), rfl⟩)

theorem d13_0 : decode jdk_42_method_54_code 0 = .ok (.aload_n 0, 1) := by decide +kernel
theorem d13_1 : decode jdk_42_method_54_code 1 = .ok (.getfield 9, 3) := by decide +kernel
theorem d13_4 : decode jdk_42_method_54_code 4 = .ok (.arraylength, 1) := by decide +kernel
theorem d13_5 : decode jdk_42_method_54_code 5 = .ok (.aload_n 0, 1) := by decide +kernel
theorem d13_6 : decode jdk_42_method_54_code 6 = .ok (.invokevirtual 335, 3) := by decide +kernel
theorem pd7 : parseMethodDescriptor "()B" = some ⟨[], some .byte⟩ := by decide +kernel
theorem d13_9 : decode jdk_42_method_54_code 9 = .ok (.ishr, 1) := by decide +kernel
theorem d13_10 : decode jdk_42_method_54_code 10 = .ok (.ireturn, 1) := by decide +kernel
set_option maxRecDepth 65536 in
set_option maxHeartbeats 40000000 in
theorem rm13 (l : Launch) (Z : State) (a0 : Array Value) (hw : ∀ d ∈ tables_1, d.before a0 Z = true) (ws : List Jvm.Cond) (s1 t1 : Addr) (k1 : ClassId) (b1 : List Int32) (zc : Int32) (ms : List Addr) (h0 : Heap) (n0 : Nat) (O0 : Old Z n0 h0) (nb : Nat) (hb0 : n0 ≤ nb) (hnb : nb ≤ h0.size) (Es1 : Exa Z h0 s1 "java/lang/String") (Fv1 : Fld Z h0 s1 "java/lang/String" "value" "[B" (.ref t1)) (Fc1 : Fld Z h0 s1 "java/lang/String" "coder" "B" (.int 0)) (V1 : Arv Z h0 t1 k1 .byte (Int32.ofNat b1.length) (b1.map Value.int) (.int 0)) (hn1 : b1.length ≤ 1000) (S_C : Sta Z Z.heap "java/lang/String" "COMPACT_STRINGS" "Z" (.int zc)) (hzc : ¬ zc = 0) :
    Con l Z ms (⟨"java/lang/String", "length", "()I"⟩ : MethodName) jdk_42_method_54_code 1 (some .int) ws ({ frames := 1, cells := 0, slots := 0, locals := 14 } : Room) #[(.ref s1)] h0 (fun v vm h L => v = some (.int (Int32.ofNat b1.length)) ∧ Fr nb L ∧ h = h0) := by
  refine Con.mk (plainFor_of_name pn1) ?_
  intro p e s m below meth c s₁ Cc X0 e0 eb J0 B0 M0
  obtain ⟨hx, hZ, hown, hby, hml, hnm, hret, hlk⟩ := id Cc
  have N0 := Fr.nil h0.size
  have K0 := Keep.refl h0 []
  show Go p e s below _ _ _ _ s₁ (mkF m 0 #[.val (.ref s1)] [])
  refine Go.of (fun _ hr => XS.aloadN X0.here hx rfl (hb hby d13_0) rfl rfl hr) ?_
  show Go p e s below _ _ _ _ s₁ (mkF m 1 #[.val (.ref s1)] [(.ref s1)])
  obtain ⟨T101, X101, e101, st101⟩ := getF X0 hx hZ hown (host := "") (Or.inl (hw _ (List.mem_of_getElem? (i := 24) rfl))) Via.refl e0 Fv1 (g := (mkF m 1 #[.val (.ref s1)] [(.ref s1)])) rfl rfl (hb hby d13_1)
  refine Go.of (fun _ hr => st101 _ hr) ?_
  show Go p e s below _ _ _ _ T101 (mkF m 4 #[.val (.ref s1)] [(.ref t1)])
  obtain ⟨cl102, Ar102, q102, S102, N102_, H102, G102⟩ := id V1
  refine Go.of (fun _ hr => X101.arraylength hx (by rw [e101]; exact Ar102.1) (State.isArrayOf_alike hZ.alike Ar102.2.1) (g := (mkF m 4 #[.val (.ref s1)] [(.ref t1)])) rfl rfl (hb hby d13_4) _ hr) ?_
  rw [len_of S102 N102_]
  show Go p e s below _ _ _ _ T101 (mkF m 5 #[.val (.ref s1)] [(.int (Int32.ofNat b1.length))])
  refine Go.of (fun _ hr => XS.aloadN X101.here hx rfl (hb hby d13_5) rfl rfl hr) ?_
  show Go p e s below _ _ _ _ T101 (mkF m 6 #[.val (.ref s1)] [(.ref s1), (.int (Int32.ofNat b1.length))])
  obtain ⟨_, b103, T103, h103, L103, e103, Cc103, X103, B103, J103, g103, hQ103, st103⟩ := own_callV Cc B0 J0 X101 (hw _ (List.mem_of_getElem? (i := 88) rfl)) (hw _ (List.mem_of_getElem? (i := 89) rfl)) (notFace_of_selects (args := #[]) (mvT hZ (hw _ (List.mem_of_getElem? (i := 91) rfl)))) (hw _ (List.mem_of_getElem? (i := 91) rfl)) (hw _ (List.mem_of_getElem? (i := 90) rfl)) (hw _ (List.mem_of_getElem? (i := 6) rfl)) (hw _ (List.mem_of_getElem? (i := 92) rfl)) (by decide) Es1 (rm14 l Z a0 hw [] s1 zc _ h0 n0 O0 h0.size (own_ole O0) K0.1 Fc1 S_C hzc) e101 (g := (mkF m 6 #[.val (.ref s1)] [(.ref s1), (.int (Int32.ofNat b1.length))])) rfl (by rw [hml]; rfl) (argsL := []) (rest := [(.int (Int32.ofNat b1.length))]) (lenOf pd7 rfl) rfl (W := 1) (by show 2 * 0 + _ ≤ _; exact Nat.le_of_eq rfl) (hb hby d13_6) (by decide) (by decide) (by decide) (by decide)
  obtain ⟨rfl, Nq103, hh103⟩ := hQ103
  have N103 := Fr.app N0 Nq103
  obtain ⟨hx, hZ, hown, hby, hml, hnm, hret, hlk⟩ := id Cc103
  rw [hh103] at e103 B103 J103
  refine Go.of st103 ?_
  show Go p e s below _ _ _ _ T103 (mkF m 9 #[.val (.ref s1)] [(.int (0 : Int32)), (.int (Int32.ofNat b1.length))])
  refine Go.of (fun _ hr => XS.ishr X103.here hx rfl (hb hby d13_9) rfl hr) ?_
  show Go p e s below _ _ _ _ T103 (mkF m 10 #[.val (.ref s1)] [(.int ((Int32.ofNat b1.length) >>> ((0 : Int32) &&& 31)))])
  rw [own_sh0]
  show Go p e s below _ _ _ _ T103 (mkF m 10 #[.val (.ref s1)] [(.int (Int32.ofNat b1.length))])
  exact Go.retI X103 hx hlk B103 J103 e103 hret (hb hby d13_10) (by decide) (by decide) (fun vm_ hw_ => ⟨rfl, (fun y hy => Nat.le_trans hnb (N103 y hy)), rfl⟩)

theorem d32_0 : decode jdk_42_method_154_code 0 = .ok (.getstatic 38, 3) := by decide +kernel
theorem d32_3 : decode jdk_42_method_154_code 3 = .ok (.ifCond .eq 14, 3) := by decide +kernel
theorem d32_6 : decode jdk_42_method_154_code 6 = .ok (.aload_n 0, 1) := by decide +kernel
theorem d32_7 : decode jdk_42_method_154_code 7 = .ok (.getfield 15, 3) := by decide +kernel
theorem d32_10 : decode jdk_42_method_154_code 10 = .ok (.ifCond .ne 7, 3) := by decide +kernel
theorem d32_13 : decode jdk_42_method_154_code 13 = .ok (.iconst 1, 1) := by decide +kernel
theorem d32_14 : decode jdk_42_method_154_code 14 = .ok (.goto 4, 3) := by decide +kernel
theorem d32_18 : decode jdk_42_method_154_code 18 = .ok (.ireturn, 1) := by decide +kernel
set_option maxRecDepth 65536 in
set_option maxHeartbeats 40000000 in
theorem rm32 (l : Launch) (Z : State) (a0 : Array Value) (hw : ∀ d ∈ tables_1, d.before a0 Z = true) (ws : List Jvm.Cond) (s1 : Addr) (zc : Int32) (ms : List Addr) (h0 : Heap) (n0 : Nat) (O0 : Old Z n0 h0) (nb : Nat) (hb0 : n0 ≤ nb) (hnb : nb ≤ h0.size) (Fc1 : Fld Z h0 s1 "java/lang/String" "coder" "B" (.int 0)) (S_C : Sta Z Z.heap "java/lang/String" "COMPACT_STRINGS" "Z" (.int zc)) (hzc : ¬ zc = 0) :
    Con l Z ms (⟨"java/lang/String", "isLatin1", "()Z"⟩ : MethodName) jdk_42_method_154_code 1 (some .boolean) ws ({ frames := 0, cells := 0, slots := 0, locals := 0 } : Room) #[(.ref s1)] h0 (fun v vm h L => v = some (.int 1) ∧ Fr nb L ∧ h = h0) := by
  refine Con.mk (plainFor_of_name pn1) ?_
  intro p e s m below meth c s₁ Cc X0 e0 eb J0 B0 M0
  obtain ⟨hx, hZ, hown, hby, hml, hnm, hret, hlk⟩ := id Cc
  have N0 := Fr.nil h0.size
  have K0 := Keep.refl h0 []
  show Go p e s below _ _ _ _ s₁ (mkF m 0 #[.val (.ref s1)] [])
  obtain ⟨T101, X101, e101, st101⟩ := getS2 X0 hx hZ hown (host := "") (Or.inl (hw _ (List.mem_of_getElem? (i := 93) rfl))) Via.refl e0 (S_C.ext O0.2) (g := (mkF m 0 #[.val (.ref s1)] [])) rfl (hb hby d32_0)
  refine Go.of (fun _ hr => st101 _ hr) ?_
  show Go p e s below _ _ _ _ T101 (mkF m 3 #[.val (.ref s1)] [(.int zc)])
  refine Go.of (fun _ hr => XS.ifNo X101.here hx rfl (hb hby d32_3) rfl ((if0 _ _).trans (feq hzc).1) hr) ?_
  show Go p e s below _ _ _ _ T101 (mkF m 6 #[.val (.ref s1)] [])
  refine Go.of (fun _ hr => XS.aloadN X101.here hx rfl (hb hby d32_6) rfl rfl hr) ?_
  show Go p e s below _ _ _ _ T101 (mkF m 7 #[.val (.ref s1)] [(.ref s1)])
  obtain ⟨T102, X102, e102, st102⟩ := getF X101 hx hZ hown (host := "") (Or.inl (hw _ (List.mem_of_getElem? (i := 25) rfl))) Via.refl e101 Fc1 (g := (mkF m 7 #[.val (.ref s1)] [(.ref s1)])) rfl rfl (hb hby d32_7)
  refine Go.of (fun _ hr => st102 _ hr) ?_
  show Go p e s below _ _ _ _ T102 (mkF m 10 #[.val (.ref s1)] [(.int (0 : Int32))])
  refine Go.of (fun _ hr => XS.ifNo X102.here hx rfl (hb hby d32_10) rfl ((if0 _ _).trans (teq (by decide : ((0 : Int32) = (0 : Int32)))).2) hr) ?_
  show Go p e s below _ _ _ _ T102 (mkF m 13 #[.val (.ref s1)] [])
  refine Go.of (fun _ hr => XS.iconst X102.here hx rfl (hb hby d32_13) hr) ?_
  show Go p e s below _ _ _ _ T102 (mkF m 14 #[.val (.ref s1)] [(.int (1 : Int32))])
  refine Go.of (fun _ hr => XS.goto X102.here hx rfl (pc0 := 14) (pc' := 18) rfl (hb hby d32_14) (by decide) (by decide) hr) ?_
  show Go p e s below _ _ _ _ T102 (mkF m 18 #[.val (.ref s1)] [(.int (1 : Int32))])
  exact Go.retN X102 hx hlk B0 J0 e102 (t := .boolean) (z' := (1 : Int32)) hret (by simp) (hb hby d32_18) rfl (by decide) (by decide) (fun vm_ hw_ => ⟨rfl, (fun y hy => Nat.le_trans hnb (N0 y hy)), rfl⟩)

theorem pn3 : plainName "jdk/internal/util/Preconditions" = true := by first | (simp [plainName, overriddenIn]; done) | decide +kernel
theorem d35_0 : decode jdk_41_method_11_code 0 = .ok (.iload_n 0, 1) := by decide +kernel
theorem d35_1 : decode jdk_41_method_11_code 1 = .ok (.ifCond .lt 8, 3) := by decide +kernel
theorem d35_4 : decode jdk_41_method_11_code 4 = .ok (.iload_n 0, 1) := by decide +kernel
theorem d35_5 : decode jdk_41_method_11_code 5 = .ok (.iload_n 1, 1) := by decide +kernel
theorem d35_6 : decode jdk_41_method_11_code 6 = .ok (.if_icmp .lt 10, 3) := by decide +kernel
theorem d35_16 : decode jdk_41_method_11_code 16 = .ok (.iload_n 0, 1) := by decide +kernel
theorem d35_17 : decode jdk_41_method_11_code 17 = .ok (.ireturn, 1) := by decide +kernel
set_option maxRecDepth 65536 in
set_option maxHeartbeats 40000000 in
theorem rm35 (l : Launch) (Z : State) (a0 : Array Value) (hw : ∀ d ∈ tables_1, d.before a0 Z = true) (ws : List Jvm.Cond) (i1 j1 : Int32) (f1 : Value) (ms : List Addr) (h0 : Heap) (n0 : Nat) (O0 : Old Z n0 h0) (nb : Nat) (hb0 : n0 ≤ nb) (hnb : nb ≤ h0.size) (hfs : f1 = .null ∨ ∃ a, f1 = .ref a) (i0 : ¬ i1 < 0) (i9 : i1 < j1) :
    Con l Z ms (⟨"jdk/internal/util/Preconditions", "checkIndex", "(IILjava/util/function/BiFunction;)I"⟩ : MethodName) jdk_41_method_11_code 3 (some .int) ws ({ frames := 0, cells := 0, slots := 0, locals := 0 } : Room) #[(.int i1), (.int j1), f1] h0 (fun v vm h L => v = some (.int i1) ∧ Fr nb L ∧ h = h0) := by
  rcases hfs with rfl | ⟨fa, rfl⟩
  · refine Con.mk (plainFor_of_name pn3) ?_
    intro p e s m below meth c s₁ Cc X0 e0 eb J0 B0 M0
    obtain ⟨hx, hZ, hown, hby, hml, hnm, hret, hlk⟩ := id Cc
    have N0 := Fr.nil h0.size
    have K0 := Keep.refl h0 []
    show Go p e s below _ _ _ _ s₁ (mkF m 0 #[.val (.int i1), .val (.int j1), .val _] [])
    refine Go.of (fun _ hr => XS.iloadN X0.here hx rfl (hb hby d35_0) rfl  hr) ?_
    show Go p e s below _ _ _ _ s₁ (mkF m 1 #[.val (.int i1), .val (.int j1), .val _] [(.int i1)])
    refine Go.of (fun _ hr => XS.ifNo X0.here hx rfl (hb hby d35_1) rfl ((if0 _ _).trans (flt i0).1) hr) ?_
    show Go p e s below _ _ _ _ s₁ (mkF m 4 #[.val (.int i1), .val (.int j1), .val _] [])
    refine Go.of (fun _ hr => XS.iloadN X0.here hx rfl (hb hby d35_4) rfl  hr) ?_
    show Go p e s below _ _ _ _ s₁ (mkF m 5 #[.val (.int i1), .val (.int j1), .val _] [(.int i1)])
    refine Go.of (fun _ hr => XS.iloadN X0.here hx rfl (hb hby d35_5) rfl  hr) ?_
    show Go p e s below _ _ _ _ s₁ (mkF m 6 #[.val (.int i1), .val (.int j1), .val _] [(.int j1), (.int i1)])
    refine Go.of (fun _ hr => XS.icmpYes X0.here hx rfl (pc0 := 6) (pc' := 16) rfl (hb hby d35_6) rfl (tlt i9).1 (by decide) (by decide) hr) ?_
    show Go p e s below _ _ _ _ s₁ (mkF m 16 #[.val (.int i1), .val (.int j1), .val _] [])
    refine Go.of (fun _ hr => XS.iloadN X0.here hx rfl (hb hby d35_16) rfl  hr) ?_
    show Go p e s below _ _ _ _ s₁ (mkF m 17 #[.val (.int i1), .val (.int j1), .val _] [(.int i1)])
    exact Go.retI X0 hx hlk B0 J0 e0 hret (hb hby d35_17) (by decide) (by decide) (fun vm_ hw_ => ⟨rfl, (fun y hy => Nat.le_trans hnb (N0 y hy)), rfl⟩)
  · refine Con.mk (plainFor_of_name pn3) ?_
    intro p e s m below meth c s₁ Cc X0 e0 eb J0 B0 M0
    obtain ⟨hx, hZ, hown, hby, hml, hnm, hret, hlk⟩ := id Cc
    have N0 := Fr.nil h0.size
    have K0 := Keep.refl h0 []
    show Go p e s below _ _ _ _ s₁ (mkF m 0 #[.val (.int i1), .val (.int j1), .val _] [])
    refine Go.of (fun _ hr => XS.iloadN X0.here hx rfl (hb hby d35_0) rfl  hr) ?_
    show Go p e s below _ _ _ _ s₁ (mkF m 1 #[.val (.int i1), .val (.int j1), .val _] [(.int i1)])
    refine Go.of (fun _ hr => XS.ifNo X0.here hx rfl (hb hby d35_1) rfl ((if0 _ _).trans (flt i0).1) hr) ?_
    show Go p e s below _ _ _ _ s₁ (mkF m 4 #[.val (.int i1), .val (.int j1), .val _] [])
    refine Go.of (fun _ hr => XS.iloadN X0.here hx rfl (hb hby d35_4) rfl  hr) ?_
    show Go p e s below _ _ _ _ s₁ (mkF m 5 #[.val (.int i1), .val (.int j1), .val _] [(.int i1)])
    refine Go.of (fun _ hr => XS.iloadN X0.here hx rfl (hb hby d35_5) rfl  hr) ?_
    show Go p e s below _ _ _ _ s₁ (mkF m 6 #[.val (.int i1), .val (.int j1), .val _] [(.int j1), (.int i1)])
    refine Go.of (fun _ hr => XS.icmpYes X0.here hx rfl (pc0 := 6) (pc' := 16) rfl (hb hby d35_6) rfl (tlt i9).1 (by decide) (by decide) hr) ?_
    show Go p e s below _ _ _ _ s₁ (mkF m 16 #[.val (.int i1), .val (.int j1), .val _] [])
    refine Go.of (fun _ hr => XS.iloadN X0.here hx rfl (hb hby d35_16) rfl  hr) ?_
    show Go p e s below _ _ _ _ s₁ (mkF m 17 #[.val (.int i1), .val (.int j1), .val _] [(.int i1)])
    exact Go.retI X0 hx hlk B0 J0 e0 hret (hb hby d35_17) (by decide) (by decide) (fun vm_ hw_ => ⟨rfl, (fun y hy => Nat.le_trans hnb (N0 y hy)), rfl⟩)

theorem d34_0 : decode jdk_42_method_155_code 0 = .ok (.iload_n 0, 1) := by decide +kernel
theorem d34_1 : decode jdk_42_method_155_code 1 = .ok (.iload_n 1, 1) := by decide +kernel
theorem d34_2 : decode jdk_42_method_155_code 2 = .ok (.getstatic 1053, 3) := by decide +kernel
theorem d34_5 : decode jdk_42_method_155_code 5 = .ok (.invokestatic 1059, 3) := by decide +kernel
theorem pd8 : parseMethodDescriptor "(IILjava/util/function/BiFunction;)I" = some ⟨[.int, .int, (.object "java/util/function/BiFunction")], some .int⟩ := by decide +kernel
theorem d34_8 : decode jdk_42_method_155_code 8 = .ok (.pop, 1) := by decide +kernel
theorem d34_9 : decode jdk_42_method_155_code 9 = .ok (.return_, 1) := by decide +kernel
set_option maxRecDepth 65536 in
set_option maxHeartbeats 40000000 in
theorem rm34 (l : Launch) (Z : State) (a0 : Array Value) (hw : ∀ d ∈ tables_1, d.before a0 Z = true) (ws : List Jvm.Cond) (i1 j1 : Int32) (ms : List Addr) (h0 : Heap) (n0 : Nat) (O0 : Old Z n0 h0) (nb : Nat) (hb0 : n0 ≤ nb) (hnb : nb ≤ h0.size) (fs : Value) (hfs : fs = .null ∨ ∃ a, fs = .ref a) (S_F : Sta Z Z.heap "jdk/internal/util/Preconditions" "SIOOBE_FORMATTER" "Ljava/util/function/BiFunction;" fs) (i0 : ¬ i1 < 0) (i9 : i1 < j1) :
    Con l Z ms (⟨"java/lang/String", "checkIndex", "(II)V"⟩ : MethodName) jdk_42_method_155_code 2 none ws ({ frames := 1, cells := 0, slots := 0, locals := 14 } : Room) #[(.int i1), (.int j1)] h0 (fun v vm h L => v = none ∧ Fr nb L ∧ h = h0) := by
  refine Con.mk (plainFor_of_name pn1) ?_
  intro p e s m below meth c s₁ Cc X0 e0 eb J0 B0 M0
  obtain ⟨hx, hZ, hown, hby, hml, hnm, hret, hlk⟩ := id Cc
  have N0 := Fr.nil h0.size
  have K0 := Keep.refl h0 []
  show Go p e s below _ _ _ _ s₁ (mkF m 0 #[.val (.int i1), .val (.int j1)] [])
  refine Go.of (fun _ hr => XS.iloadN X0.here hx rfl (hb hby d34_0) rfl  hr) ?_
  show Go p e s below _ _ _ _ s₁ (mkF m 1 #[.val (.int i1), .val (.int j1)] [(.int i1)])
  refine Go.of (fun _ hr => XS.iloadN X0.here hx rfl (hb hby d34_1) rfl  hr) ?_
  show Go p e s below _ _ _ _ s₁ (mkF m 2 #[.val (.int i1), .val (.int j1)] [(.int j1), (.int i1)])
  obtain ⟨T101, X101, e101, st101⟩ := getS2 X0 hx hZ hown (host := "") (Or.inl (hw _ (List.mem_of_getElem? (i := 188) rfl))) Via.refl e0 (S_F.ext O0.2) (g := (mkF m 2 #[.val (.int i1), .val (.int j1)] [(.int j1), (.int i1)])) rfl (hb hby d34_2)
  refine Go.of (fun _ hr => st101 _ hr) ?_
  show Go p e s below _ _ _ _ T101 (mkF m 5 #[.val (.int i1), .val (.int j1)] [fs, (.int j1), (.int i1)])
  obtain ⟨_, b102, T102, h102, L102, e102, Cc102, X102, B102, J102, g102, hQ102, st102⟩ := own_callS Cc B0 J0 X101 (hw _ (List.mem_of_getElem? (i := 190) rfl)) (hw _ (List.mem_of_getElem? (i := 191) rfl)) (hw _ (List.mem_of_getElem? (i := 189) rfl)) (hw _ (List.mem_of_getElem? (i := 192) rfl)) (by decide) (rm35 l Z a0 hw [] i1 j1 fs _ h0 n0 O0 h0.size (own_ole O0) K0.1 hfs i0 i9) e101 (g := (mkF m 5 #[.val (.int i1), .val (.int j1)] [fs, (.int j1), (.int i1)])) rfl (by rw [hml]; rfl) (argsL := [(.int i1), (.int j1), fs]) (rest := []) (lenOf pd8 rfl) rfl (W := 0) (by show 2 * 0 + _ ≤ _; exact Nat.le_of_eq rfl) (hb hby d34_5) (by decide) (by decide) (by decide) (by decide)
  obtain ⟨rfl, Nq102, hh102⟩ := hQ102
  have N102 := Fr.app N0 Nq102
  obtain ⟨hx, hZ, hown, hby, hml, hnm, hret, hlk⟩ := id Cc102
  rw [hh102] at e102 B102 J102
  refine Go.of st102 ?_
  show Go p e s below _ _ _ _ T102 (mkF m 8 #[.val (.int i1), .val (.int j1)] [(.int i1)])
  refine Go.of (fun _ hr => XS.pop X102.here hx rfl (hb hby d34_8) rfl rfl hr) ?_
  show Go p e s below _ _ _ _ T102 (mkF m 9 #[.val (.int i1), .val (.int j1)] [])
  exact Go.retV X102 hx hlk B102 J102 e102 hret (hb hby d34_9) (by decide) (by decide) (fun vm_ hw_ => ⟨rfl, (fun y hy => Nat.le_trans hnb (N102 y hy)), rfl⟩)

theorem d33_0 : decode jdk_43_method_2_code 0 = .ok (.iload_n 1, 1) := by decide +kernel
theorem d33_1 : decode jdk_43_method_2_code 1 = .ok (.aload_n 0, 1) := by decide +kernel
theorem d33_2 : decode jdk_43_method_2_code 2 = .ok (.arraylength, 1) := by decide +kernel
theorem d33_3 : decode jdk_43_method_2_code 3 = .ok (.invokestatic 9, 3) := by decide +kernel
theorem pd9 : parseMethodDescriptor "(II)V" = some ⟨[.int, .int], none⟩ := by decide +kernel
theorem d33_6 : decode jdk_43_method_2_code 6 = .ok (.aload_n 0, 1) := by decide +kernel
theorem d33_7 : decode jdk_43_method_2_code 7 = .ok (.iload_n 1, 1) := by decide +kernel
theorem d33_8 : decode jdk_43_method_2_code 8 = .ok (.baload, 1) := by decide +kernel
theorem d33_9 : decode jdk_43_method_2_code 9 = .ok (.sipush 255, 3) := by decide +kernel
theorem d33_12 : decode jdk_43_method_2_code 12 = .ok (.iand, 1) := by decide +kernel
theorem d33_13 : decode jdk_43_method_2_code 13 = .ok (.i2c, 1) := by decide +kernel
theorem d33_14 : decode jdk_43_method_2_code 14 = .ok (.ireturn, 1) := by decide +kernel
set_option maxRecDepth 65536 in
set_option maxHeartbeats 40000000 in
theorem rm33 (l : Launch) (Z : State) (a0 : Array Value) (hw : ∀ d ∈ tables_1, d.before a0 Z = true) (ws : List Jvm.Cond) (t1 : Addr) (k1 : ClassId) (b1 : List Int32) (i1 : Int32) (ms : List Addr) (h0 : Heap) (n0 : Nat) (O0 : Old Z n0 h0) (nb : Nat) (hb0 : n0 ≤ nb) (hnb : nb ≤ h0.size) (fs : Value) (hfs : fs = .null ∨ ∃ a, fs = .ref a) (S_F : Sta Z Z.heap "jdk/internal/util/Preconditions" "SIOOBE_FORMATTER" "Ljava/util/function/BiFunction;" fs) (V1 : Arv Z h0 t1 k1 .byte (Int32.ofNat b1.length) (b1.map Value.int) (.int 0)) (i0 : ¬ i1 < 0) (i9 : i1 < Int32.ofNat b1.length) :
    Con l Z ms (⟨"java/lang/StringLatin1", "charAt", "([BI)C"⟩ : MethodName) jdk_43_method_2_code 2 (some .char) ws ({ frames := 2, cells := 0, slots := 0, locals := 27 } : Room) #[(.ref t1), (.int i1)] h0 (fun v vm h L => v = some (.int (chV b1 i1)) ∧ Fr nb L ∧ h = h0) := by
  refine Con.mk (plainFor_of_name pn0) ?_
  intro p e s m below meth c s₁ Cc X0 e0 eb J0 B0 M0
  obtain ⟨hx, hZ, hown, hby, hml, hnm, hret, hlk⟩ := id Cc
  have N0 := Fr.nil h0.size
  have K0 := Keep.refl h0 []
  show Go p e s below _ _ _ _ s₁ (mkF m 0 #[.val (.ref t1), .val (.int i1)] [])
  refine Go.of (fun _ hr => XS.iloadN X0.here hx rfl (hb hby d33_0) rfl  hr) ?_
  show Go p e s below _ _ _ _ s₁ (mkF m 1 #[.val (.ref t1), .val (.int i1)] [(.int i1)])
  refine Go.of (fun _ hr => XS.aloadN X0.here hx rfl (hb hby d33_1) rfl rfl hr) ?_
  show Go p e s below _ _ _ _ s₁ (mkF m 2 #[.val (.ref t1), .val (.int i1)] [(.ref t1), (.int i1)])
  obtain ⟨cl101, Ar101, q101, S101, N101_, H101, G101⟩ := id V1
  refine Go.of (fun _ hr => X0.arraylength hx (by rw [e0]; exact Ar101.1) (State.isArrayOf_alike hZ.alike Ar101.2.1) (g := (mkF m 2 #[.val (.ref t1), .val (.int i1)] [(.ref t1), (.int i1)])) rfl rfl (hb hby d33_2) _ hr) ?_
  rw [len_of S101 N101_]
  show Go p e s below _ _ _ _ s₁ (mkF m 3 #[.val (.ref t1), .val (.int i1)] [(.int (Int32.ofNat b1.length)), (.int i1)])
  obtain ⟨_, b102, T102, h102, L102, e102, Cc102, X102, B102, J102, g102, hQ102, st102⟩ := own_callS Cc B0 J0 X0 (hw _ (List.mem_of_getElem? (i := 185) rfl)) (hw _ (List.mem_of_getElem? (i := 186) rfl)) (hw _ (List.mem_of_getElem? (i := 6) rfl)) (hw _ (List.mem_of_getElem? (i := 187) rfl)) (by decide) (rm34 l Z a0 hw [] i1 (Int32.ofNat b1.length) _ h0 n0 O0 h0.size (own_ole O0) K0.1 fs hfs S_F i0 i9) e0 (g := (mkF m 3 #[.val (.ref t1), .val (.int i1)] [(.int (Int32.ofNat b1.length)), (.int i1)])) rfl (by rw [hml]; rfl) (argsL := [(.int i1), (.int (Int32.ofNat b1.length))]) (rest := []) (lenOf pd9 rfl) rfl (W := 0) (by show 2 * 0 + _ ≤ _; exact Nat.le_of_eq rfl) (hb hby d33_3) (by decide) (by decide) (by decide) (by decide)
  obtain ⟨rfl, Nq102, hh102⟩ := hQ102
  have N102 := Fr.app N0 Nq102
  obtain ⟨hx, hZ, hown, hby, hml, hnm, hret, hlk⟩ := id Cc102
  rw [hh102] at e102 B102 J102
  refine Go.of st102 ?_
  show Go p e s below _ _ _ _ T102 (mkF m 6 #[.val (.ref t1), .val (.int i1)] [])
  refine Go.of (fun _ hr => XS.aloadN X102.here hx rfl (hb hby d33_6) rfl rfl hr) ?_
  show Go p e s below _ _ _ _ T102 (mkF m 7 #[.val (.ref t1), .val (.int i1)] [(.ref t1)])
  refine Go.of (fun _ hr => XS.iloadN X102.here hx rfl (hb hby d33_7) rfl  hr) ?_
  show Go p e s below _ _ _ _ T102 (mkF m 8 #[.val (.ref t1), .val (.int i1)] [(.int i1), (.ref t1)])
  obtain ⟨cl103, Ar103, q103, S103, N103_, H103, G103⟩ := id V1
  have hin103 : ¬ (i1 < 0 ∨ cl103.slots.size ≤ (i1).toNatClampNeg) := inb_of S103 ⟨i0, i9⟩
  refine Go.of (fun _ hr => X102.baloadBytes hx (j := i1) (v := (.int (b1.getD i1.toNatClampNeg 0))) (by rw [e102]; exact Ar103.1) (State.isArrayOf_alike hZ.alike Ar103.2.1) Ar103.2.2 hin103 (H103.at hin103 (getD_int b1 _)) (g := (mkF m 8 #[.val (.ref t1), .val (.int i1)] [(.int i1), (.ref t1)])) rfl rfl (hb hby d33_8) _ hr) ?_
  show Go p e s below _ _ _ _ T102 (mkF m 9 #[.val (.ref t1), .val (.int i1)] [(.int (b1.getD i1.toNatClampNeg 0))])
  refine Go.of (fun _ hr => XS.sipush X102.here hx rfl (hb hby d33_9) hr) ?_
  show Go p e s below _ _ _ _ T102 (mkF m 12 #[.val (.ref t1), .val (.int i1)] [(.int (255 : Int32)), (.int (b1.getD i1.toNatClampNeg 0))])
  refine Go.of (fun _ hr => XS.iand X102.here hx rfl (hb hby d33_12) rfl hr) ?_
  show Go p e s below _ _ _ _ T102 (mkF m 13 #[.val (.ref t1), .val (.int i1)] [(.int ((b1.getD i1.toNatClampNeg 0) &&& (255 : Int32)))])
  refine Go.of (fun _ hr => XS.i2c X102.here hx rfl (hb hby d33_13) rfl hr) ?_
  show Go p e s below _ _ _ _ T102 (mkF m 14 #[.val (.ref t1), .val (.int i1)] [(.int (((b1.getD i1.toNatClampNeg 0) &&& (255 : Int32)).toUInt32.toUInt16.toUInt32.toInt32))])
  exact Go.retN X102 hx hlk B102 J102 e102 (t := .char) (z' := (((b1.getD i1.toNatClampNeg 0) &&& (255 : Int32)).toUInt32.toUInt16.toUInt32.toInt32)) hret (by simp) (hb hby d33_14) (own_c2 _) (by decide) (by decide) (fun vm_ hw_ => ⟨rfl, (fun y hy => Nat.le_trans hnb (N102 y hy)), rfl⟩)

theorem d31_0 : decode jdk_42_method_56_code 0 = .ok (.aload_n 0, 1) := by decide +kernel
theorem d31_1 : decode jdk_42_method_56_code 1 = .ok (.invokevirtual 492, 3) := by decide +kernel
theorem pd10 : parseMethodDescriptor "()Z" = some ⟨[], some .boolean⟩ := by decide +kernel
theorem d31_4 : decode jdk_42_method_56_code 4 = .ok (.ifCond .eq 12, 3) := by decide +kernel
theorem d31_7 : decode jdk_42_method_56_code 7 = .ok (.aload_n 0, 1) := by decide +kernel
theorem d31_8 : decode jdk_42_method_56_code 8 = .ok (.getfield 9, 3) := by decide +kernel
theorem d31_11 : decode jdk_42_method_56_code 11 = .ok (.iload_n 1, 1) := by decide +kernel
theorem d31_12 : decode jdk_42_method_56_code 12 = .ok (.invokestatic 495, 3) := by decide +kernel
theorem pd11 : parseMethodDescriptor "([BI)C" = some ⟨[(.array .byte), .int], some .char⟩ := by decide +kernel
theorem d31_15 : decode jdk_42_method_56_code 15 = .ok (.ireturn, 1) := by decide +kernel
set_option maxRecDepth 65536 in
set_option maxHeartbeats 40000000 in
theorem rm31 (l : Launch) (Z : State) (a0 : Array Value) (hw : ∀ d ∈ tables_1, d.before a0 Z = true) (ws : List Jvm.Cond) (s1 t1 : Addr) (k1 : ClassId) (b1 : List Int32) (i1 : Int32) (zc : Int32) (ms : List Addr) (h0 : Heap) (n0 : Nat) (O0 : Old Z n0 h0) (nb : Nat) (hb0 : n0 ≤ nb) (hnb : nb ≤ h0.size) (fs : Value) (hfs : fs = .null ∨ ∃ a, fs = .ref a) (S_F : Sta Z Z.heap "jdk/internal/util/Preconditions" "SIOOBE_FORMATTER" "Ljava/util/function/BiFunction;" fs) (Es1 : Exa Z h0 s1 "java/lang/String") (Fv1 : Fld Z h0 s1 "java/lang/String" "value" "[B" (.ref t1)) (Fc1 : Fld Z h0 s1 "java/lang/String" "coder" "B" (.int 0)) (V1 : Arv Z h0 t1 k1 .byte (Int32.ofNat b1.length) (b1.map Value.int) (.int 0)) (hn1 : b1.length ≤ 1000) (i0 : ¬ i1 < 0) (i9 : i1 < Int32.ofNat b1.length) (S_C : Sta Z Z.heap "java/lang/String" "COMPACT_STRINGS" "Z" (.int zc)) (hzc : ¬ zc = 0) :
    Con l Z ms (⟨"java/lang/String", "charAt", "(I)C"⟩ : MethodName) jdk_42_method_56_code 2 (some .char) ws ({ frames := 3, cells := 0, slots := 0, locals := 41 } : Room) #[(.ref s1), (.int i1)] h0 (fun v vm h L => v = some (.int (chV b1 i1)) ∧ Fr nb L ∧ h = h0) := by
  refine Con.mk (plainFor_of_name pn1) ?_
  intro p e s m below meth c s₁ Cc X0 e0 eb J0 B0 M0
  obtain ⟨hx, hZ, hown, hby, hml, hnm, hret, hlk⟩ := id Cc
  have N0 := Fr.nil h0.size
  have K0 := Keep.refl h0 []
  show Go p e s below _ _ _ _ s₁ (mkF m 0 #[.val (.ref s1), .val (.int i1)] [])
  refine Go.of (fun _ hr => XS.aloadN X0.here hx rfl (hb hby d31_0) rfl rfl hr) ?_
  show Go p e s below _ _ _ _ s₁ (mkF m 1 #[.val (.ref s1), .val (.int i1)] [(.ref s1)])
  obtain ⟨_, b101, T101, h101, L101, e101, Cc101, X101, B101, J101, g101, hQ101, st101⟩ := own_callV Cc B0 J0 X0 (hw _ (List.mem_of_getElem? (i := 176) rfl)) (hw _ (List.mem_of_getElem? (i := 177) rfl)) (notFace_of_selects (args := #[]) (mvT hZ (hw _ (List.mem_of_getElem? (i := 179) rfl)))) (hw _ (List.mem_of_getElem? (i := 179) rfl)) (hw _ (List.mem_of_getElem? (i := 178) rfl)) (hw _ (List.mem_of_getElem? (i := 6) rfl)) (hw _ (List.mem_of_getElem? (i := 180) rfl)) (by decide) Es1 (rm32 l Z a0 hw [] s1 zc _ h0 n0 O0 h0.size (own_ole O0) K0.1 Fc1 S_C hzc) e0 (g := (mkF m 1 #[.val (.ref s1), .val (.int i1)] [(.ref s1)])) rfl (by rw [hml]; rfl) (argsL := []) (rest := []) (lenOf pd10 rfl) rfl (W := 0) (by show 2 * 0 + _ ≤ _; exact Nat.le_of_eq rfl) (hb hby d31_1) (by decide) (by decide) (by decide) (by decide)
  obtain ⟨rfl, Nq101, hh101⟩ := hQ101
  have N101 := Fr.app N0 Nq101
  obtain ⟨hx, hZ, hown, hby, hml, hnm, hret, hlk⟩ := id Cc101
  rw [hh101] at e101 B101 J101
  refine Go.of st101 ?_
  show Go p e s below _ _ _ _ T101 (mkF m 4 #[.val (.ref s1), .val (.int i1)] [(.int (1 : Int32))])
  refine Go.of (fun _ hr => XS.ifNo X101.here hx rfl (hb hby d31_4) rfl ((if0 _ _).trans (feq (by decide : ¬ ((1 : Int32) = (0 : Int32)))).1) hr) ?_
  show Go p e s below _ _ _ _ T101 (mkF m 7 #[.val (.ref s1), .val (.int i1)] [])
  refine Go.of (fun _ hr => XS.aloadN X101.here hx rfl (hb hby d31_7) rfl rfl hr) ?_
  show Go p e s below _ _ _ _ T101 (mkF m 8 #[.val (.ref s1), .val (.int i1)] [(.ref s1)])
  obtain ⟨T102, X102, e102, st102⟩ := getF X101 hx hZ hown (host := "") (Or.inl (hw _ (List.mem_of_getElem? (i := 24) rfl))) Via.refl e101 Fv1 (g := (mkF m 8 #[.val (.ref s1), .val (.int i1)] [(.ref s1)])) rfl rfl (hb hby d31_8)
  refine Go.of (fun _ hr => st102 _ hr) ?_
  show Go p e s below _ _ _ _ T102 (mkF m 11 #[.val (.ref s1), .val (.int i1)] [(.ref t1)])
  refine Go.of (fun _ hr => XS.iloadN X102.here hx rfl (hb hby d31_11) rfl  hr) ?_
  show Go p e s below _ _ _ _ T102 (mkF m 12 #[.val (.ref s1), .val (.int i1)] [(.int i1), (.ref t1)])
  obtain ⟨_, b103, T103, h103, L103, e103, Cc103, X103, B103, J103, g103, hQ103, st103⟩ := own_callS Cc101 B101 J101 X102 (hw _ (List.mem_of_getElem? (i := 181) rfl)) (hw _ (List.mem_of_getElem? (i := 182) rfl)) (hw _ (List.mem_of_getElem? (i := 183) rfl)) (hw _ (List.mem_of_getElem? (i := 184) rfl)) (by decide) (rm33 l Z a0 hw [] t1 _ b1 i1 _ h0 n0 O0 h0.size (own_ole O0) K0.1 fs hfs S_F V1 i0 i9) e102 (g := (mkF m 12 #[.val (.ref s1), .val (.int i1)] [(.int i1), (.ref t1)])) rfl (by rw [hml]; rfl) (argsL := [(.ref t1), (.int i1)]) (rest := []) (lenOf pd11 rfl) rfl (W := 0) (by show 2 * 0 + _ ≤ _; exact Nat.le_of_eq rfl) (hb hby d31_12) (by decide) (by decide) (by decide) (by decide)
  obtain ⟨rfl, Nq103, hh103⟩ := hQ103
  have N103 := Fr.app N101 Nq103
  obtain ⟨hx, hZ, hown, hby, hml, hnm, hret, hlk⟩ := id Cc103
  rw [hh103] at e103 B103 J103
  refine Go.of st103 ?_
  show Go p e s below _ _ _ _ T103 (mkF m 15 #[.val (.ref s1), .val (.int i1)] [(.int (chV b1 i1))])
  exact Go.retN X103 hx hlk B103 J103 e103 (t := .char) (z' := (chV b1 i1)) hret (by simp) (hb hby d31_15) (own_c2 _) (by decide) (by decide) (fun vm_ hw_ => ⟨rfl, (fun y hy => Nat.le_trans hnb (N103 y hy)), rfl⟩)

theorem pn4 : plainName "java/lang/AbstractStringBuilder" = true := by first | (simp [plainName, overriddenIn]; done) | decide +kernel
theorem d10_0 : decode jdk_68_method_2_code 0 = .ok (.aload_n 0, 1) := by decide +kernel
theorem d10_1 : decode jdk_68_method_2_code 1 = .ok (.invokespecial 3, 3) := by decide +kernel
theorem d10_4 : decode jdk_68_method_2_code 4 = .ok (.getstatic 18, 3) := by decide +kernel
theorem d10_7 : decode jdk_68_method_2_code 7 = .ok (.ifCond .eq 18, 3) := by decide +kernel
theorem d10_10 : decode jdk_68_method_2_code 10 = .ok (.aload_n 0, 1) := by decide +kernel
theorem d10_11 : decode jdk_68_method_2_code 11 = .ok (.iload_n 1, 1) := by decide +kernel
theorem d10_12 : decode jdk_68_method_2_code 12 = .ok (.newarray .byte, 2) := by decide +kernel
theorem d10_14 : decode jdk_68_method_2_code 14 = .ok (.putfield 15, 3) := by decide +kernel
theorem d10_17 : decode jdk_68_method_2_code 17 = .ok (.aload_n 0, 1) := by decide +kernel
theorem d10_18 : decode jdk_68_method_2_code 18 = .ok (.iconst 0, 1) := by decide +kernel
theorem d10_19 : decode jdk_68_method_2_code 19 = .ok (.putfield 22, 3) := by decide +kernel
theorem d10_22 : decode jdk_68_method_2_code 22 = .ok (.goto 16, 3) := by decide +kernel
theorem d10_38 : decode jdk_68_method_2_code 38 = .ok (.return_, 1) := by decide +kernel
set_option maxRecDepth 65536 in
set_option maxHeartbeats 40000000 in
theorem rm10 (l : Launch) (Z : State) (a0 : Array Value) (hw : ∀ d ∈ tables_1, d.before a0 Z = true) (ws : List Jvm.Cond) (a1 : Addr) (u1 u2 : Value) (zc : Int32) (ms : List Addr) (h0 : Heap) (n0 : Nat) (O0 : Old Z n0 h0) (nb : Nat) (hb0 : n0 ≤ nb) (hnb : nb ≤ h0.size) (fr_a1 : nb ≤ a1) (hm_a1 : a1 ∈ ms) (Ea1 : Exa Z h0 a1 "java/lang/StringBuilder") (G1 : Fld Z h0 a1 "java/lang/AbstractStringBuilder" "value" "[B" u1) (G2 : Fld Z h0 a1 "java/lang/AbstractStringBuilder" "coder" "B" u2) (G3 : Fld Z h0 a1 "java/lang/AbstractStringBuilder" "count" "I" (.int 0)) (S_C : Sta Z Z.heap "java/lang/String" "COMPACT_STRINGS" "Z" (.int zc)) (hzc : ¬ zc = 0) :
    Con l Z ms (⟨"java/lang/AbstractStringBuilder", "<init>", "(I)V"⟩ : MethodName) jdk_68_method_2_code 2 none ws ({ frames := 1, cells := 1, slots := 16, locals := 13 } : Room) #[(.ref a1), (.int (16 : Int32))] h0 (fun v vm h L => v = none ∧ Fr nb L ∧ Keep h0 h [a1] ∧ ∃ v1 kv, h0.size ≤ v1 ∧ Fld Z h a1 "java/lang/AbstractStringBuilder" "value" "[B" (.ref v1) ∧ Fld Z h a1 "java/lang/AbstractStringBuilder" "coder" "B" (.int 0) ∧ Fld Z h a1 "java/lang/AbstractStringBuilder" "count" "I" (.int 0) ∧ Arv Z h v1 kv .byte 16 [] (.int 0) ∧ Hd Z (v1 :: ms) vm h) := by
  refine Con.mk (plainFor_of_name pn4) ?_
  intro p e s m below meth c s₁ Cc X0 e0 eb J0 B0 M0
  obtain ⟨hx, hZ, hown, hby, hml, hnm, hret, hlk⟩ := id Cc
  have N0 := Fr.nil nb
  have K0 := Keep.refl h0 [a1]
  show Go p e s below _ _ _ _ s₁ (mkF m 0 #[.val (.ref a1), .val (.int (16 : Int32))] [])
  refine Go.of (fun _ hr => XS.aloadN X0.here hx rfl (hb hby d10_0) rfl rfl hr) ?_
  show Go p e s below _ _ _ _ s₁ (mkF m 1 #[.val (.ref a1), .val (.int (16 : Int32))] [(.ref a1)])
  obtain ⟨T101, X101, e101, st101⟩ := initO X0 hx hZ hown (hw _ (List.mem_of_getElem? (i := 67) rfl)) (hw _ (List.mem_of_getElem? (i := 16) rfl)) (hw _ (List.mem_of_getElem? (i := 17) rfl)) e0 (g := (mkF m 1 #[.val (.ref a1), .val (.int (16 : Int32))] [(.ref a1)])) rfl (by rw [hml]; rfl) rfl (hb hby d10_1) (by decide) (W := 0) (by show 2 * 0 + _ ≤ _; exact Nat.le_of_eq rfl) (by decide)
  refine Go.of (fun _ hr => st101 _ hr) ?_
  show Go p e s below _ _ _ _ T101 (mkF m 4 #[.val (.ref a1), .val (.int (16 : Int32))] [])
  obtain ⟨T102, X102, e102, st102⟩ := getS2 X101 hx hZ hown (host := "") (Or.inl (hw _ (List.mem_of_getElem? (i := 68) rfl))) Via.refl e101 (S_C.ext O0.2) (g := (mkF m 4 #[.val (.ref a1), .val (.int (16 : Int32))] [])) rfl (hb hby d10_4)
  refine Go.of (fun _ hr => st102 _ hr) ?_
  show Go p e s below _ _ _ _ T102 (mkF m 7 #[.val (.ref a1), .val (.int (16 : Int32))] [(.int zc)])
  refine Go.of (fun _ hr => XS.ifNo X102.here hx rfl (hb hby d10_7) rfl ((if0 _ _).trans (feq hzc).1) hr) ?_
  show Go p e s below _ _ _ _ T102 (mkF m 10 #[.val (.ref a1), .val (.int (16 : Int32))] [])
  refine Go.of (fun _ hr => XS.aloadN X102.here hx rfl (hb hby d10_10) rfl rfl hr) ?_
  show Go p e s below _ _ _ _ T102 (mkF m 11 #[.val (.ref a1), .val (.int (16 : Int32))] [(.ref a1)])
  refine Go.of (fun _ hr => XS.iloadN X102.here hx rfl (hb hby d10_11) rfl  hr) ?_
  show Go p e s below _ _ _ _ T102 (mkF m 12 #[.val (.ref a1), .val (.int (16 : Int32))] [(.int (16 : Int32)), (.ref a1)])
  obtain ⟨T103, h103, k103, X103, e103, E103, A103, st103⟩ := newP X102 hx hZ (hw _ (List.mem_of_getElem? (i := 19) rfl)) e102 (g := (mkF m 12 #[.val (.ref a1), .val (.int (16 : Int32))] [(.int (16 : Int32)), (.ref a1)])) rfl (hb hby d10_12) rfl (by decide) (cap := 16) (by decide) (by decide) (by decide) (by decide)
  obtain ⟨o103, g103⟩ : ∃ z, z = h0.size := ⟨_, rfl⟩
  rw [← g103] at A103 st103
  have ne_a1_o103 : a1 ≠ o103 := Nat.ne_of_lt (Nat.lt_of_lt_of_le Ea1.lt (Nat.le_of_eq g103.symm))
  have V103 := Arv.new A103 (by decide)
  have lt103 : o103 < h103.size := A103.lt
  have J103 := J0.add E103 g103 lt103
  have B103 := B0.mono E103.1
  have O103 := O0.ext E103
  have sz103 : h0.size ≤ o103 := Nat.le_trans K0.1 (Nat.le_of_eq g103.symm)
  have fr103 : nb ≤ o103 := Nat.le_trans hnb sz103
  have K103 := K0.ext E103
  refine Go.of (fun _ hr => st103 _ hr) ?_
  show Go p e s below _ _ _ _ T103 (mkF m 14 #[.val (.ref a1), .val (.int (16 : Int32))] [(.ref o103), (.ref a1)])
  have f105 := (G1.ext E103)
  have f106 := (Ea1.ext E103)
  obtain ⟨T104, h104, X104, e104, W104, st104⟩ := putF X103 hx hZ hown (host := "") (Or.inl (hw _ (List.mem_of_getElem? (i := 69) rfl))) Via.refl e103 f105 f106 (Or.inl (hw _ (List.mem_of_getElem? (i := 70) rfl))) (hw _ (List.mem_of_getElem? (i := 56) rfl)) (ty := (.array .byte)) (by decide) rfl rfl (g := (mkF m 14 #[.val (.ref a1), .val (.int (16 : Int32))] [(.ref o103), (.ref a1)])) rfl rfl (hb hby d10_14)
  have N104 := Fr.snoc X104 N0 fr_a1
  have J104 := J103.wr W104 (List.mem_cons_of_mem _ hm_a1)
  have B104 := B103.mono (Nat.le_of_eq W104.size.symm)
  have O104 := O103.wr W104 (Nat.le_trans hb0 fr_a1)
  have K104 := K103.wr W104 (Or.inl (List.mem_of_getElem? (i := 0) rfl))
  have Fw104 := f105.same W104
  refine Go.of (fun _ hr => st104 _ hr) ?_
  show Go p e s below _ _ _ _ T104 (mkF m 17 #[.val (.ref a1), .val (.int (16 : Int32))] [])
  refine Go.of (fun _ hr => XS.aloadN X104.here hx rfl (hb hby d10_17) rfl rfl hr) ?_
  show Go p e s below _ _ _ _ T104 (mkF m 18 #[.val (.ref a1), .val (.int (16 : Int32))] [(.ref a1)])
  refine Go.of (fun _ hr => XS.iconst X104.here hx rfl (hb hby d10_18) hr) ?_
  show Go p e s below _ _ _ _ T104 (mkF m 19 #[.val (.ref a1), .val (.int (16 : Int32))] [(.int (0 : Int32)), (.ref a1)])
  have f108 := ((G2.ext E103).other W104 (Or.inr (slot_ne (Or.inl (hw _ (List.mem_of_getElem? (i := 72) rfl))) (Or.inl (hw _ (List.mem_of_getElem? (i := 70) rfl))) (by decide) (t := .byte) (t' := (.array .byte)) (by decide) (by decide))))
  have f109 := (f106.wr W104)
  obtain ⟨T107, h107, X107, e107, W107, st107⟩ := putFN X104 hx hZ hown (hw _ (List.mem_of_getElem? (i := 71) rfl)) Via.refl e104 f108 f109 (Or.inl (hw _ (List.mem_of_getElem? (i := 72) rfl))) (hw _ (List.mem_of_getElem? (i := 56) rfl)) (ty := .byte) (v := (.int (0 : Int32))) (v' := (.int (0 : Int32))) (by decide) rfl rfl (g := (mkF m 19 #[.val (.ref a1), .val (.int (16 : Int32))] [(.int (0 : Int32)), (.ref a1)])) rfl rfl (hb hby d10_19)
  have N107 := Fr.snoc X107 N104 fr_a1
  have J107 := J104.wr W107 (List.mem_cons_of_mem _ hm_a1)
  have B107 := B104.mono (Nat.le_of_eq W107.size.symm)
  have O107 := O104.wr W107 (Nat.le_trans hb0 fr_a1)
  have K107 := K104.wr W107 (Or.inl (List.mem_of_getElem? (i := 0) rfl))
  have Fw107 := f108.same W107
  refine Go.of (fun _ hr => st107 _ hr) ?_
  show Go p e s below _ _ _ _ T107 (mkF m 22 #[.val (.ref a1), .val (.int (16 : Int32))] [])
  refine Go.of (fun _ hr => XS.goto X107.here hx rfl (pc0 := 22) (pc' := 38) rfl (hb hby d10_22) (by decide) (by decide) hr) ?_
  show Go p e s below _ _ _ _ T107 (mkF m 38 #[.val (.ref a1), .val (.int (16 : Int32))] [])
  have f110 := (Fw104.other W107 (Or.inr (slot_ne (Or.inl (hw _ (List.mem_of_getElem? (i := 70) rfl))) (Or.inl (hw _ (List.mem_of_getElem? (i := 72) rfl))) (by decide) (t := (.array .byte)) (t' := .byte) (by decide) (by decide))))
  have f111 := (((G3.ext E103).other W104 (Or.inr (slot_ne (Or.inl (hw _ (List.mem_of_getElem? (i := 95) rfl))) (Or.inl (hw _ (List.mem_of_getElem? (i := 70) rfl))) (by decide) (t := .int) (t' := (.array .byte)) (by decide) (by decide)))).other W107 (Or.inr (slot_ne (Or.inl (hw _ (List.mem_of_getElem? (i := 95) rfl))) (Or.inl (hw _ (List.mem_of_getElem? (i := 72) rfl))) (by decide) (t := .int) (t' := .byte) (by decide) (by decide))))
  have f112 := ((V103.other W104 (Ne.symm ne_a1_o103)).other W107 (Ne.symm ne_a1_o103))
  exact Go.retV X107 hx hlk B107 (J107.sub fun x hx => (List.mem_cons_of_mem _ hx)) e107 hret (hb hby d10_38) (by decide) (by decide) (fun vm_ hw_ => ⟨rfl, N107, K107, _, _, sz103, f110, Fw107, f111, f112, J107.warm hw_⟩)

theorem pn5 : plainName "java/lang/StringBuilder" = true := by first | (simp [plainName, overriddenIn]; done) | decide +kernel
theorem d9_0 : decode jdk_67_method_1_code 0 = .ok (.aload_n 0, 1) := by decide +kernel
theorem d9_1 : decode jdk_67_method_1_code 1 = .ok (.bipush 16, 2) := by decide +kernel
theorem d9_3 : decode jdk_67_method_1_code 3 = .ok (.invokespecial 1, 3) := by decide +kernel
theorem pd12 : parseMethodDescriptor "(I)V" = some ⟨[.int], none⟩ := by decide +kernel
theorem d9_6 : decode jdk_67_method_1_code 6 = .ok (.return_, 1) := by decide +kernel
set_option maxRecDepth 65536 in
set_option maxHeartbeats 40000000 in
theorem rm9 (l : Launch) (Z : State) (a0 : Array Value) (hw : ∀ d ∈ tables_1, d.before a0 Z = true) (ws : List Jvm.Cond) (a1 : Addr) (u1 u2 : Value) (zc : Int32) (ms : List Addr) (h0 : Heap) (n0 : Nat) (O0 : Old Z n0 h0) (nb : Nat) (hb0 : n0 ≤ nb) (hnb : nb ≤ h0.size) (fr_a1 : nb ≤ a1) (hm_a1 : a1 ∈ ms) (Ea1 : Exa Z h0 a1 "java/lang/StringBuilder") (G1 : Fld Z h0 a1 "java/lang/AbstractStringBuilder" "value" "[B" u1) (G2 : Fld Z h0 a1 "java/lang/AbstractStringBuilder" "coder" "B" u2) (G3 : Fld Z h0 a1 "java/lang/AbstractStringBuilder" "count" "I" (.int 0)) (S_C : Sta Z Z.heap "java/lang/String" "COMPACT_STRINGS" "Z" (.int zc)) (hzc : ¬ zc = 0) :
    Con l Z ms (⟨"java/lang/StringBuilder", "<init>", "()V"⟩ : MethodName) jdk_67_method_1_code 1 none ws ({ frames := 2, cells := 1, slots := 16, locals := 26 } : Room) #[(.ref a1)] h0 (fun v vm h L => v = none ∧ Fr nb L ∧ Keep h0 h [a1] ∧ ∃ v1 kv, h0.size ≤ v1 ∧ Fld Z h a1 "java/lang/AbstractStringBuilder" "value" "[B" (.ref v1) ∧ Fld Z h a1 "java/lang/AbstractStringBuilder" "coder" "B" (.int 0) ∧ Fld Z h a1 "java/lang/AbstractStringBuilder" "count" "I" (.int 0) ∧ Arv Z h v1 kv .byte 16 [] (.int 0) ∧ Hd Z (v1 :: ms) vm h) := by
  refine Con.mk (plainFor_of_name pn5) ?_
  intro p e s m below meth c s₁ Cc X0 e0 eb J0 B0 M0
  obtain ⟨hx, hZ, hown, hby, hml, hnm, hret, hlk⟩ := id Cc
  have N0 := Fr.nil nb
  have K0 := Keep.refl h0 [a1]
  show Go p e s below _ _ _ _ s₁ (mkF m 0 #[.val (.ref a1)] [])
  refine Go.of (fun _ hr => XS.aloadN X0.here hx rfl (hb hby d9_0) rfl rfl hr) ?_
  show Go p e s below _ _ _ _ s₁ (mkF m 1 #[.val (.ref a1)] [(.ref a1)])
  refine Go.of (fun _ hr => XS.bipush X0.here hx rfl (hb hby d9_1) hr) ?_
  show Go p e s below _ _ _ _ s₁ (mkF m 3 #[.val (.ref a1)] [(.int (16 : Int32)), (.ref a1)])
  obtain ⟨_, b101, T101, h101, L101, e101, Cc101, X101, B101, J101, g101, hQ101, st101⟩ := own_callI Cc B0 J0 X0 rfl (hw _ (List.mem_of_getElem? (i := 61) rfl)) (hw _ (List.mem_of_getElem? (i := 62) rfl)) (hw _ (List.mem_of_getElem? (i := 65) rfl)) (hw _ (List.mem_of_getElem? (i := 66) rfl)) (by decide) (rm10 l Z a0 hw [] a1 _ _ zc _ h0 n0 O0 nb hb0 (Nat.le_trans hnb K0.1) fr_a1 hm_a1 Ea1 G1 G2 G3 S_C hzc) e0 (g := (mkF m 3 #[.val (.ref a1)] [(.int (16 : Int32)), (.ref a1)])) rfl (by rw [hml]; rfl) (argsL := [(.int (16 : Int32))]) (rest := []) (lenOf pd12 rfl) rfl (W := 0) (by show 2 * 0 + _ ≤ _; exact Nat.le_of_eq rfl) (hb hby d9_3) (by decide) (by decide) (by decide) (by decide)
  obtain ⟨rfl, Nq101, Kq101, v101, kv101, R_v101, Gv101, Gc101, Gn101, W101_, Jv101⟩ := hQ101
  have N101 := Fr.app N0 Nq101
  obtain ⟨hx, hZ, hown, hby, hml, hnm, hret, hlk⟩ := id Cc101
  have sz_v101 : h0.size ≤ v101 := Nat.le_trans K0.1 R_v101
  have fr_v101 : nb ≤ v101 := Nat.le_trans hnb sz_v101
  have ne_a1_v101 : a1 ≠ v101 := Nat.ne_of_lt (Nat.lt_of_lt_of_le Ea1.lt R_v101)
  have K101 := K0.trans Kq101 (allS (Or.inl (List.mem_of_getElem? (i := 0) rfl)) all0)
  have O101 := O0.keep Kq101 (allS (Nat.le_trans hb0 fr_a1) all0)
  refine Go.of st101 ?_
  show Go p e s below _ _ _ _ T101 (mkF m 6 #[.val (.ref a1)] [])
  exact Go.retV X101 hx hlk B101 (Jv101.sub fun x hx => (List.mem_cons_of_mem _ hx)) e101 hret (hb hby d9_6) (by decide) (by decide) (fun vm_ hw_ => ⟨rfl, N101, K101, _, _, sz_v101, Gv101, Gc101, Gn101, W101_, Jv101.warm hw_⟩)

theorem d15_0 : decode jdk_68_method_9_code 0 = .ok (.aload_n 0, 1) := by decide +kernel
theorem d15_1 : decode jdk_68_method_9_code 1 = .ok (.getfield 15, 3) := by decide +kernel
theorem d15_4 : decode jdk_68_method_9_code 4 = .ok (.arraylength, 1) := by decide +kernel
theorem d15_5 : decode jdk_68_method_9_code 5 = .ok (.aload_n 0, 1) := by decide +kernel
theorem d15_6 : decode jdk_68_method_9_code 6 = .ok (.getfield 22, 3) := by decide +kernel
theorem d15_9 : decode jdk_68_method_9_code 9 = .ok (.ishr, 1) := by decide +kernel
theorem d15_10 : decode jdk_68_method_9_code 10 = .ok (.istore_n 2, 1) := by decide +kernel
theorem d15_11 : decode jdk_68_method_9_code 11 = .ok (.iload_n 1, 1) := by decide +kernel
theorem d15_12 : decode jdk_68_method_9_code 12 = .ok (.iload_n 2, 1) := by decide +kernel
theorem d15_13 : decode jdk_68_method_9_code 13 = .ok (.isub, 1) := by decide +kernel
theorem d15_14 : decode jdk_68_method_9_code 14 = .ok (.ifCond .le 24, 3) := by decide +kernel
theorem d15_38 : decode jdk_68_method_9_code 38 = .ok (.return_, 1) := by decide +kernel
set_option maxRecDepth 65536 in
set_option maxHeartbeats 40000000 in
theorem rm15 (l : Launch) (Z : State) (a0 : Array Value) (hw : ∀ d ∈ tables_1, d.before a0 Z = true) (ws : List Jvm.Cond) (a1 v1 : Addr) (kv : ClassId) (bs : List Int32) (j : Nat) (ms : List Addr) (h0 : Heap) (n0 : Nat) (O0 : Old Z n0 h0) (nb : Nat) (hb0 : n0 ≤ nb) (hnb : nb ≤ h0.size) (Ea1 : Exa Z h0 a1 "java/lang/StringBuilder") (Gv : Fld Z h0 a1 "java/lang/AbstractStringBuilder" "value" "[B" (.ref v1)) (Gc : Fld Z h0 a1 "java/lang/AbstractStringBuilder" "coder" "B" (.int 0)) (Gn : Fld Z h0 a1 "java/lang/AbstractStringBuilder" "count" "I" (.int (Int32.ofNat bs.length))) (W1 : Arv Z h0 v1 kv .byte 16 (bs.map Value.int) (.int 0)) (hj : j ≤ 16) :
    Con l Z ms (⟨"java/lang/AbstractStringBuilder", "ensureCapacityInternal", "(I)V"⟩ : MethodName) jdk_68_method_9_code 3 none ws ({ frames := 0, cells := 0, slots := 0, locals := 0 } : Room) #[(.ref a1), (.int (Int32.ofNat j))] h0 (fun v vm h L => v = none ∧ Fr nb L ∧ h = h0) := by
  refine Con.mk (plainFor_of_name pn4) ?_
  intro p e s m below meth c s₁ Cc X0 e0 eb J0 B0 M0
  obtain ⟨hx, hZ, hown, hby, hml, hnm, hret, hlk⟩ := id Cc
  have N0 := Fr.nil h0.size
  have K0 := Keep.refl h0 []
  show Go p e s below _ _ _ _ s₁ (mkF m 0 #[.val (.ref a1), .val (.int (Int32.ofNat j)), .unset] [])
  refine Go.of (fun _ hr => XS.aloadN X0.here hx rfl (hb hby d15_0) rfl rfl hr) ?_
  show Go p e s below _ _ _ _ s₁ (mkF m 1 #[.val (.ref a1), .val (.int (Int32.ofNat j)), .unset] [(.ref a1)])
  obtain ⟨T101, X101, e101, st101⟩ := getF X0 hx hZ hown (host := "") (Or.inl (hw _ (List.mem_of_getElem? (i := 69) rfl))) Via.refl e0 Gv (g := (mkF m 1 #[.val (.ref a1), .val (.int (Int32.ofNat j)), .unset] [(.ref a1)])) rfl rfl (hb hby d15_1)
  refine Go.of (fun _ hr => st101 _ hr) ?_
  show Go p e s below _ _ _ _ T101 (mkF m 4 #[.val (.ref a1), .val (.int (Int32.ofNat j)), .unset] [(.ref v1)])
  obtain ⟨cl102, Ar102, q102, S102, N102_, H102, G102⟩ := id W1
  refine Go.of (fun _ hr => X101.arraylength hx (by rw [e101]; exact Ar102.1) (State.isArrayOf_alike hZ.alike Ar102.2.1) (g := (mkF m 4 #[.val (.ref a1), .val (.int (Int32.ofNat j)), .unset] [(.ref v1)])) rfl rfl (hb hby d15_4) _ hr) ?_
  rw [len_of S102 N102_]
  show Go p e s below _ _ _ _ T101 (mkF m 5 #[.val (.ref a1), .val (.int (Int32.ofNat j)), .unset] [(.int (16 : Int32))])
  refine Go.of (fun _ hr => XS.aloadN X101.here hx rfl (hb hby d15_5) rfl rfl hr) ?_
  show Go p e s below _ _ _ _ T101 (mkF m 6 #[.val (.ref a1), .val (.int (Int32.ofNat j)), .unset] [(.ref a1), (.int (16 : Int32))])
  obtain ⟨T103, X103, e103, st103⟩ := getF X101 hx hZ hown (host := "") (Or.inl (hw _ (List.mem_of_getElem? (i := 71) rfl))) Via.refl e101 Gc (g := (mkF m 6 #[.val (.ref a1), .val (.int (Int32.ofNat j)), .unset] [(.ref a1), (.int (16 : Int32))])) rfl rfl (hb hby d15_6)
  refine Go.of (fun _ hr => st103 _ hr) ?_
  show Go p e s below _ _ _ _ T103 (mkF m 9 #[.val (.ref a1), .val (.int (Int32.ofNat j)), .unset] [(.int (0 : Int32)), (.int (16 : Int32))])
  refine Go.of (fun _ hr => XS.ishr X103.here hx rfl (hb hby d15_9) rfl hr) ?_
  show Go p e s below _ _ _ _ T103 (mkF m 10 #[.val (.ref a1), .val (.int (Int32.ofNat j)), .unset] [(.int ((16 : Int32) >>> ((0 : Int32) &&& 31)))])
  rw [own_sh0]
  show Go p e s below _ _ _ _ T103 (mkF m 10 #[.val (.ref a1), .val (.int (Int32.ofNat j)), .unset] [(.int (16 : Int32))])
  refine Go.of (fun _ hr => XS.istoreN X103.here hx rfl (hb hby d15_10) rfl (l' := #[.val (.ref a1), .val (.int (Int32.ofNat j)), .val (.int (16 : Int32))]) rfl hr) ?_
  show Go p e s below _ _ _ _ T103 (mkF m 11 #[.val (.ref a1), .val (.int (Int32.ofNat j)), .val (.int (16 : Int32))] [])
  refine Go.of (fun _ hr => XS.iloadN X103.here hx rfl (hb hby d15_11) rfl  hr) ?_
  show Go p e s below _ _ _ _ T103 (mkF m 12 #[.val (.ref a1), .val (.int (Int32.ofNat j)), .val (.int (16 : Int32))] [(.int (Int32.ofNat j))])
  refine Go.of (fun _ hr => XS.iloadN X103.here hx rfl (hb hby d15_12) rfl  hr) ?_
  show Go p e s below _ _ _ _ T103 (mkF m 13 #[.val (.ref a1), .val (.int (Int32.ofNat j)), .val (.int (16 : Int32))] [(.int (16 : Int32)), (.int (Int32.ofNat j))])
  refine Go.of (fun _ hr => XS.isub X103.here hx rfl (hb hby d15_13) rfl hr) ?_
  show Go p e s below _ _ _ _ T103 (mkF m 14 #[.val (.ref a1), .val (.int (Int32.ofNat j)), .val (.int (16 : Int32))] [(.int ((Int32.ofNat j) - (16 : Int32)))])
  refine Go.of (fun _ hr => XS.ifYes X103.here hx rfl (pc0 := 14) (pc' := 38) rfl (hb hby d15_14) rfl ((if0 _ _).trans (flt (own_ens hj)).2.2.2) (by decide) (by decide) hr) ?_
  show Go p e s below _ _ _ _ T103 (mkF m 38 #[.val (.ref a1), .val (.int (Int32.ofNat j)), .val (.int (16 : Int32))] [])
  exact Go.retV X103 hx hlk B0 J0 e103 hret (hb hby d15_38) (by decide) (by decide) (fun vm_ hw_ => ⟨rfl, (fun y hy => Nat.le_trans hnb (N0 y hy)), rfl⟩)

theorem d17_0 : decode jdk_68_method_71_code 0 = .ok (.getstatic 18, 3) := by decide +kernel
theorem d17_3 : decode jdk_68_method_71_code 3 = .ok (.ifCond .eq 18, 3) := by decide +kernel
theorem d17_6 : decode jdk_68_method_71_code 6 = .ok (.aload_n 0, 1) := by decide +kernel
theorem d17_7 : decode jdk_68_method_71_code 7 = .ok (.getfield 22, 3) := by decide +kernel
theorem d17_10 : decode jdk_68_method_71_code 10 = .ok (.aload_n 1, 1) := by decide +kernel
theorem d17_11 : decode jdk_68_method_71_code 11 = .ok (.invokevirtual 40, 3) := by decide +kernel
theorem d17_14 : decode jdk_68_method_71_code 14 = .ok (.if_icmp .eq 7, 3) := by decide +kernel
theorem d17_21 : decode jdk_68_method_71_code 21 = .ok (.return_, 1) := by decide +kernel
set_option maxRecDepth 65536 in
set_option maxHeartbeats 40000000 in
theorem rm17 (l : Launch) (Z : State) (a0 : Array Value) (hw : ∀ d ∈ tables_1, d.before a0 Z = true) (ws : List Jvm.Cond) (a1 v1 : Addr) (kv : ClassId) (bs : List Int32) (s2 t2 : Addr) (k2 : ClassId) (b2 : List Int32) (zc : Int32) (ms : List Addr) (h0 : Heap) (n0 : Nat) (O0 : Old Z n0 h0) (nb : Nat) (hb0 : n0 ≤ nb) (hnb : nb ≤ h0.size) (Ea1 : Exa Z h0 a1 "java/lang/StringBuilder") (Gv : Fld Z h0 a1 "java/lang/AbstractStringBuilder" "value" "[B" (.ref v1)) (Gc : Fld Z h0 a1 "java/lang/AbstractStringBuilder" "coder" "B" (.int 0)) (Gn : Fld Z h0 a1 "java/lang/AbstractStringBuilder" "count" "I" (.int (Int32.ofNat bs.length))) (W1 : Arv Z h0 v1 kv .byte 16 (bs.map Value.int) (.int 0)) (Es2 : Exa Z h0 s2 "java/lang/String") (Fv2 : Fld Z h0 s2 "java/lang/String" "value" "[B" (.ref t2)) (Fc2 : Fld Z h0 s2 "java/lang/String" "coder" "B" (.int 0)) (V2 : Arv Z h0 t2 k2 .byte (Int32.ofNat b2.length) (b2.map Value.int) (.int 0)) (hn2 : b2.length ≤ 1000) (S_C : Sta Z Z.heap "java/lang/String" "COMPACT_STRINGS" "Z" (.int zc)) (hzc : ¬ zc = 0) :
    Con l Z ms (⟨"java/lang/AbstractStringBuilder", "inflateIfNeededFor", "(Ljava/lang/String;)V"⟩ : MethodName) jdk_68_method_71_code 2 none ws ({ frames := 1, cells := 0, slots := 0, locals := 13 } : Room) #[(.ref a1), (.ref s2)] h0 (fun v vm h L => v = none ∧ Fr nb L ∧ h = h0) := by
  refine Con.mk (plainFor_of_name pn4) ?_
  intro p e s m below meth c s₁ Cc X0 e0 eb J0 B0 M0
  obtain ⟨hx, hZ, hown, hby, hml, hnm, hret, hlk⟩ := id Cc
  have N0 := Fr.nil h0.size
  have K0 := Keep.refl h0 []
  show Go p e s below _ _ _ _ s₁ (mkF m 0 #[.val (.ref a1), .val (.ref s2)] [])
  obtain ⟨T101, X101, e101, st101⟩ := getS2 X0 hx hZ hown (host := "") (Or.inl (hw _ (List.mem_of_getElem? (i := 68) rfl))) Via.refl e0 (S_C.ext O0.2) (g := (mkF m 0 #[.val (.ref a1), .val (.ref s2)] [])) rfl (hb hby d17_0)
  refine Go.of (fun _ hr => st101 _ hr) ?_
  show Go p e s below _ _ _ _ T101 (mkF m 3 #[.val (.ref a1), .val (.ref s2)] [(.int zc)])
  refine Go.of (fun _ hr => XS.ifNo X101.here hx rfl (hb hby d17_3) rfl ((if0 _ _).trans (feq hzc).1) hr) ?_
  show Go p e s below _ _ _ _ T101 (mkF m 6 #[.val (.ref a1), .val (.ref s2)] [])
  refine Go.of (fun _ hr => XS.aloadN X101.here hx rfl (hb hby d17_6) rfl rfl hr) ?_
  show Go p e s below _ _ _ _ T101 (mkF m 7 #[.val (.ref a1), .val (.ref s2)] [(.ref a1)])
  obtain ⟨T102, X102, e102, st102⟩ := getF X101 hx hZ hown (host := "") (Or.inl (hw _ (List.mem_of_getElem? (i := 71) rfl))) Via.refl e101 Gc (g := (mkF m 7 #[.val (.ref a1), .val (.ref s2)] [(.ref a1)])) rfl rfl (hb hby d17_7)
  refine Go.of (fun _ hr => st102 _ hr) ?_
  show Go p e s below _ _ _ _ T102 (mkF m 10 #[.val (.ref a1), .val (.ref s2)] [(.int (0 : Int32))])
  refine Go.of (fun _ hr => XS.aloadN X102.here hx rfl (hb hby d17_10) rfl rfl hr) ?_
  show Go p e s below _ _ _ _ T102 (mkF m 11 #[.val (.ref a1), .val (.ref s2)] [(.ref s2), (.int (0 : Int32))])
  obtain ⟨_, b103, T103, h103, L103, e103, Cc103, X103, B103, J103, g103, hQ103, st103⟩ := own_callV Cc B0 J0 X102 (hw _ (List.mem_of_getElem? (i := 111) rfl)) (hw _ (List.mem_of_getElem? (i := 89) rfl)) (notFace_of_selects (args := #[]) (mvT hZ (hw _ (List.mem_of_getElem? (i := 91) rfl)))) (hw _ (List.mem_of_getElem? (i := 91) rfl)) (hw _ (List.mem_of_getElem? (i := 90) rfl)) (hw _ (List.mem_of_getElem? (i := 6) rfl)) (hw _ (List.mem_of_getElem? (i := 92) rfl)) (by decide) Es2 (rm14 l Z a0 hw [] s2 zc _ h0 n0 O0 h0.size (own_ole O0) K0.1 Fc2 S_C hzc) e102 (g := (mkF m 11 #[.val (.ref a1), .val (.ref s2)] [(.ref s2), (.int (0 : Int32))])) rfl (by rw [hml]; rfl) (argsL := []) (rest := [(.int (0 : Int32))]) (lenOf pd7 rfl) rfl (W := 1) (by show 2 * 0 + _ ≤ _; exact Nat.le_of_eq rfl) (hb hby d17_11) (by decide) (by decide) (by decide) (by decide)
  obtain ⟨rfl, Nq103, hh103⟩ := hQ103
  have N103 := Fr.app N0 Nq103
  obtain ⟨hx, hZ, hown, hby, hml, hnm, hret, hlk⟩ := id Cc103
  rw [hh103] at e103 B103 J103
  refine Go.of st103 ?_
  show Go p e s below _ _ _ _ T103 (mkF m 14 #[.val (.ref a1), .val (.ref s2)] [(.int (0 : Int32)), (.int (0 : Int32))])
  refine Go.of (fun _ hr => XS.icmpYes X103.here hx rfl (pc0 := 14) (pc' := 21) rfl (hb hby d17_14) rfl (teq (by decide : ((0 : Int32) = (0 : Int32)))).1 (by decide) (by decide) hr) ?_
  show Go p e s below _ _ _ _ T103 (mkF m 21 #[.val (.ref a1), .val (.ref s2)] [])
  exact Go.retV X103 hx hlk B103 J103 e103 hret (hb hby d17_21) (by decide) (by decide) (fun vm_ hw_ => ⟨rfl, (fun y hy => Nat.le_trans hnb (N103 y hy)), rfl⟩)

theorem d18_0 : decode jdk_42_method_147_code 0 = .ok (.aload_n 0, 1) := by decide +kernel
theorem d18_1 : decode jdk_42_method_147_code 1 = .ok (.invokevirtual 335, 3) := by decide +kernel
theorem d18_4 : decode jdk_42_method_147_code 4 = .ok (.iload_n 3, 1) := by decide +kernel
theorem d18_5 : decode jdk_42_method_147_code 5 = .ok (.if_icmp .ne 23, 3) := by decide +kernel
theorem d18_8 : decode jdk_42_method_147_code 8 = .ok (.aload_n 0, 1) := by decide +kernel
theorem d18_9 : decode jdk_42_method_147_code 9 = .ok (.getfield 9, 3) := by decide +kernel
theorem d18_12 : decode jdk_42_method_147_code 12 = .ok (.iconst 0, 1) := by decide +kernel
theorem d18_13 : decode jdk_42_method_147_code 13 = .ok (.aload_n 1, 1) := by decide +kernel
theorem d18_14 : decode jdk_42_method_147_code 14 = .ok (.iload_n 2, 1) := by decide +kernel
theorem d18_15 : decode jdk_42_method_147_code 15 = .ok (.iload_n 3, 1) := by decide +kernel
theorem d18_16 : decode jdk_42_method_147_code 16 = .ok (.ishl, 1) := by decide +kernel
theorem d18_17 : decode jdk_42_method_147_code 17 = .ok (.aload_n 0, 1) := by decide +kernel
theorem d18_18 : decode jdk_42_method_147_code 18 = .ok (.getfield 9, 3) := by decide +kernel
theorem d18_21 : decode jdk_42_method_147_code 21 = .ok (.arraylength, 1) := by decide +kernel
theorem d18_22 : decode jdk_42_method_147_code 22 = .ok (.invokestatic 212, 3) := by decide +kernel
theorem d18_25 : decode jdk_42_method_147_code 25 = .ok (.goto 18, 3) := by decide +kernel
theorem d18_43 : decode jdk_42_method_147_code 43 = .ok (.return_, 1) := by decide +kernel
set_option maxRecDepth 65536 in
set_option maxHeartbeats 40000000 in
theorem rm18 (l : Launch) (Z : State) (a0 : Array Value) (hw : ∀ d ∈ tables_1, d.before a0 Z = true) (ws : List Jvm.Cond) (v1 : Addr) (kv : ClassId) (bs : List Int32) (s2 t2 : Addr) (k2 : ClassId) (b2 : List Int32) (zc : Int32) (ms : List Addr) (h0 : Heap) (n0 : Nat) (O0 : Old Z n0 h0) (nb : Nat) (hb0 : n0 ≤ nb) (hnb : nb ≤ h0.size) (fr_v1 : nb ≤ v1) (hm_v1 : v1 ∈ ms) (W1 : Arv Z h0 v1 kv .byte 16 (bs.map Value.int) (.int 0)) (Es2 : Exa Z h0 s2 "java/lang/String") (Fv2 : Fld Z h0 s2 "java/lang/String" "value" "[B" (.ref t2)) (Fc2 : Fld Z h0 s2 "java/lang/String" "coder" "B" (.int 0)) (V2 : Arv Z h0 t2 k2 .byte (Int32.ofNat b2.length) (b2.map Value.int) (.int 0)) (hn2 : b2.length ≤ 1000) (hl : bs.length + b2.length ≤ 16) (ne2 : t2 ≠ v1) (S_C : Sta Z Z.heap "java/lang/String" "COMPACT_STRINGS" "Z" (.int zc)) (hzc : ¬ zc = 0) :
    Con l Z ms (⟨"java/lang/String", "getBytes", "([BIB)V"⟩ : MethodName) jdk_42_method_147_code 4 none ws ({ frames := 1, cells := 0, slots := 0, locals := 40 } : Room) #[(.ref s2), (.ref v1), (.int (Int32.ofNat bs.length)), (.int (0 : Int32))] h0 (fun v vm h L => v = none ∧ Fr nb L ∧ Keep h0 h [v1] ∧ Arv Z h v1 kv .byte 16 ((bs ++ b2).map Value.int) (.int 0)) := by
  refine Con.mk (plainFor_of_name pn1) ?_
  intro p e s m below meth c s₁ Cc X0 e0 eb J0 B0 M0
  obtain ⟨hx, hZ, hown, hby, hml, hnm, hret, hlk⟩ := id Cc
  have N0 := Fr.nil nb
  have K0 := Keep.refl h0 [v1]
  show Go p e s below _ _ _ _ s₁ (mkF m 0 #[.val (.ref s2), .val (.ref v1), .val (.int (Int32.ofNat bs.length)), .val (.int (0 : Int32))] [])
  refine Go.of (fun _ hr => XS.aloadN X0.here hx rfl (hb hby d18_0) rfl rfl hr) ?_
  show Go p e s below _ _ _ _ s₁ (mkF m 1 #[.val (.ref s2), .val (.ref v1), .val (.int (Int32.ofNat bs.length)), .val (.int (0 : Int32))] [(.ref s2)])
  obtain ⟨_, b101, T101, h101, L101, e101, Cc101, X101, B101, J101, g101, hQ101, st101⟩ := own_callV Cc B0 J0 X0 (hw _ (List.mem_of_getElem? (i := 88) rfl)) (hw _ (List.mem_of_getElem? (i := 89) rfl)) (notFace_of_selects (args := #[]) (mvT hZ (hw _ (List.mem_of_getElem? (i := 91) rfl)))) (hw _ (List.mem_of_getElem? (i := 91) rfl)) (hw _ (List.mem_of_getElem? (i := 90) rfl)) (hw _ (List.mem_of_getElem? (i := 6) rfl)) (hw _ (List.mem_of_getElem? (i := 92) rfl)) (by decide) Es2 (rm14 l Z a0 hw [] s2 zc _ h0 n0 O0 h0.size (own_ole O0) K0.1 Fc2 S_C hzc) e0 (g := (mkF m 1 #[.val (.ref s2), .val (.ref v1), .val (.int (Int32.ofNat bs.length)), .val (.int (0 : Int32))] [(.ref s2)])) rfl (by rw [hml]; rfl) (argsL := []) (rest := []) (lenOf pd7 rfl) rfl (W := 0) (by show 2 * 0 + _ ≤ _; exact Nat.le_of_eq rfl) (hb hby d18_1) (by decide) (by decide) (by decide) (by decide)
  obtain ⟨rfl, Nq101, hh101⟩ := hQ101
  have N101 := Fr.app N0 (show Fr nb _ from fun y hy => Nat.le_trans hnb (Nq101 y hy))
  have NS101 := Fr.app (Fr.nil _) Nq101
  obtain ⟨hx, hZ, hown, hby, hml, hnm, hret, hlk⟩ := id Cc101
  rw [hh101] at e101 B101 J101
  refine Go.of st101 ?_
  show Go p e s below _ _ _ _ T101 (mkF m 4 #[.val (.ref s2), .val (.ref v1), .val (.int (Int32.ofNat bs.length)), .val (.int (0 : Int32))] [(.int (0 : Int32))])
  refine Go.of (fun _ hr => XS.iloadN X101.here hx rfl (hb hby d18_4) rfl  hr) ?_
  show Go p e s below _ _ _ _ T101 (mkF m 5 #[.val (.ref s2), .val (.ref v1), .val (.int (Int32.ofNat bs.length)), .val (.int (0 : Int32))] [(.int (0 : Int32)), (.int (0 : Int32))])
  refine Go.of (fun _ hr => XS.icmpNo X101.here hx rfl (hb hby d18_5) rfl (teq (by decide : ((0 : Int32) = (0 : Int32)))).2 hr) ?_
  show Go p e s below _ _ _ _ T101 (mkF m 8 #[.val (.ref s2), .val (.ref v1), .val (.int (Int32.ofNat bs.length)), .val (.int (0 : Int32))] [])
  refine Go.of (fun _ hr => XS.aloadN X101.here hx rfl (hb hby d18_8) rfl rfl hr) ?_
  show Go p e s below _ _ _ _ T101 (mkF m 9 #[.val (.ref s2), .val (.ref v1), .val (.int (Int32.ofNat bs.length)), .val (.int (0 : Int32))] [(.ref s2)])
  obtain ⟨T102, X102, e102, st102⟩ := getF X101 hx hZ hown (host := "") (Or.inl (hw _ (List.mem_of_getElem? (i := 24) rfl))) Via.refl e101 Fv2 (g := (mkF m 9 #[.val (.ref s2), .val (.ref v1), .val (.int (Int32.ofNat bs.length)), .val (.int (0 : Int32))] [(.ref s2)])) rfl rfl (hb hby d18_9)
  refine Go.of (fun _ hr => st102 _ hr) ?_
  show Go p e s below _ _ _ _ T102 (mkF m 12 #[.val (.ref s2), .val (.ref v1), .val (.int (Int32.ofNat bs.length)), .val (.int (0 : Int32))] [(.ref t2)])
  refine Go.of (fun _ hr => XS.iconst X102.here hx rfl (hb hby d18_12) hr) ?_
  show Go p e s below _ _ _ _ T102 (mkF m 13 #[.val (.ref s2), .val (.ref v1), .val (.int (Int32.ofNat bs.length)), .val (.int (0 : Int32))] [(.int (0 : Int32)), (.ref t2)])
  refine Go.of (fun _ hr => XS.aloadN X102.here hx rfl (hb hby d18_13) rfl rfl hr) ?_
  show Go p e s below _ _ _ _ T102 (mkF m 14 #[.val (.ref s2), .val (.ref v1), .val (.int (Int32.ofNat bs.length)), .val (.int (0 : Int32))] [(.ref v1), (.int (0 : Int32)), (.ref t2)])
  refine Go.of (fun _ hr => XS.iloadN X102.here hx rfl (hb hby d18_14) rfl  hr) ?_
  show Go p e s below _ _ _ _ T102 (mkF m 15 #[.val (.ref s2), .val (.ref v1), .val (.int (Int32.ofNat bs.length)), .val (.int (0 : Int32))] [(.int (Int32.ofNat bs.length)), (.ref v1), (.int (0 : Int32)), (.ref t2)])
  refine Go.of (fun _ hr => XS.iloadN X102.here hx rfl (hb hby d18_15) rfl  hr) ?_
  show Go p e s below _ _ _ _ T102 (mkF m 16 #[.val (.ref s2), .val (.ref v1), .val (.int (Int32.ofNat bs.length)), .val (.int (0 : Int32))] [(.int (0 : Int32)), (.int (Int32.ofNat bs.length)), (.ref v1), (.int (0 : Int32)), (.ref t2)])
  refine Go.of (fun _ hr => XS.ishl X102.here hx rfl (hb hby d18_16) rfl hr) ?_
  show Go p e s below _ _ _ _ T102 (mkF m 17 #[.val (.ref s2), .val (.ref v1), .val (.int (Int32.ofNat bs.length)), .val (.int (0 : Int32))] [(.int ((Int32.ofNat bs.length) <<< ((0 : Int32) &&& 31))), (.ref v1), (.int (0 : Int32)), (.ref t2)])
  rw [own_sl0]
  show Go p e s below _ _ _ _ T102 (mkF m 17 #[.val (.ref s2), .val (.ref v1), .val (.int (Int32.ofNat bs.length)), .val (.int (0 : Int32))] [(.int (Int32.ofNat bs.length)), (.ref v1), (.int (0 : Int32)), (.ref t2)])
  refine Go.of (fun _ hr => XS.aloadN X102.here hx rfl (hb hby d18_17) rfl rfl hr) ?_
  show Go p e s below _ _ _ _ T102 (mkF m 18 #[.val (.ref s2), .val (.ref v1), .val (.int (Int32.ofNat bs.length)), .val (.int (0 : Int32))] [(.ref s2), (.int (Int32.ofNat bs.length)), (.ref v1), (.int (0 : Int32)), (.ref t2)])
  obtain ⟨T103, X103, e103, st103⟩ := getF X102 hx hZ hown (host := "") (Or.inl (hw _ (List.mem_of_getElem? (i := 24) rfl))) Via.refl e102 Fv2 (g := (mkF m 18 #[.val (.ref s2), .val (.ref v1), .val (.int (Int32.ofNat bs.length)), .val (.int (0 : Int32))] [(.ref s2), (.int (Int32.ofNat bs.length)), (.ref v1), (.int (0 : Int32)), (.ref t2)])) rfl rfl (hb hby d18_18)
  refine Go.of (fun _ hr => st103 _ hr) ?_
  show Go p e s below _ _ _ _ T103 (mkF m 21 #[.val (.ref s2), .val (.ref v1), .val (.int (Int32.ofNat bs.length)), .val (.int (0 : Int32))] [(.ref t2), (.int (Int32.ofNat bs.length)), (.ref v1), (.int (0 : Int32)), (.ref t2)])
  obtain ⟨cl104, Ar104, q104, S104, N104_, H104, G104⟩ := id V2
  refine Go.of (fun _ hr => X103.arraylength hx (by rw [e103]; exact Ar104.1) (State.isArrayOf_alike hZ.alike Ar104.2.1) (g := (mkF m 21 #[.val (.ref s2), .val (.ref v1), .val (.int (Int32.ofNat bs.length)), .val (.int (0 : Int32))] [(.ref t2), (.int (Int32.ofNat bs.length)), (.ref v1), (.int (0 : Int32)), (.ref t2)])) rfl rfl (hb hby d18_21) _ hr) ?_
  rw [len_of S104 N104_]
  show Go p e s below _ _ _ _ T103 (mkF m 22 #[.val (.ref s2), .val (.ref v1), .val (.int (Int32.ofNat bs.length)), .val (.int (0 : Int32))] [(.int (Int32.ofNat b2.length)), (.int (Int32.ofNat bs.length)), (.ref v1), (.int (0 : Int32)), (.ref t2)])
  obtain ⟨T105, h105, L105, X105, e105, N105, Kq105, V105, st105⟩ := cpA X103 hx hZ hown (hw _ (List.mem_of_getElem? (i := 117) rfl)) (hw _ (List.mem_of_getElem? (i := 120) rfl)) (hw _ (List.mem_of_getElem? (i := 118) rfl)) (hw _ (List.mem_of_getElem? (i := 119) rfl)) e103 V2 (W1.pad (pad_rep _ _ b2.length)) (us := b2.map Value.int) (Or.inl ⟨rfl, rfl⟩) (by decide) (oi_nn (by omega)) (oi_nn (by omega)) (cp4 (by omega) (by rw [oi_nat (by omega)]; exact Nat.le_refl _)) (cp5 (by omega) (by omega) (by show _ ≤ 16; omega)) (cpu b2 (by omega)) (cpl bs b2 (by omega) (by omega)) N101 fr_v1 (g := (mkF m 22 #[.val (.ref s2), .val (.ref v1), .val (.int (Int32.ofNat bs.length)), .val (.int (0 : Int32))] [(.int (Int32.ofNat b2.length)), (.int (Int32.ofNat bs.length)), (.ref v1), (.int (0 : Int32)), (.ref t2)])) rfl (by rw [hml]; rfl) rfl (hb hby d18_22) (by decide) (W := 0) (by show 2 * 0 + _ ≤ _; exact Nat.le_of_eq rfl) (by decide)
  have K105 := K0.trans Kq105 (allS (Or.inl (List.mem_of_getElem? (i := 0) rfl)) all0)
  have O105 := O0.keep Kq105 (allS (Nat.le_trans hb0 fr_v1) all0)
  have B105 := B101.mono Kq105.1
  have J105 := Hd.keep J101 Kq105 (allS hm_v1 all0)
  have Vc105 : Arv Z h105 v1 kv .byte (16 : Int32) ((bs ++ b2).map Value.int) (.int 0) := by have q := V105; exact cp_res bs b2 (by omega) (by omega) ▸ q
  refine Go.of (fun _ hr => st105 _ hr) ?_
  show Go p e s below _ _ _ _ T105 (mkF m 25 #[.val (.ref s2), .val (.ref v1), .val (.int (Int32.ofNat bs.length)), .val (.int (0 : Int32))] [])
  refine Go.of (fun _ hr => XS.goto X105.here hx rfl (pc0 := 25) (pc' := 43) rfl (hb hby d18_25) (by decide) (by decide) hr) ?_
  show Go p e s below _ _ _ _ T105 (mkF m 43 #[.val (.ref s2), .val (.ref v1), .val (.int (Int32.ofNat bs.length)), .val (.int (0 : Int32))] [])
  exact Go.retV X105 hx hlk B105 J105 e105 hret (hb hby d18_43) (by decide) (by decide) (fun vm_ hw_ => ⟨rfl, N105, K105, Vc105⟩)

theorem d16_0 : decode jdk_68_method_73_code 0 = .ok (.aload_n 0, 1) := by decide +kernel
theorem d16_1 : decode jdk_68_method_73_code 1 = .ok (.aload_n 2, 1) := by decide +kernel
theorem d16_2 : decode jdk_68_method_73_code 2 = .ok (.invokevirtual 397, 3) := by decide +kernel
theorem pd13 : parseMethodDescriptor "(Ljava/lang/String;)V" = some ⟨[(.object "java/lang/String")], none⟩ := by decide +kernel
theorem d16_5 : decode jdk_68_method_73_code 5 = .ok (.aload_n 2, 1) := by decide +kernel
theorem d16_6 : decode jdk_68_method_73_code 6 = .ok (.aload_n 0, 1) := by decide +kernel
theorem d16_7 : decode jdk_68_method_73_code 7 = .ok (.getfield 15, 3) := by decide +kernel
theorem d16_10 : decode jdk_68_method_73_code 10 = .ok (.iload_n 1, 1) := by decide +kernel
theorem d16_11 : decode jdk_68_method_73_code 11 = .ok (.aload_n 0, 1) := by decide +kernel
theorem d16_12 : decode jdk_68_method_73_code 12 = .ok (.getfield 22, 3) := by decide +kernel
theorem d16_15 : decode jdk_68_method_73_code 15 = .ok (.invokevirtual 399, 3) := by decide +kernel
theorem pd14 : parseMethodDescriptor "([BIB)V" = some ⟨[(.array .byte), .int, .byte], none⟩ := by decide +kernel
theorem d16_18 : decode jdk_68_method_73_code 18 = .ok (.return_, 1) := by decide +kernel
set_option maxRecDepth 65536 in
set_option maxHeartbeats 40000000 in
theorem rm16 (l : Launch) (Z : State) (a0 : Array Value) (hw : ∀ d ∈ tables_1, d.before a0 Z = true) (ws : List Jvm.Cond) (a1 v1 : Addr) (kv : ClassId) (bs : List Int32) (s2 t2 : Addr) (k2 : ClassId) (b2 : List Int32) (zc : Int32) (ms : List Addr) (h0 : Heap) (n0 : Nat) (O0 : Old Z n0 h0) (nb : Nat) (hb0 : n0 ≤ nb) (hnb : nb ≤ h0.size) (fr_v1 : nb ≤ v1) (hm_v1 : v1 ∈ ms) (Ea1 : Exa Z h0 a1 "java/lang/StringBuilder") (Gv : Fld Z h0 a1 "java/lang/AbstractStringBuilder" "value" "[B" (.ref v1)) (Gc : Fld Z h0 a1 "java/lang/AbstractStringBuilder" "coder" "B" (.int 0)) (Gn : Fld Z h0 a1 "java/lang/AbstractStringBuilder" "count" "I" (.int (Int32.ofNat bs.length))) (W1 : Arv Z h0 v1 kv .byte 16 (bs.map Value.int) (.int 0)) (Es2 : Exa Z h0 s2 "java/lang/String") (Fv2 : Fld Z h0 s2 "java/lang/String" "value" "[B" (.ref t2)) (Fc2 : Fld Z h0 s2 "java/lang/String" "coder" "B" (.int 0)) (V2 : Arv Z h0 t2 k2 .byte (Int32.ofNat b2.length) (b2.map Value.int) (.int 0)) (hn2 : b2.length ≤ 1000) (hl : bs.length + b2.length ≤ 16) (ne2 : t2 ≠ v1) (nea : a1 ≠ v1) (nes : s2 ≠ v1) (S_C : Sta Z Z.heap "java/lang/String" "COMPACT_STRINGS" "Z" (.int zc)) (hzc : ¬ zc = 0) :
    Con l Z ms (⟨"java/lang/AbstractStringBuilder", "putStringAt", "(ILjava/lang/String;)V"⟩ : MethodName) jdk_68_method_73_code 3 none ws ({ frames := 2, cells := 0, slots := 0, locals := 55 } : Room) #[(.ref a1), (.int (Int32.ofNat bs.length)), (.ref s2)] h0 (fun v vm h L => v = none ∧ Fr nb L ∧ Keep h0 h [v1] ∧ Arv Z h v1 kv .byte 16 ((bs ++ b2).map Value.int) (.int 0)) := by
  refine Con.mk (plainFor_of_name pn4) ?_
  intro p e s m below meth c s₁ Cc X0 e0 eb J0 B0 M0
  obtain ⟨hx, hZ, hown, hby, hml, hnm, hret, hlk⟩ := id Cc
  have N0 := Fr.nil nb
  have K0 := Keep.refl h0 [v1]
  show Go p e s below _ _ _ _ s₁ (mkF m 0 #[.val (.ref a1), .val (.int (Int32.ofNat bs.length)), .val (.ref s2)] [])
  refine Go.of (fun _ hr => XS.aloadN X0.here hx rfl (hb hby d16_0) rfl rfl hr) ?_
  show Go p e s below _ _ _ _ s₁ (mkF m 1 #[.val (.ref a1), .val (.int (Int32.ofNat bs.length)), .val (.ref s2)] [(.ref a1)])
  refine Go.of (fun _ hr => XS.aloadN X0.here hx rfl (hb hby d16_1) rfl rfl hr) ?_
  show Go p e s below _ _ _ _ s₁ (mkF m 2 #[.val (.ref a1), .val (.int (Int32.ofNat bs.length)), .val (.ref s2)] [(.ref s2), (.ref a1)])
  obtain ⟨_, b101, T101, h101, L101, e101, Cc101, X101, B101, J101, g101, hQ101, st101⟩ := own_callV Cc B0 J0 X0 (hw _ (List.mem_of_getElem? (i := 106) rfl)) (own_decl (hw _ (List.mem_of_getElem? (i := 107) rfl)) (hw _ (List.mem_of_getElem? (i := 110) rfl))) (notFace_of_selects (args := #[]) (mvT hZ (hw _ (List.mem_of_getElem? (i := 109) rfl)))) (hw _ (List.mem_of_getElem? (i := 109) rfl)) (hw _ (List.mem_of_getElem? (i := 107) rfl)) (hw _ (List.mem_of_getElem? (i := 65) rfl)) (hw _ (List.mem_of_getElem? (i := 110) rfl)) (by decide) Ea1 (rm17 l Z a0 hw [] a1 v1 _ bs s2 t2 _ b2 zc _ h0 n0 O0 h0.size (own_ole O0) K0.1 Ea1 Gv Gc Gn W1 Es2 Fv2 Fc2 V2 hn2 S_C hzc) e0 (g := (mkF m 2 #[.val (.ref a1), .val (.int (Int32.ofNat bs.length)), .val (.ref s2)] [(.ref s2), (.ref a1)])) rfl (by rw [hml]; rfl) (argsL := [(.ref s2)]) (rest := []) (lenOf pd13 rfl) rfl (W := 0) (by show 2 * 0 + _ ≤ _; exact Nat.le_of_eq rfl) (hb hby d16_2) (by decide) (by decide) (by decide) (by decide)
  obtain ⟨rfl, Nq101, hh101⟩ := hQ101
  have N101 := Fr.app N0 (show Fr nb _ from fun y hy => Nat.le_trans hnb (Nq101 y hy))
  have NS101 := Fr.app (Fr.nil _) Nq101
  obtain ⟨hx, hZ, hown, hby, hml, hnm, hret, hlk⟩ := id Cc101
  rw [hh101] at e101 B101 J101
  refine Go.of st101 ?_
  show Go p e s below _ _ _ _ T101 (mkF m 5 #[.val (.ref a1), .val (.int (Int32.ofNat bs.length)), .val (.ref s2)] [])
  refine Go.of (fun _ hr => XS.aloadN X101.here hx rfl (hb hby d16_5) rfl rfl hr) ?_
  show Go p e s below _ _ _ _ T101 (mkF m 6 #[.val (.ref a1), .val (.int (Int32.ofNat bs.length)), .val (.ref s2)] [(.ref s2)])
  refine Go.of (fun _ hr => XS.aloadN X101.here hx rfl (hb hby d16_6) rfl rfl hr) ?_
  show Go p e s below _ _ _ _ T101 (mkF m 7 #[.val (.ref a1), .val (.int (Int32.ofNat bs.length)), .val (.ref s2)] [(.ref a1), (.ref s2)])
  obtain ⟨T102, X102, e102, st102⟩ := getF X101 hx hZ hown (host := "") (Or.inl (hw _ (List.mem_of_getElem? (i := 69) rfl))) Via.refl e101 Gv (g := (mkF m 7 #[.val (.ref a1), .val (.int (Int32.ofNat bs.length)), .val (.ref s2)] [(.ref a1), (.ref s2)])) rfl rfl (hb hby d16_7)
  refine Go.of (fun _ hr => st102 _ hr) ?_
  show Go p e s below _ _ _ _ T102 (mkF m 10 #[.val (.ref a1), .val (.int (Int32.ofNat bs.length)), .val (.ref s2)] [(.ref v1), (.ref s2)])
  refine Go.of (fun _ hr => XS.iloadN X102.here hx rfl (hb hby d16_10) rfl  hr) ?_
  show Go p e s below _ _ _ _ T102 (mkF m 11 #[.val (.ref a1), .val (.int (Int32.ofNat bs.length)), .val (.ref s2)] [(.int (Int32.ofNat bs.length)), (.ref v1), (.ref s2)])
  refine Go.of (fun _ hr => XS.aloadN X102.here hx rfl (hb hby d16_11) rfl rfl hr) ?_
  show Go p e s below _ _ _ _ T102 (mkF m 12 #[.val (.ref a1), .val (.int (Int32.ofNat bs.length)), .val (.ref s2)] [(.ref a1), (.int (Int32.ofNat bs.length)), (.ref v1), (.ref s2)])
  obtain ⟨T103, X103, e103, st103⟩ := getF X102 hx hZ hown (host := "") (Or.inl (hw _ (List.mem_of_getElem? (i := 71) rfl))) Via.refl e102 Gc (g := (mkF m 12 #[.val (.ref a1), .val (.int (Int32.ofNat bs.length)), .val (.ref s2)] [(.ref a1), (.int (Int32.ofNat bs.length)), (.ref v1), (.ref s2)])) rfl rfl (hb hby d16_12)
  refine Go.of (fun _ hr => st103 _ hr) ?_
  show Go p e s below _ _ _ _ T103 (mkF m 15 #[.val (.ref a1), .val (.int (Int32.ofNat bs.length)), .val (.ref s2)] [(.int (0 : Int32)), (.int (Int32.ofNat bs.length)), (.ref v1), (.ref s2)])
  obtain ⟨_, b104, T104, h104, L104, e104, Cc104, X104, B104, J104, g104, hQ104, st104⟩ := own_callV Cc101 B101 J101 X103 (hw _ (List.mem_of_getElem? (i := 112) rfl)) (hw _ (List.mem_of_getElem? (i := 113) rfl)) (notFace_of_selects (args := #[]) (mvT hZ (hw _ (List.mem_of_getElem? (i := 115) rfl)))) (hw _ (List.mem_of_getElem? (i := 115) rfl)) (hw _ (List.mem_of_getElem? (i := 114) rfl)) (hw _ (List.mem_of_getElem? (i := 6) rfl)) (hw _ (List.mem_of_getElem? (i := 116) rfl)) (by decide) Es2 (rm18 l Z a0 hw [] v1 _ bs s2 t2 _ b2 zc _ h0 n0 O0 nb hb0 (Nat.le_trans hnb K0.1) fr_v1 hm_v1 W1 Es2 Fv2 Fc2 V2 hn2 hl ne2 S_C hzc) e103 (g := (mkF m 15 #[.val (.ref a1), .val (.int (Int32.ofNat bs.length)), .val (.ref s2)] [(.int (0 : Int32)), (.int (Int32.ofNat bs.length)), (.ref v1), (.ref s2)])) rfl (by rw [hml]; rfl) (argsL := [(.ref v1), (.int (Int32.ofNat bs.length)), (.int (0 : Int32))]) (rest := []) (lenOf pd14 rfl) rfl (W := 0) (by show 2 * 0 + _ ≤ _; exact Nat.le_of_eq rfl) (hb hby d16_15) (by decide) (by decide) (by decide) (by decide)
  obtain ⟨rfl, Nq104, Kq104, Wv104⟩ := hQ104
  have N104 := Fr.app N101 Nq104
  obtain ⟨hx, hZ, hown, hby, hml, hnm, hret, hlk⟩ := id Cc104
  have K104 := K0.trans Kq104 (allS (Or.inl (List.mem_of_getElem? (i := 0) rfl)) all0)
  have O104 := O0.keep Kq104 (allS (Nat.le_trans hb0 fr_v1) all0)
  refine Go.of st104 ?_
  show Go p e s below _ _ _ _ T104 (mkF m 18 #[.val (.ref a1), .val (.int (Int32.ofNat bs.length)), .val (.ref s2)] [])
  exact Go.retV X104 hx hlk B104 J104 e104 hret (hb hby d16_18) (by decide) (by decide) (fun vm_ hw_ => ⟨rfl, N104, K104, Wv104⟩)

theorem d12_0 : decode jdk_68_method_22_code 0 = .ok (.aload_n 1, 1) := by decide +kernel
theorem d12_1 : decode jdk_68_method_22_code 1 = .ok (.ifnonnull 8, 3) := by decide +kernel
theorem d12_9 : decode jdk_68_method_22_code 9 = .ok (.aload_n 1, 1) := by decide +kernel
theorem d12_10 : decode jdk_68_method_22_code 10 = .ok (.invokevirtual 32, 3) := by decide +kernel
theorem pd15 : parseMethodDescriptor "()I" = some ⟨[], some .int⟩ := by decide +kernel
theorem d12_13 : decode jdk_68_method_22_code 13 = .ok (.istore_n 2, 1) := by decide +kernel
theorem d12_14 : decode jdk_68_method_22_code 14 = .ok (.aload_n 0, 1) := by decide +kernel
theorem d12_15 : decode jdk_68_method_22_code 15 = .ok (.aload_n 0, 1) := by decide +kernel
theorem d12_16 : decode jdk_68_method_22_code 16 = .ok (.getfield 79, 3) := by decide +kernel
theorem d12_19 : decode jdk_68_method_22_code 19 = .ok (.iload_n 2, 1) := by decide +kernel
theorem d12_20 : decode jdk_68_method_22_code 20 = .ok (.iadd, 1) := by decide +kernel
theorem d12_21 : decode jdk_68_method_22_code 21 = .ok (.invokevirtual 100, 3) := by decide +kernel
theorem d12_24 : decode jdk_68_method_22_code 24 = .ok (.aload_n 0, 1) := by decide +kernel
theorem d12_25 : decode jdk_68_method_22_code 25 = .ok (.aload_n 0, 1) := by decide +kernel
theorem d12_26 : decode jdk_68_method_22_code 26 = .ok (.getfield 79, 3) := by decide +kernel
theorem d12_29 : decode jdk_68_method_22_code 29 = .ok (.aload_n 1, 1) := by decide +kernel
theorem d12_30 : decode jdk_68_method_22_code 30 = .ok (.invokevirtual 208, 3) := by decide +kernel
theorem pd16 : parseMethodDescriptor "(ILjava/lang/String;)V" = some ⟨[.int, (.object "java/lang/String")], none⟩ := by decide +kernel
theorem d12_33 : decode jdk_68_method_22_code 33 = .ok (.aload_n 0, 1) := by decide +kernel
theorem d12_34 : decode jdk_68_method_22_code 34 = .ok (.dup, 1) := by decide +kernel
theorem d12_35 : decode jdk_68_method_22_code 35 = .ok (.getfield 79, 3) := by decide +kernel
theorem d12_38 : decode jdk_68_method_22_code 38 = .ok (.iload_n 2, 1) := by decide +kernel
theorem d12_39 : decode jdk_68_method_22_code 39 = .ok (.iadd, 1) := by decide +kernel
theorem d12_40 : decode jdk_68_method_22_code 40 = .ok (.putfield 79, 3) := by decide +kernel
theorem d12_43 : decode jdk_68_method_22_code 43 = .ok (.aload_n 0, 1) := by decide +kernel
theorem d12_44 : decode jdk_68_method_22_code 44 = .ok (.areturn, 1) := by decide +kernel
set_option maxRecDepth 65536 in
set_option maxHeartbeats 40000000 in
theorem rm12 (l : Launch) (Z : State) (a0 : Array Value) (hw : ∀ d ∈ tables_1, d.before a0 Z = true) (ws : List Jvm.Cond) (a1 v1 : Addr) (kv : ClassId) (bs : List Int32) (s2 t2 : Addr) (k2 : ClassId) (b2 : List Int32) (zc : Int32) (ms : List Addr) (h0 : Heap) (n0 : Nat) (O0 : Old Z n0 h0) (nb : Nat) (hb0 : n0 ≤ nb) (hnb : nb ≤ h0.size) (fr_a1 : nb ≤ a1) (hm_a1 : a1 ∈ ms) (fr_v1 : nb ≤ v1) (hm_v1 : v1 ∈ ms) (Ea1 : Exa Z h0 a1 "java/lang/StringBuilder") (Gv : Fld Z h0 a1 "java/lang/AbstractStringBuilder" "value" "[B" (.ref v1)) (Gc : Fld Z h0 a1 "java/lang/AbstractStringBuilder" "coder" "B" (.int 0)) (Gn : Fld Z h0 a1 "java/lang/AbstractStringBuilder" "count" "I" (.int (Int32.ofNat bs.length))) (W1 : Arv Z h0 v1 kv .byte 16 (bs.map Value.int) (.int 0)) (Es2 : Exa Z h0 s2 "java/lang/String") (Fv2 : Fld Z h0 s2 "java/lang/String" "value" "[B" (.ref t2)) (Fc2 : Fld Z h0 s2 "java/lang/String" "coder" "B" (.int 0)) (V2 : Arv Z h0 t2 k2 .byte (Int32.ofNat b2.length) (b2.map Value.int) (.int 0)) (hn2 : b2.length ≤ 1000) (hl : bs.length + b2.length ≤ 16) (ne2 : t2 ≠ v1) (nea : a1 ≠ v1) (nes : s2 ≠ v1) (ne2a : t2 ≠ a1) (nesa : s2 ≠ a1) (S_C : Sta Z Z.heap "java/lang/String" "COMPACT_STRINGS" "Z" (.int zc)) (hzc : ¬ zc = 0) :
    Con l Z ms (⟨"java/lang/AbstractStringBuilder", "append", "(Ljava/lang/String;)Ljava/lang/AbstractStringBuilder;"⟩ : MethodName) jdk_68_method_22_code 3 (some (.object "java/lang/AbstractStringBuilder")) ws ({ frames := 3, cells := 0, slots := 0, locals := 69 } : Room) #[(.ref a1), (.ref s2)] h0 (fun v vm h L => v = some (.ref a1) ∧ Fr nb L ∧ Keep h0 h [a1, v1] ∧ Fld Z h a1 "java/lang/AbstractStringBuilder" "value" "[B" (.ref v1) ∧ Fld Z h a1 "java/lang/AbstractStringBuilder" "coder" "B" (.int 0) ∧ Fld Z h a1 "java/lang/AbstractStringBuilder" "count" "I" (.int (Int32.ofNat (bs ++ b2).length)) ∧ Arv Z h v1 kv .byte 16 ((bs ++ b2).map Value.int) (.int 0)) := by
  refine Con.mk (plainFor_of_name pn4) ?_
  intro p e s m below meth c s₁ Cc X0 e0 eb J0 B0 M0
  obtain ⟨hx, hZ, hown, hby, hml, hnm, hret, hlk⟩ := id Cc
  have N0 := Fr.nil nb
  have K0 := Keep.refl h0 [a1, v1]
  show Go p e s below _ _ _ _ s₁ (mkF m 0 #[.val (.ref a1), .val (.ref s2), .unset] [])
  refine Go.of (fun _ hr => XS.aloadN X0.here hx rfl (hb hby d12_0) rfl rfl hr) ?_
  show Go p e s below _ _ _ _ s₁ (mkF m 1 #[.val (.ref a1), .val (.ref s2), .unset] [(.ref s2)])
  refine Go.of (fun _ hr => XS.ifnonnullYes X0.here hx rfl (pc0 := 1) (pc' := 9) rfl (hb hby d12_1) rfl (by decide) (by decide) hr) ?_
  show Go p e s below _ _ _ _ s₁ (mkF m 9 #[.val (.ref a1), .val (.ref s2), .unset] [])
  refine Go.of (fun _ hr => XS.aloadN X0.here hx rfl (hb hby d12_9) rfl rfl hr) ?_
  show Go p e s below _ _ _ _ s₁ (mkF m 10 #[.val (.ref a1), .val (.ref s2), .unset] [(.ref s2)])
  obtain ⟨_, b101, T101, h101, L101, e101, Cc101, X101, B101, J101, g101, hQ101, st101⟩ := own_callV Cc B0 J0 X0 (hw _ (List.mem_of_getElem? (i := 83) rfl)) (hw _ (List.mem_of_getElem? (i := 84) rfl)) (notFace_of_selects (args := #[]) (mvT hZ (hw _ (List.mem_of_getElem? (i := 86) rfl)))) (hw _ (List.mem_of_getElem? (i := 86) rfl)) (hw _ (List.mem_of_getElem? (i := 85) rfl)) (hw _ (List.mem_of_getElem? (i := 6) rfl)) (hw _ (List.mem_of_getElem? (i := 87) rfl)) (by decide) Es2 (rm13 l Z a0 hw [] s2 t2 _ b2 zc _ h0 n0 O0 h0.size (own_ole O0) K0.1 Es2 Fv2 Fc2 V2 hn2 S_C hzc) e0 (g := (mkF m 10 #[.val (.ref a1), .val (.ref s2), .unset] [(.ref s2)])) rfl (by rw [hml]; rfl) (argsL := []) (rest := []) (lenOf pd15 rfl) rfl (W := 0) (by show 2 * 0 + _ ≤ _; exact Nat.le_of_eq rfl) (hb hby d12_10) (by decide) (by decide) (by decide) (by decide)
  obtain ⟨rfl, Nq101, hh101⟩ := hQ101
  have N101 := Fr.app N0 (show Fr nb _ from fun y hy => Nat.le_trans hnb (Nq101 y hy))
  have NS101 := Fr.app (Fr.nil _) Nq101
  obtain ⟨hx, hZ, hown, hby, hml, hnm, hret, hlk⟩ := id Cc101
  rw [hh101] at e101 B101 J101
  refine Go.of st101 ?_
  show Go p e s below _ _ _ _ T101 (mkF m 13 #[.val (.ref a1), .val (.ref s2), .unset] [(.int (Int32.ofNat b2.length))])
  refine Go.of (fun _ hr => XS.istoreN X101.here hx rfl (hb hby d12_13) rfl (l' := #[.val (.ref a1), .val (.ref s2), .val (.int (Int32.ofNat b2.length))]) rfl hr) ?_
  show Go p e s below _ _ _ _ T101 (mkF m 14 #[.val (.ref a1), .val (.ref s2), .val (.int (Int32.ofNat b2.length))] [])
  refine Go.of (fun _ hr => XS.aloadN X101.here hx rfl (hb hby d12_14) rfl rfl hr) ?_
  show Go p e s below _ _ _ _ T101 (mkF m 15 #[.val (.ref a1), .val (.ref s2), .val (.int (Int32.ofNat b2.length))] [(.ref a1)])
  refine Go.of (fun _ hr => XS.aloadN X101.here hx rfl (hb hby d12_15) rfl rfl hr) ?_
  show Go p e s below _ _ _ _ T101 (mkF m 16 #[.val (.ref a1), .val (.ref s2), .val (.int (Int32.ofNat b2.length))] [(.ref a1), (.ref a1)])
  obtain ⟨T102, X102, e102, st102⟩ := getF X101 hx hZ hown (host := "") (Or.inl (hw _ (List.mem_of_getElem? (i := 94) rfl))) Via.refl e101 Gn (g := (mkF m 16 #[.val (.ref a1), .val (.ref s2), .val (.int (Int32.ofNat b2.length))] [(.ref a1), (.ref a1)])) rfl rfl (hb hby d12_16)
  refine Go.of (fun _ hr => st102 _ hr) ?_
  show Go p e s below _ _ _ _ T102 (mkF m 19 #[.val (.ref a1), .val (.ref s2), .val (.int (Int32.ofNat b2.length))] [(.int (Int32.ofNat bs.length)), (.ref a1)])
  refine Go.of (fun _ hr => XS.iloadN X102.here hx rfl (hb hby d12_19) rfl  hr) ?_
  show Go p e s below _ _ _ _ T102 (mkF m 20 #[.val (.ref a1), .val (.ref s2), .val (.int (Int32.ofNat b2.length))] [(.int (Int32.ofNat b2.length)), (.int (Int32.ofNat bs.length)), (.ref a1)])
  refine Go.of (fun _ hr => XS.iadd X102.here hx rfl (hb hby d12_20) rfl hr) ?_
  show Go p e s below _ _ _ _ T102 (mkF m 21 #[.val (.ref a1), .val (.ref s2), .val (.int (Int32.ofNat b2.length))] [(.int ((Int32.ofNat bs.length) + (Int32.ofNat b2.length))), (.ref a1)])
  rw [oi_add (show bs.length + b2.length < 2147483648 by omega)]
  show Go p e s below _ _ _ _ T102 (mkF m 21 #[.val (.ref a1), .val (.ref s2), .val (.int (Int32.ofNat b2.length))] [(.int (Int32.ofNat (bs.length + b2.length))), (.ref a1)])
  obtain ⟨_, b103, T103, h103, L103, e103, Cc103, X103, B103, J103, g103, hQ103, st103⟩ := own_callV Cc101 B101 J101 X102 (hw _ (List.mem_of_getElem? (i := 96) rfl)) (own_decl (hw _ (List.mem_of_getElem? (i := 97) rfl)) (hw _ (List.mem_of_getElem? (i := 100) rfl))) (notFace_of_selects (args := #[]) (mvT hZ (hw _ (List.mem_of_getElem? (i := 99) rfl)))) (hw _ (List.mem_of_getElem? (i := 99) rfl)) (hw _ (List.mem_of_getElem? (i := 97) rfl)) (hw _ (List.mem_of_getElem? (i := 65) rfl)) (hw _ (List.mem_of_getElem? (i := 100) rfl)) (by decide) Ea1 (rm15 l Z a0 hw [] a1 v1 _ bs (bs.length + b2.length) _ h0 n0 O0 h0.size (own_ole O0) K0.1 Ea1 Gv Gc Gn W1 hl) e102 (g := (mkF m 21 #[.val (.ref a1), .val (.ref s2), .val (.int (Int32.ofNat b2.length))] [(.int (Int32.ofNat (bs.length + b2.length))), (.ref a1)])) rfl (by rw [hml]; rfl) (argsL := [(.int (Int32.ofNat (bs.length + b2.length)))]) (rest := []) (lenOf pd12 rfl) rfl (W := 0) (by show 2 * 0 + _ ≤ _; exact Nat.le_of_eq rfl) (hb hby d12_21) (by decide) (by decide) (by decide) (by decide)
  obtain ⟨rfl, Nq103, hh103⟩ := hQ103
  have N103 := Fr.app N101 (show Fr nb _ from fun y hy => Nat.le_trans hnb (Nq103 y hy))
  have NS103 := Fr.app NS101 Nq103
  obtain ⟨hx, hZ, hown, hby, hml, hnm, hret, hlk⟩ := id Cc103
  rw [hh103] at e103 B103 J103
  refine Go.of st103 ?_
  show Go p e s below _ _ _ _ T103 (mkF m 24 #[.val (.ref a1), .val (.ref s2), .val (.int (Int32.ofNat b2.length))] [])
  refine Go.of (fun _ hr => XS.aloadN X103.here hx rfl (hb hby d12_24) rfl rfl hr) ?_
  show Go p e s below _ _ _ _ T103 (mkF m 25 #[.val (.ref a1), .val (.ref s2), .val (.int (Int32.ofNat b2.length))] [(.ref a1)])
  refine Go.of (fun _ hr => XS.aloadN X103.here hx rfl (hb hby d12_25) rfl rfl hr) ?_
  show Go p e s below _ _ _ _ T103 (mkF m 26 #[.val (.ref a1), .val (.ref s2), .val (.int (Int32.ofNat b2.length))] [(.ref a1), (.ref a1)])
  obtain ⟨T104, X104, e104, st104⟩ := getF X103 hx hZ hown (host := "") (Or.inl (hw _ (List.mem_of_getElem? (i := 94) rfl))) Via.refl e103 Gn (g := (mkF m 26 #[.val (.ref a1), .val (.ref s2), .val (.int (Int32.ofNat b2.length))] [(.ref a1), (.ref a1)])) rfl rfl (hb hby d12_26)
  refine Go.of (fun _ hr => st104 _ hr) ?_
  show Go p e s below _ _ _ _ T104 (mkF m 29 #[.val (.ref a1), .val (.ref s2), .val (.int (Int32.ofNat b2.length))] [(.int (Int32.ofNat bs.length)), (.ref a1)])
  refine Go.of (fun _ hr => XS.aloadN X104.here hx rfl (hb hby d12_29) rfl rfl hr) ?_
  show Go p e s below _ _ _ _ T104 (mkF m 30 #[.val (.ref a1), .val (.ref s2), .val (.int (Int32.ofNat b2.length))] [(.ref s2), (.int (Int32.ofNat bs.length)), (.ref a1)])
  obtain ⟨_, b105, T105, h105, L105, e105, Cc105, X105, B105, J105, g105, hQ105, st105⟩ := own_callV Cc103 B103 J103 X104 (hw _ (List.mem_of_getElem? (i := 101) rfl)) (own_decl (hw _ (List.mem_of_getElem? (i := 102) rfl)) (hw _ (List.mem_of_getElem? (i := 105) rfl))) (notFace_of_selects (args := #[]) (mvT hZ (hw _ (List.mem_of_getElem? (i := 104) rfl)))) (hw _ (List.mem_of_getElem? (i := 104) rfl)) (hw _ (List.mem_of_getElem? (i := 102) rfl)) (hw _ (List.mem_of_getElem? (i := 65) rfl)) (hw _ (List.mem_of_getElem? (i := 105) rfl)) (by decide) Ea1 (rm16 l Z a0 hw [] a1 v1 _ bs s2 t2 _ b2 zc _ h0 n0 O0 nb hb0 (Nat.le_trans hnb K0.1) fr_v1 hm_v1 Ea1 Gv Gc Gn W1 Es2 Fv2 Fc2 V2 hn2 hl ne2 nea nes S_C hzc) e104 (g := (mkF m 30 #[.val (.ref a1), .val (.ref s2), .val (.int (Int32.ofNat b2.length))] [(.ref s2), (.int (Int32.ofNat bs.length)), (.ref a1)])) rfl (by rw [hml]; rfl) (argsL := [(.int (Int32.ofNat bs.length)), (.ref s2)]) (rest := []) (lenOf pd16 rfl) rfl (W := 0) (by show 2 * 0 + _ ≤ _; exact Nat.le_of_eq rfl) (hb hby d12_30) (by decide) (by decide) (by decide) (by decide)
  obtain ⟨rfl, Nq105, Kq105, Wv105⟩ := hQ105
  have N105 := Fr.app N103 Nq105
  obtain ⟨hx, hZ, hown, hby, hml, hnm, hret, hlk⟩ := id Cc105
  have K105 := K0.trans Kq105 (allS (Or.inl (List.mem_of_getElem? (i := 1) rfl)) all0)
  have O105 := O0.keep Kq105 (allS (Nat.le_trans hb0 fr_v1) all0)
  refine Go.of st105 ?_
  show Go p e s below _ _ _ _ T105 (mkF m 33 #[.val (.ref a1), .val (.ref s2), .val (.int (Int32.ofNat b2.length))] [])
  refine Go.of (fun _ hr => XS.aloadN X105.here hx rfl (hb hby d12_33) rfl rfl hr) ?_
  show Go p e s below _ _ _ _ T105 (mkF m 34 #[.val (.ref a1), .val (.ref s2), .val (.int (Int32.ofNat b2.length))] [(.ref a1)])
  refine Go.of (fun _ hr => XS.dup X105.here hx rfl (hb hby d12_34) rfl rfl hr) ?_
  show Go p e s below _ _ _ _ T105 (mkF m 35 #[.val (.ref a1), .val (.ref s2), .val (.int (Int32.ofNat b2.length))] [(.ref a1), (.ref a1)])
  have f107 := (Gn.keep Kq105 (ninS nea nin0))
  obtain ⟨T106, X106, e106, st106⟩ := getF X105 hx hZ hown (host := "") (Or.inl (hw _ (List.mem_of_getElem? (i := 94) rfl))) Via.refl e105 f107 (g := (mkF m 35 #[.val (.ref a1), .val (.ref s2), .val (.int (Int32.ofNat b2.length))] [(.ref a1), (.ref a1)])) rfl rfl (hb hby d12_35)
  refine Go.of (fun _ hr => st106 _ hr) ?_
  show Go p e s below _ _ _ _ T106 (mkF m 38 #[.val (.ref a1), .val (.ref s2), .val (.int (Int32.ofNat b2.length))] [(.int (Int32.ofNat bs.length)), (.ref a1)])
  refine Go.of (fun _ hr => XS.iloadN X106.here hx rfl (hb hby d12_38) rfl  hr) ?_
  show Go p e s below _ _ _ _ T106 (mkF m 39 #[.val (.ref a1), .val (.ref s2), .val (.int (Int32.ofNat b2.length))] [(.int (Int32.ofNat b2.length)), (.int (Int32.ofNat bs.length)), (.ref a1)])
  refine Go.of (fun _ hr => XS.iadd X106.here hx rfl (hb hby d12_39) rfl hr) ?_
  show Go p e s below _ _ _ _ T106 (mkF m 40 #[.val (.ref a1), .val (.ref s2), .val (.int (Int32.ofNat b2.length))] [(.int ((Int32.ofNat bs.length) + (Int32.ofNat b2.length))), (.ref a1)])
  rw [oi_add (show bs.length + b2.length < 2147483648 by omega), ← List.length_append]
  show Go p e s below _ _ _ _ T106 (mkF m 40 #[.val (.ref a1), .val (.ref s2), .val (.int (Int32.ofNat b2.length))] [(.int (Int32.ofNat (bs ++ b2).length)), (.ref a1)])
  have f109 := (Ea1.keep Kq105)
  obtain ⟨T108, h108, X108, e108, W108, st108⟩ := putF X106 hx hZ hown (host := "") (Or.inl (hw _ (List.mem_of_getElem? (i := 94) rfl))) Via.refl e106 f107 f109 (Or.inl (hw _ (List.mem_of_getElem? (i := 95) rfl))) (hw _ (List.mem_of_getElem? (i := 56) rfl)) (ty := .int) (by decide) rfl rfl (g := (mkF m 40 #[.val (.ref a1), .val (.ref s2), .val (.int (Int32.ofNat b2.length))] [(.int (Int32.ofNat (bs ++ b2).length)), (.ref a1)])) rfl rfl (hb hby d12_40)
  have N108 := Fr.snoc X108 N105 fr_a1
  have J108 := J105.wr W108 hm_a1
  have B108 := B105.mono (Nat.le_of_eq W108.size.symm)
  have O108 := O105.wr W108 (Nat.le_trans hb0 fr_a1)
  have K108 := K105.wr W108 (Or.inl (List.mem_of_getElem? (i := 0) rfl))
  have Fw108 := f107.same W108
  refine Go.of (fun _ hr => st108 _ hr) ?_
  show Go p e s below _ _ _ _ T108 (mkF m 43 #[.val (.ref a1), .val (.ref s2), .val (.int (Int32.ofNat b2.length))] [])
  refine Go.of (fun _ hr => XS.aloadN X108.here hx rfl (hb hby d12_43) rfl rfl hr) ?_
  show Go p e s below _ _ _ _ T108 (mkF m 44 #[.val (.ref a1), .val (.ref s2), .val (.int (Int32.ofNat b2.length))] [(.ref a1)])
  have f110 := ((Gv.keep Kq105 (ninS nea nin0)).other W108 (Or.inr (slot_ne (Or.inl (hw _ (List.mem_of_getElem? (i := 70) rfl))) (Or.inl (hw _ (List.mem_of_getElem? (i := 95) rfl))) (by decide) (t := (.array .byte)) (t' := .int) (by decide) (by decide))))
  have f111 := ((Gc.keep Kq105 (ninS nea nin0)).other W108 (Or.inr (slot_ne (Or.inl (hw _ (List.mem_of_getElem? (i := 72) rfl))) (Or.inl (hw _ (List.mem_of_getElem? (i := 95) rfl))) (by decide) (t := .byte) (t' := .int) (by decide) (by decide))))
  have f112 := (Wv105.other W108 (Ne.symm nea))
  exact Go.retA X108 hx hlk B108 J108 e108 hret rfl rfl (hb hby d12_44) (by decide) (by decide) (fun vm_ hw_ => ⟨rfl, N108, K108, f110, f111, Fw108, f112⟩)

theorem d11_0 : decode jdk_67_method_7_code 0 = .ok (.aload_n 0, 1) := by decide +kernel
theorem d11_1 : decode jdk_67_method_7_code 1 = .ok (.aload_n 1, 1) := by decide +kernel
theorem d11_2 : decode jdk_67_method_7_code 2 = .ok (.invokespecial 29, 3) := by decide +kernel
theorem pd17 : parseMethodDescriptor "(Ljava/lang/String;)Ljava/lang/AbstractStringBuilder;" = some ⟨[(.object "java/lang/String")], some (.object "java/lang/AbstractStringBuilder")⟩ := by decide +kernel
theorem d11_5 : decode jdk_67_method_7_code 5 = .ok (.pop, 1) := by decide +kernel
theorem d11_6 : decode jdk_67_method_7_code 6 = .ok (.aload_n 0, 1) := by decide +kernel
theorem d11_7 : decode jdk_67_method_7_code 7 = .ok (.areturn, 1) := by decide +kernel
set_option maxRecDepth 65536 in
set_option maxHeartbeats 40000000 in
theorem rm11 (l : Launch) (Z : State) (a0 : Array Value) (hw : ∀ d ∈ tables_1, d.before a0 Z = true) (ws : List Jvm.Cond) (a1 v1 : Addr) (kv : ClassId) (bs : List Int32) (s2 t2 : Addr) (k2 : ClassId) (b2 : List Int32) (zc : Int32) (ms : List Addr) (h0 : Heap) (n0 : Nat) (O0 : Old Z n0 h0) (nb : Nat) (hb0 : n0 ≤ nb) (hnb : nb ≤ h0.size) (fr_a1 : nb ≤ a1) (hm_a1 : a1 ∈ ms) (fr_v1 : nb ≤ v1) (hm_v1 : v1 ∈ ms) (Ea1 : Exa Z h0 a1 "java/lang/StringBuilder") (Gv : Fld Z h0 a1 "java/lang/AbstractStringBuilder" "value" "[B" (.ref v1)) (Gc : Fld Z h0 a1 "java/lang/AbstractStringBuilder" "coder" "B" (.int 0)) (Gn : Fld Z h0 a1 "java/lang/AbstractStringBuilder" "count" "I" (.int (Int32.ofNat bs.length))) (W1 : Arv Z h0 v1 kv .byte 16 (bs.map Value.int) (.int 0)) (Es2 : Exa Z h0 s2 "java/lang/String") (Fv2 : Fld Z h0 s2 "java/lang/String" "value" "[B" (.ref t2)) (Fc2 : Fld Z h0 s2 "java/lang/String" "coder" "B" (.int 0)) (V2 : Arv Z h0 t2 k2 .byte (Int32.ofNat b2.length) (b2.map Value.int) (.int 0)) (hn2 : b2.length ≤ 1000) (hl : bs.length + b2.length ≤ 16) (ne2 : t2 ≠ v1) (nea : a1 ≠ v1) (nes : s2 ≠ v1) (ne2a : t2 ≠ a1) (nesa : s2 ≠ a1) (S_C : Sta Z Z.heap "java/lang/String" "COMPACT_STRINGS" "Z" (.int zc)) (hzc : ¬ zc = 0) :
    Con l Z ms (⟨"java/lang/StringBuilder", "append", "(Ljava/lang/String;)Ljava/lang/StringBuilder;"⟩ : MethodName) jdk_67_method_7_code 2 (some (.object "java/lang/StringBuilder")) ws ({ frames := 4, cells := 0, slots := 0, locals := 83 } : Room) #[(.ref a1), (.ref s2)] h0 (fun v vm h L => v = some (.ref a1) ∧ Fr nb L ∧ Keep h0 h [a1, v1] ∧ Fld Z h a1 "java/lang/AbstractStringBuilder" "value" "[B" (.ref v1) ∧ Fld Z h a1 "java/lang/AbstractStringBuilder" "coder" "B" (.int 0) ∧ Fld Z h a1 "java/lang/AbstractStringBuilder" "count" "I" (.int (Int32.ofNat (bs ++ b2).length)) ∧ Arv Z h v1 kv .byte 16 ((bs ++ b2).map Value.int) (.int 0)) := by
  refine Con.mk (plainFor_of_name pn5) ?_
  intro p e s m below meth c s₁ Cc X0 e0 eb J0 B0 M0
  obtain ⟨hx, hZ, hown, hby, hml, hnm, hret, hlk⟩ := id Cc
  have N0 := Fr.nil nb
  have K0 := Keep.refl h0 [a1, v1]
  show Go p e s below _ _ _ _ s₁ (mkF m 0 #[.val (.ref a1), .val (.ref s2)] [])
  refine Go.of (fun _ hr => XS.aloadN X0.here hx rfl (hb hby d11_0) rfl rfl hr) ?_
  show Go p e s below _ _ _ _ s₁ (mkF m 1 #[.val (.ref a1), .val (.ref s2)] [(.ref a1)])
  refine Go.of (fun _ hr => XS.aloadN X0.here hx rfl (hb hby d11_1) rfl rfl hr) ?_
  show Go p e s below _ _ _ _ s₁ (mkF m 2 #[.val (.ref a1), .val (.ref s2)] [(.ref s2), (.ref a1)])
  obtain ⟨_, b101, T101, h101, L101, e101, Cc101, X101, B101, J101, g101, hQ101, st101⟩ := own_callP Cc B0 J0 X0 (y := (⟨"java/lang/AbstractStringBuilder", "append", "(Ljava/lang/String;)Ljava/lang/AbstractStringBuilder;"⟩ : MethodName)) (hw _ (List.mem_of_getElem? (i := 78) rfl)) (own_sm (hw _ (List.mem_of_getElem? (i := 79) rfl)) (own_nf (hw _ (List.mem_of_getElem? (i := 99) rfl)) rfl) (by decide)) (hw _ (List.mem_of_getElem? (i := 79) rfl)) (hw _ (List.mem_of_getElem? (i := 80) rfl)) (by decide) (hw _ (List.mem_of_getElem? (i := 65) rfl)) (hw _ (List.mem_of_getElem? (i := 82) rfl)) Ea1 (rm12 l Z a0 hw [] a1 v1 _ bs s2 t2 _ b2 zc _ h0 n0 O0 nb hb0 (Nat.le_trans hnb K0.1) fr_a1 hm_a1 fr_v1 hm_v1 Ea1 Gv Gc Gn W1 Es2 Fv2 Fc2 V2 hn2 hl ne2 nea nes ne2a nesa S_C hzc) e0 (g := (mkF m 2 #[.val (.ref a1), .val (.ref s2)] [(.ref s2), (.ref a1)])) rfl (by rw [hml]; rfl) (argsL := [(.ref s2)]) (rest := []) (lenOf pd17 rfl) rfl (W := 0) (by show 2 * 0 + _ ≤ _; exact Nat.le_of_eq rfl) (hb hby d11_2) (by decide) (by decide) (by decide) (by decide)
  obtain ⟨rfl, Nq101, Kq101, Gv101, Gc101, Gn101, Wv101⟩ := hQ101
  have N101 := Fr.app N0 Nq101
  obtain ⟨hx, hZ, hown, hby, hml, hnm, hret, hlk⟩ := id Cc101
  have K101 := K0.trans Kq101 (allS (Or.inl (List.mem_of_getElem? (i := 0) rfl)) (allS (Or.inl (List.mem_of_getElem? (i := 1) rfl)) all0))
  have O101 := O0.keep Kq101 (allS (Nat.le_trans hb0 fr_a1) (allS (Nat.le_trans hb0 fr_v1) all0))
  refine Go.of st101 ?_
  show Go p e s below _ _ _ _ T101 (mkF m 5 #[.val (.ref a1), .val (.ref s2)] [(.ref a1)])
  refine Go.of (fun _ hr => XS.pop X101.here hx rfl (hb hby d11_5) rfl rfl hr) ?_
  show Go p e s below _ _ _ _ T101 (mkF m 6 #[.val (.ref a1), .val (.ref s2)] [])
  refine Go.of (fun _ hr => XS.aloadN X101.here hx rfl (hb hby d11_6) rfl rfl hr) ?_
  show Go p e s below _ _ _ _ T101 (mkF m 7 #[.val (.ref a1), .val (.ref s2)] [(.ref a1)])
  exact Go.retA X101 hx hlk B101 J101 e101 hret rfl rfl (hb hby d11_7) (by decide) (by decide) (fun vm_ hw_ => ⟨rfl, N101, K101, Gv101, Gc101, Gn101, Wv101⟩)

theorem d22_0 : decode jdk_68_method_64_code 0 = .ok (.aload_n 0, 1) := by decide +kernel
theorem d22_1 : decode jdk_68_method_64_code 1 = .ok (.getfield 15, 3) := by decide +kernel
theorem d22_4 : decode jdk_68_method_64_code 4 = .ok (.areturn, 1) := by decide +kernel
set_option maxRecDepth 65536 in
set_option maxHeartbeats 40000000 in
theorem rm22 (l : Launch) (Z : State) (a0 : Array Value) (hw : ∀ d ∈ tables_1, d.before a0 Z = true) (ws : List Jvm.Cond) (a1 v1 : Addr) (kv : ClassId) (bs : List Int32) (ms : List Addr) (h0 : Heap) (n0 : Nat) (O0 : Old Z n0 h0) (nb : Nat) (hb0 : n0 ≤ nb) (hnb : nb ≤ h0.size) (Ea1 : Exa Z h0 a1 "java/lang/StringBuilder") (Gv : Fld Z h0 a1 "java/lang/AbstractStringBuilder" "value" "[B" (.ref v1)) (Gc : Fld Z h0 a1 "java/lang/AbstractStringBuilder" "coder" "B" (.int 0)) (Gn : Fld Z h0 a1 "java/lang/AbstractStringBuilder" "count" "I" (.int (Int32.ofNat bs.length))) (W1 : Arv Z h0 v1 kv .byte 16 (bs.map Value.int) (.int 0)) :
    Con l Z ms (⟨"java/lang/AbstractStringBuilder", "getValue", "()[B"⟩ : MethodName) jdk_68_method_64_code 1 (some (.array .byte)) ws ({ frames := 0, cells := 0, slots := 0, locals := 0 } : Room) #[(.ref a1)] h0 (fun v vm h L => v = some (.ref v1) ∧ Fr nb L ∧ h = h0) := by
  refine Con.mk (plainFor_of_name pn4) ?_
  intro p e s m below meth c s₁ Cc X0 e0 eb J0 B0 M0
  obtain ⟨hx, hZ, hown, hby, hml, hnm, hret, hlk⟩ := id Cc
  have N0 := Fr.nil h0.size
  have K0 := Keep.refl h0 []
  show Go p e s below _ _ _ _ s₁ (mkF m 0 #[.val (.ref a1)] [])
  refine Go.of (fun _ hr => XS.aloadN X0.here hx rfl (hb hby d22_0) rfl rfl hr) ?_
  show Go p e s below _ _ _ _ s₁ (mkF m 1 #[.val (.ref a1)] [(.ref a1)])
  obtain ⟨T101, X101, e101, st101⟩ := getF X0 hx hZ hown (host := "") (Or.inl (hw _ (List.mem_of_getElem? (i := 69) rfl))) Via.refl e0 Gv (g := (mkF m 1 #[.val (.ref a1)] [(.ref a1)])) rfl rfl (hb hby d22_1)
  refine Go.of (fun _ hr => st101 _ hr) ?_
  show Go p e s below _ _ _ _ T101 (mkF m 4 #[.val (.ref a1)] [(.ref v1)])
  exact Go.retA X101 hx hlk B0 J0 e101 hret rfl rfl (hb hby d22_4) (by decide) (by decide) (fun vm_ hw_ => ⟨rfl, (fun y hy => Nat.le_trans hnb (N0 y hy)), rfl⟩)

theorem d24_0 : decode jdk_68_method_6_code 0 = .ok (.aload_n 0, 1) := by decide +kernel
theorem d24_1 : decode jdk_68_method_6_code 1 = .ok (.getfield 79, 3) := by decide +kernel
theorem d24_4 : decode jdk_68_method_6_code 4 = .ok (.ireturn, 1) := by decide +kernel
set_option maxRecDepth 65536 in
set_option maxHeartbeats 40000000 in
theorem rm24 (l : Launch) (Z : State) (a0 : Array Value) (hw : ∀ d ∈ tables_1, d.before a0 Z = true) (ws : List Jvm.Cond) (a1 v1 : Addr) (kv : ClassId) (bs : List Int32) (ms : List Addr) (h0 : Heap) (n0 : Nat) (O0 : Old Z n0 h0) (nb : Nat) (hb0 : n0 ≤ nb) (hnb : nb ≤ h0.size) (Ea1 : Exa Z h0 a1 "java/lang/StringBuilder") (Gv : Fld Z h0 a1 "java/lang/AbstractStringBuilder" "value" "[B" (.ref v1)) (Gc : Fld Z h0 a1 "java/lang/AbstractStringBuilder" "coder" "B" (.int 0)) (Gn : Fld Z h0 a1 "java/lang/AbstractStringBuilder" "count" "I" (.int (Int32.ofNat bs.length))) (W1 : Arv Z h0 v1 kv .byte 16 (bs.map Value.int) (.int 0)) :
    Con l Z ms (⟨"java/lang/AbstractStringBuilder", "length", "()I"⟩ : MethodName) jdk_68_method_6_code 1 (some .int) ws ({ frames := 0, cells := 0, slots := 0, locals := 0 } : Room) #[(.ref a1)] h0 (fun v vm h L => v = some (.int (Int32.ofNat bs.length)) ∧ Fr nb L ∧ h = h0) := by
  refine Con.mk (plainFor_of_name pn4) ?_
  intro p e s m below meth c s₁ Cc X0 e0 eb J0 B0 M0
  obtain ⟨hx, hZ, hown, hby, hml, hnm, hret, hlk⟩ := id Cc
  have N0 := Fr.nil h0.size
  have K0 := Keep.refl h0 []
  show Go p e s below _ _ _ _ s₁ (mkF m 0 #[.val (.ref a1)] [])
  refine Go.of (fun _ hr => XS.aloadN X0.here hx rfl (hb hby d24_0) rfl rfl hr) ?_
  show Go p e s below _ _ _ _ s₁ (mkF m 1 #[.val (.ref a1)] [(.ref a1)])
  obtain ⟨T101, X101, e101, st101⟩ := getF X0 hx hZ hown (host := "") (Or.inl (hw _ (List.mem_of_getElem? (i := 94) rfl))) Via.refl e0 Gn (g := (mkF m 1 #[.val (.ref a1)] [(.ref a1)])) rfl rfl (hb hby d24_1)
  refine Go.of (fun _ hr => st101 _ hr) ?_
  show Go p e s below _ _ _ _ T101 (mkF m 4 #[.val (.ref a1)] [(.int (Int32.ofNat bs.length))])
  exact Go.retI X101 hx hlk B0 J0 e101 hret (hb hby d24_4) (by decide) (by decide) (fun vm_ hw_ => ⟨rfl, (fun y hy => Nat.le_trans hnb (N0 y hy)), rfl⟩)

theorem d23_0 : decode jdk_67_method_93_code 0 = .ok (.aload_n 0, 1) := by decide +kernel
theorem d23_1 : decode jdk_67_method_93_code 1 = .ok (.invokespecial 343, 3) := by decide +kernel
theorem d23_4 : decode jdk_67_method_93_code 4 = .ok (.ireturn, 1) := by decide +kernel
set_option maxRecDepth 65536 in
set_option maxHeartbeats 40000000 in
theorem rm23 (l : Launch) (Z : State) (a0 : Array Value) (hw : ∀ d ∈ tables_1, d.before a0 Z = true) (ws : List Jvm.Cond) (a1 v1 : Addr) (kv : ClassId) (bs : List Int32) (ms : List Addr) (h0 : Heap) (n0 : Nat) (O0 : Old Z n0 h0) (nb : Nat) (hb0 : n0 ≤ nb) (hnb : nb ≤ h0.size) (Ea1 : Exa Z h0 a1 "java/lang/StringBuilder") (Gv : Fld Z h0 a1 "java/lang/AbstractStringBuilder" "value" "[B" (.ref v1)) (Gc : Fld Z h0 a1 "java/lang/AbstractStringBuilder" "coder" "B" (.int 0)) (Gn : Fld Z h0 a1 "java/lang/AbstractStringBuilder" "count" "I" (.int (Int32.ofNat bs.length))) (W1 : Arv Z h0 v1 kv .byte 16 (bs.map Value.int) (.int 0)) :
    Con l Z ms (⟨"java/lang/StringBuilder", "length", "()I"⟩ : MethodName) jdk_67_method_93_code 1 (some .int) ws ({ frames := 1, cells := 0, slots := 0, locals := 12 } : Room) #[(.ref a1)] h0 (fun v vm h L => v = some (.int (Int32.ofNat bs.length)) ∧ Fr nb L ∧ h = h0) := by
  refine Con.mk (plainFor_of_name pn5) ?_
  intro p e s m below meth c s₁ Cc X0 e0 eb J0 B0 M0
  obtain ⟨hx, hZ, hown, hby, hml, hnm, hret, hlk⟩ := id Cc
  have N0 := Fr.nil h0.size
  have K0 := Keep.refl h0 []
  show Go p e s below _ _ _ _ s₁ (mkF m 0 #[.val (.ref a1)] [])
  refine Go.of (fun _ hr => XS.aloadN X0.here hx rfl (hb hby d23_0) rfl rfl hr) ?_
  show Go p e s below _ _ _ _ s₁ (mkF m 1 #[.val (.ref a1)] [(.ref a1)])
  obtain ⟨_, b101, T101, h101, L101, e101, Cc101, X101, B101, J101, g101, hQ101, st101⟩ := own_callP Cc B0 J0 X0 (y := (⟨"java/lang/AbstractStringBuilder", "length", "()I"⟩ : MethodName)) (hw _ (List.mem_of_getElem? (i := 145) rfl)) (own_sm (hw _ (List.mem_of_getElem? (i := 141) rfl)) (own_nf (hw _ (List.mem_of_getElem? (i := 99) rfl)) rfl) (by decide)) (hw _ (List.mem_of_getElem? (i := 141) rfl)) (hw _ (List.mem_of_getElem? (i := 80) rfl)) (by decide) (hw _ (List.mem_of_getElem? (i := 65) rfl)) (hw _ (List.mem_of_getElem? (i := 146) rfl)) Ea1 (rm24 l Z a0 hw [] a1 v1 _ bs _ h0 n0 O0 h0.size (own_ole O0) K0.1 Ea1 Gv Gc Gn W1) e0 (g := (mkF m 1 #[.val (.ref a1)] [(.ref a1)])) rfl (by rw [hml]; rfl) (argsL := []) (rest := []) (lenOf pd15 rfl) rfl (W := 0) (by show 2 * 0 + _ ≤ _; exact Nat.le_of_eq rfl) (hb hby d23_1) (by decide) (by decide) (by decide) (by decide)
  obtain ⟨rfl, Nq101, hh101⟩ := hQ101
  have N101 := Fr.app N0 Nq101
  obtain ⟨hx, hZ, hown, hby, hml, hnm, hret, hlk⟩ := id Cc101
  rw [hh101] at e101 B101 J101
  refine Go.of st101 ?_
  show Go p e s below _ _ _ _ T101 (mkF m 4 #[.val (.ref a1)] [(.int (Int32.ofNat bs.length))])
  exact Go.retI X101 hx hlk B101 J101 e101 hret (hb hby d23_4) (by decide) (by decide) (fun vm_ hw_ => ⟨rfl, (fun y hy => Nat.le_trans hnb (N101 y hy)), rfl⟩)

theorem d25_0 : decode jdk_68_method_68_code 0 = .ok (.getstatic 18, 3) := by decide +kernel
theorem d25_3 : decode jdk_68_method_68_code 3 = .ok (.ifCond .eq 14, 3) := by decide +kernel
theorem d25_6 : decode jdk_68_method_68_code 6 = .ok (.aload_n 0, 1) := by decide +kernel
theorem d25_7 : decode jdk_68_method_68_code 7 = .ok (.getfield 22, 3) := by decide +kernel
theorem d25_10 : decode jdk_68_method_68_code 10 = .ok (.ifCond .ne 7, 3) := by decide +kernel
theorem d25_13 : decode jdk_68_method_68_code 13 = .ok (.iconst 1, 1) := by decide +kernel
theorem d25_14 : decode jdk_68_method_68_code 14 = .ok (.goto 4, 3) := by decide +kernel
theorem d25_18 : decode jdk_68_method_68_code 18 = .ok (.ireturn, 1) := by decide +kernel
set_option maxRecDepth 65536 in
set_option maxHeartbeats 40000000 in
theorem rm25 (l : Launch) (Z : State) (a0 : Array Value) (hw : ∀ d ∈ tables_1, d.before a0 Z = true) (ws : List Jvm.Cond) (a1 v1 : Addr) (kv : ClassId) (bs : List Int32) (zc : Int32) (ms : List Addr) (h0 : Heap) (n0 : Nat) (O0 : Old Z n0 h0) (nb : Nat) (hb0 : n0 ≤ nb) (hnb : nb ≤ h0.size) (Ea1 : Exa Z h0 a1 "java/lang/StringBuilder") (Gv : Fld Z h0 a1 "java/lang/AbstractStringBuilder" "value" "[B" (.ref v1)) (Gc : Fld Z h0 a1 "java/lang/AbstractStringBuilder" "coder" "B" (.int 0)) (Gn : Fld Z h0 a1 "java/lang/AbstractStringBuilder" "count" "I" (.int (Int32.ofNat bs.length))) (W1 : Arv Z h0 v1 kv .byte 16 (bs.map Value.int) (.int 0)) (S_C : Sta Z Z.heap "java/lang/String" "COMPACT_STRINGS" "Z" (.int zc)) (hzc : ¬ zc = 0) :
    Con l Z ms (⟨"java/lang/AbstractStringBuilder", "isLatin1", "()Z"⟩ : MethodName) jdk_68_method_68_code 1 (some .boolean) ws ({ frames := 0, cells := 0, slots := 0, locals := 0 } : Room) #[(.ref a1)] h0 (fun v vm h L => v = some (.int 1) ∧ Fr nb L ∧ h = h0) := by
  refine Con.mk (plainFor_of_name pn4) ?_
  intro p e s m below meth c s₁ Cc X0 e0 eb J0 B0 M0
  obtain ⟨hx, hZ, hown, hby, hml, hnm, hret, hlk⟩ := id Cc
  have N0 := Fr.nil h0.size
  have K0 := Keep.refl h0 []
  show Go p e s below _ _ _ _ s₁ (mkF m 0 #[.val (.ref a1)] [])
  obtain ⟨T101, X101, e101, st101⟩ := getS2 X0 hx hZ hown (host := "") (Or.inl (hw _ (List.mem_of_getElem? (i := 68) rfl))) Via.refl e0 (S_C.ext O0.2) (g := (mkF m 0 #[.val (.ref a1)] [])) rfl (hb hby d25_0)
  refine Go.of (fun _ hr => st101 _ hr) ?_
  show Go p e s below _ _ _ _ T101 (mkF m 3 #[.val (.ref a1)] [(.int zc)])
  refine Go.of (fun _ hr => XS.ifNo X101.here hx rfl (hb hby d25_3) rfl ((if0 _ _).trans (feq hzc).1) hr) ?_
  show Go p e s below _ _ _ _ T101 (mkF m 6 #[.val (.ref a1)] [])
  refine Go.of (fun _ hr => XS.aloadN X101.here hx rfl (hb hby d25_6) rfl rfl hr) ?_
  show Go p e s below _ _ _ _ T101 (mkF m 7 #[.val (.ref a1)] [(.ref a1)])
  obtain ⟨T102, X102, e102, st102⟩ := getF X101 hx hZ hown (host := "") (Or.inl (hw _ (List.mem_of_getElem? (i := 71) rfl))) Via.refl e101 Gc (g := (mkF m 7 #[.val (.ref a1)] [(.ref a1)])) rfl rfl (hb hby d25_7)
  refine Go.of (fun _ hr => st102 _ hr) ?_
  show Go p e s below _ _ _ _ T102 (mkF m 10 #[.val (.ref a1)] [(.int (0 : Int32))])
  refine Go.of (fun _ hr => XS.ifNo X102.here hx rfl (hb hby d25_10) rfl ((if0 _ _).trans (teq (by decide : ((0 : Int32) = (0 : Int32)))).2) hr) ?_
  show Go p e s below _ _ _ _ T102 (mkF m 13 #[.val (.ref a1)] [])
  refine Go.of (fun _ hr => XS.iconst X102.here hx rfl (hb hby d25_13) hr) ?_
  show Go p e s below _ _ _ _ T102 (mkF m 14 #[.val (.ref a1)] [(.int (1 : Int32))])
  refine Go.of (fun _ hr => XS.goto X102.here hx rfl (pc0 := 14) (pc' := 18) rfl (hb hby d25_14) (by decide) (by decide) hr) ?_
  show Go p e s below _ _ _ _ T102 (mkF m 18 #[.val (.ref a1)] [(.int (1 : Int32))])
  exact Go.retN X102 hx hlk B0 J0 e102 (t := .boolean) (z' := (1 : Int32)) hret (by simp) (hb hby d25_18) rfl (by decide) (by decide) (fun vm_ hw_ => ⟨rfl, (fun y hy => Nat.le_trans hnb (N0 y hy)), rfl⟩)

theorem pn6 : plainName "java/util/Arrays" = true := by first | (simp [plainName, overriddenIn]; done) | decide +kernel
theorem d28_0 : decode jdk_65_method_131_code 0 = .ok (.iload_n 1, 1) := by decide +kernel
theorem d28_1 : decode jdk_65_method_131_code 1 = .ok (.iload_n 0, 1) := by decide +kernel
theorem d28_2 : decode jdk_65_method_131_code 2 = .ok (.if_icmp .ge 35, 3) := by decide +kernel
theorem d28_37 : decode jdk_65_method_131_code 37 = .ok (.return_, 1) := by decide +kernel
set_option maxRecDepth 65536 in
set_option maxHeartbeats 40000000 in
theorem rm28 (l : Launch) (Z : State) (a0 : Array Value) (hw : ∀ d ∈ tables_1, d.before a0 Z = true) (ws : List Jvm.Cond) (j : Nat) (ms : List Addr) (h0 : Heap) (n0 : Nat) (O0 : Old Z n0 h0) (nb : Nat) (hb0 : n0 ≤ nb) (hnb : nb ≤ h0.size) (hj : j ≤ 1000) :
    Con l Z ms (⟨"java/util/Arrays", "checkLength", "(II)V"⟩ : MethodName) jdk_65_method_131_code 2 none ws ({ frames := 0, cells := 0, slots := 0, locals := 0 } : Room) #[(.int (0 : Int32)), (.int (Int32.ofNat j))] h0 (fun v vm h L => v = none ∧ Fr nb L ∧ h = h0) := by
  refine Con.mk (plainFor_of_name pn6) ?_
  intro p e s m below meth c s₁ Cc X0 e0 eb J0 B0 M0
  obtain ⟨hx, hZ, hown, hby, hml, hnm, hret, hlk⟩ := id Cc
  have N0 := Fr.nil h0.size
  have K0 := Keep.refl h0 []
  show Go p e s below _ _ _ _ s₁ (mkF m 0 #[.val (.int (0 : Int32)), .val (.int (Int32.ofNat j))] [])
  refine Go.of (fun _ hr => XS.iloadN X0.here hx rfl (hb hby d28_0) rfl  hr) ?_
  show Go p e s below _ _ _ _ s₁ (mkF m 1 #[.val (.int (0 : Int32)), .val (.int (Int32.ofNat j))] [(.int (Int32.ofNat j))])
  refine Go.of (fun _ hr => XS.iloadN X0.here hx rfl (hb hby d28_1) rfl  hr) ?_
  show Go p e s below _ _ _ _ s₁ (mkF m 2 #[.val (.int (0 : Int32)), .val (.int (Int32.ofNat j))] [(.int (0 : Int32)), (.int (Int32.ofNat j))])
  refine Go.of (fun _ hr => XS.icmpYes X0.here hx rfl (pc0 := 2) (pc' := 37) rfl (hb hby d28_2) rfl (flt (oi_nn (by omega))).2.1 (by decide) (by decide) hr) ?_
  show Go p e s below _ _ _ _ s₁ (mkF m 37 #[.val (.int (0 : Int32)), .val (.int (Int32.ofNat j))] [])
  exact Go.retV X0 hx hlk B0 J0 e0 hret (hb hby d28_37) (by decide) (by decide) (fun vm_ hw_ => ⟨rfl, (fun y hy => Nat.le_trans hnb (N0 y hy)), rfl⟩)

theorem d29_0 : decode jdk_29_method_69_code 0 = .ok (.iload_n 0, 1) := by decide +kernel
theorem d29_1 : decode jdk_29_method_69_code 1 = .ok (.iload_n 1, 1) := by decide +kernel
theorem d29_2 : decode jdk_29_method_69_code 2 = .ok (.if_icmp .gt 7, 3) := by decide +kernel
theorem d29_9 : decode jdk_29_method_69_code 9 = .ok (.iload_n 1, 1) := by decide +kernel
theorem d29_10 : decode jdk_29_method_69_code 10 = .ok (.ireturn, 1) := by decide +kernel
set_option maxRecDepth 65536 in
set_option maxHeartbeats 40000000 in
theorem rm29 (l : Launch) (Z : State) (a0 : Array Value) (hw : ∀ d ∈ tables_1, d.before a0 Z = true) (ws : List Jvm.Cond) (j : Nat) (ms : List Addr) (h0 : Heap) (n0 : Nat) (O0 : Old Z n0 h0) (nb : Nat) (hb0 : n0 ≤ nb) (hnb : nb ≤ h0.size) (hj : j < 16) :
    Con l Z ms (⟨"java/lang/Math", "min", "(II)I"⟩ : MethodName) jdk_29_method_69_code 2 (some .int) ws ({ frames := 0, cells := 0, slots := 0, locals := 0 } : Room) #[(.int (16 : Int32)), (.int (Int32.ofNat j))] h0 (fun v vm h L => v = some (.int (Int32.ofNat j)) ∧ Fr nb L ∧ h = h0) := by
  refine Con.mk (by decide +kernel) ?_
  intro p e s m below meth c s₁ Cc X0 e0 eb J0 B0 M0
  obtain ⟨hx, hZ, hown, hby, hml, hnm, hret, hlk⟩ := id Cc
  have N0 := Fr.nil h0.size
  have K0 := Keep.refl h0 []
  show Go p e s below _ _ _ _ s₁ (mkF m 0 #[.val (.int (16 : Int32)), .val (.int (Int32.ofNat j))] [])
  refine Go.of (fun _ hr => XS.iloadN X0.here hx rfl (hb hby d29_0) rfl  hr) ?_
  show Go p e s below _ _ _ _ s₁ (mkF m 1 #[.val (.int (16 : Int32)), .val (.int (Int32.ofNat j))] [(.int (16 : Int32))])
  refine Go.of (fun _ hr => XS.iloadN X0.here hx rfl (hb hby d29_1) rfl  hr) ?_
  show Go p e s below _ _ _ _ s₁ (mkF m 2 #[.val (.int (16 : Int32)), .val (.int (Int32.ofNat j))] [(.int (Int32.ofNat j)), (.int (16 : Int32))])
  refine Go.of (fun _ hr => XS.icmpYes X0.here hx rfl (pc0 := 2) (pc' := 9) rfl (hb hby d29_2) rfl (tlt (own_lt16 hj)).2.2.1 (by decide) (by decide) hr) ?_
  show Go p e s below _ _ _ _ s₁ (mkF m 9 #[.val (.int (16 : Int32)), .val (.int (Int32.ofNat j))] [])
  refine Go.of (fun _ hr => XS.iloadN X0.here hx rfl (hb hby d29_9) rfl  hr) ?_
  show Go p e s below _ _ _ _ s₁ (mkF m 10 #[.val (.int (16 : Int32)), .val (.int (Int32.ofNat j))] [(.int (Int32.ofNat j))])
  exact Go.retI X0 hx hlk B0 J0 e0 hret (hb hby d29_10) (by decide) (by decide) (fun vm_ hw_ => ⟨rfl, (fun y hy => Nat.le_trans hnb (N0 y hy)), rfl⟩)

theorem d27_0 : decode jdk_65_method_133_code 0 = .ok (.iload_n 1, 1) := by decide +kernel
theorem d27_1 : decode jdk_65_method_133_code 1 = .ok (.iload_n 2, 1) := by decide +kernel
theorem d27_2 : decode jdk_65_method_133_code 2 = .ok (.invokestatic 343, 3) := by decide +kernel
theorem d27_5 : decode jdk_65_method_133_code 5 = .ok (.iload_n 2, 1) := by decide +kernel
theorem d27_6 : decode jdk_65_method_133_code 6 = .ok (.iload_n 1, 1) := by decide +kernel
theorem d27_7 : decode jdk_65_method_133_code 7 = .ok (.isub, 1) := by decide +kernel
theorem d27_8 : decode jdk_65_method_133_code 8 = .ok (.istore_n 3, 1) := by decide +kernel
theorem d27_9 : decode jdk_65_method_133_code 9 = .ok (.iload_n 3, 1) := by decide +kernel
theorem d27_10 : decode jdk_65_method_133_code 10 = .ok (.newarray .byte, 2) := by decide +kernel
theorem d27_12 : decode jdk_65_method_133_code 12 = .ok (.astore 4, 2) := by decide +kernel
theorem d27_14 : decode jdk_65_method_133_code 14 = .ok (.aload_n 0, 1) := by decide +kernel
theorem d27_15 : decode jdk_65_method_133_code 15 = .ok (.iload_n 1, 1) := by decide +kernel
theorem d27_16 : decode jdk_65_method_133_code 16 = .ok (.aload 4, 2) := by decide +kernel
theorem d27_18 : decode jdk_65_method_133_code 18 = .ok (.iconst 0, 1) := by decide +kernel
theorem d27_19 : decode jdk_65_method_133_code 19 = .ok (.aload_n 0, 1) := by decide +kernel
theorem d27_20 : decode jdk_65_method_133_code 20 = .ok (.arraylength, 1) := by decide +kernel
theorem d27_21 : decode jdk_65_method_133_code 21 = .ok (.iload_n 1, 1) := by decide +kernel
theorem d27_22 : decode jdk_65_method_133_code 22 = .ok (.isub, 1) := by decide +kernel
theorem d27_23 : decode jdk_65_method_133_code 23 = .ok (.iload_n 3, 1) := by decide +kernel
theorem d27_24 : decode jdk_65_method_133_code 24 = .ok (.invokestatic 304, 3) := by decide +kernel
theorem pd18 : parseMethodDescriptor "(II)I" = some ⟨[.int, .int], some .int⟩ := by decide +kernel
theorem d27_27 : decode jdk_65_method_133_code 27 = .ok (.invokestatic 150, 3) := by decide +kernel
theorem d27_30 : decode jdk_65_method_133_code 30 = .ok (.aload 4, 2) := by decide +kernel
theorem d27_32 : decode jdk_65_method_133_code 32 = .ok (.areturn, 1) := by decide +kernel
set_option maxRecDepth 65536 in
set_option maxHeartbeats 40000000 in
theorem rm27 (l : Launch) (Z : State) (a0 : Array Value) (hw : ∀ d ∈ tables_1, d.before a0 Z = true) (ws : List Jvm.Cond) (v1 : Addr) (kv : ClassId) (bs : List Int32) (ms : List Addr) (h0 : Heap) (n0 : Nat) (O0 : Old Z n0 h0) (nb : Nat) (hb0 : n0 ≤ nb) (hnb : nb ≤ h0.size) (W1 : Arv Z h0 v1 kv .byte 16 (bs.map Value.int) (.int 0)) (hj : bs.length < 16) :
    Con l Z ms (⟨"java/util/Arrays", "copyOfRangeByte", "([BII)[B"⟩ : MethodName) jdk_65_method_133_code 5 (some (.array .byte)) ws ({ frames := 1, cells := 1, slots := 16, locals := 40 } : Room) #[(.ref v1), (.int (0 : Int32)), (.int (Int32.ofNat bs.length))] h0 (fun v vm h L => ∃ r k, v = some (.ref r) ∧ Fr nb L ∧ Ext h0 h ∧ h0.size ≤ r ∧ Arv Z h r k .byte (Int32.ofNat bs.length) (bs.map Value.int) (.int 0)) := by
  refine Con.mk (plainFor_of_name pn6) ?_
  intro p e s m below meth c s₁ Cc X0 e0 eb J0 B0 M0
  obtain ⟨hx, hZ, hown, hby, hml, hnm, hret, hlk⟩ := id Cc
  have N0 := Fr.nil h0.size
  have K0 := Keep.refl h0 []
  show Go p e s below _ _ _ _ s₁ (mkF m 0 #[.val (.ref v1), .val (.int (0 : Int32)), .val (.int (Int32.ofNat bs.length)), .unset, .unset] [])
  refine Go.of (fun _ hr => XS.iloadN X0.here hx rfl (hb hby d27_0) rfl  hr) ?_
  show Go p e s below _ _ _ _ s₁ (mkF m 1 #[.val (.ref v1), .val (.int (0 : Int32)), .val (.int (Int32.ofNat bs.length)), .unset, .unset] [(.int (0 : Int32))])
  refine Go.of (fun _ hr => XS.iloadN X0.here hx rfl (hb hby d27_1) rfl  hr) ?_
  show Go p e s below _ _ _ _ s₁ (mkF m 2 #[.val (.ref v1), .val (.int (0 : Int32)), .val (.int (Int32.ofNat bs.length)), .unset, .unset] [(.int (Int32.ofNat bs.length)), (.int (0 : Int32))])
  obtain ⟨_, b101, T101, h101, L101, e101, Cc101, X101, B101, J101, g101, hQ101, st101⟩ := own_callS Cc B0 J0 X0 (hw _ (List.mem_of_getElem? (i := 159) rfl)) (hw _ (List.mem_of_getElem? (i := 160) rfl)) (hw _ (List.mem_of_getElem? (i := 154) rfl)) (hw _ (List.mem_of_getElem? (i := 161) rfl)) (by decide) (rm28 l Z a0 hw [] bs.length _ h0 n0 O0 h0.size (own_ole O0) K0.1 (by omega)) e0 (g := (mkF m 2 #[.val (.ref v1), .val (.int (0 : Int32)), .val (.int (Int32.ofNat bs.length)), .unset, .unset] [(.int (Int32.ofNat bs.length)), (.int (0 : Int32))])) rfl (by rw [hml]; rfl) (argsL := [(.int (0 : Int32)), (.int (Int32.ofNat bs.length))]) (rest := []) (lenOf pd9 rfl) rfl (W := 0) (by show 2 * 0 + _ ≤ _; exact Nat.le_of_eq rfl) (hb hby d27_2) (by decide) (by decide) (by decide) (by decide)
  obtain ⟨rfl, Nq101, hh101⟩ := hQ101
  have N101 := Fr.app N0 Nq101
  obtain ⟨hx, hZ, hown, hby, hml, hnm, hret, hlk⟩ := id Cc101
  rw [hh101] at e101 B101 J101
  refine Go.of st101 ?_
  show Go p e s below _ _ _ _ T101 (mkF m 5 #[.val (.ref v1), .val (.int (0 : Int32)), .val (.int (Int32.ofNat bs.length)), .unset, .unset] [])
  refine Go.of (fun _ hr => XS.iloadN X101.here hx rfl (hb hby d27_5) rfl  hr) ?_
  show Go p e s below _ _ _ _ T101 (mkF m 6 #[.val (.ref v1), .val (.int (0 : Int32)), .val (.int (Int32.ofNat bs.length)), .unset, .unset] [(.int (Int32.ofNat bs.length))])
  refine Go.of (fun _ hr => XS.iloadN X101.here hx rfl (hb hby d27_6) rfl  hr) ?_
  show Go p e s below _ _ _ _ T101 (mkF m 7 #[.val (.ref v1), .val (.int (0 : Int32)), .val (.int (Int32.ofNat bs.length)), .unset, .unset] [(.int (0 : Int32)), (.int (Int32.ofNat bs.length))])
  refine Go.of (fun _ hr => XS.isub X101.here hx rfl (hb hby d27_7) rfl hr) ?_
  show Go p e s below _ _ _ _ T101 (mkF m 8 #[.val (.ref v1), .val (.int (0 : Int32)), .val (.int (Int32.ofNat bs.length)), .unset, .unset] [(.int ((Int32.ofNat bs.length) - (0 : Int32)))])
  rw [Int32.sub_zero]
  show Go p e s below _ _ _ _ T101 (mkF m 8 #[.val (.ref v1), .val (.int (0 : Int32)), .val (.int (Int32.ofNat bs.length)), .unset, .unset] [(.int (Int32.ofNat bs.length))])
  refine Go.of (fun _ hr => XS.istoreN X101.here hx rfl (hb hby d27_8) rfl (l' := #[.val (.ref v1), .val (.int (0 : Int32)), .val (.int (Int32.ofNat bs.length)), .val (.int (Int32.ofNat bs.length)), .unset]) rfl hr) ?_
  show Go p e s below _ _ _ _ T101 (mkF m 9 #[.val (.ref v1), .val (.int (0 : Int32)), .val (.int (Int32.ofNat bs.length)), .val (.int (Int32.ofNat bs.length)), .unset] [])
  refine Go.of (fun _ hr => XS.iloadN X101.here hx rfl (hb hby d27_9) rfl  hr) ?_
  show Go p e s below _ _ _ _ T101 (mkF m 10 #[.val (.ref v1), .val (.int (0 : Int32)), .val (.int (Int32.ofNat bs.length)), .val (.int (Int32.ofNat bs.length)), .unset] [(.int (Int32.ofNat bs.length))])
  obtain ⟨T102, h102, k102, X102, e102, E102, A102, st102⟩ := newP X101 hx hZ (hw _ (List.mem_of_getElem? (i := 19) rfl)) e101 (g := (mkF m 10 #[.val (.ref v1), .val (.int (0 : Int32)), .val (.int (Int32.ofNat bs.length)), .val (.int (Int32.ofNat bs.length)), .unset] [(.int (Int32.ofNat bs.length))])) rfl (hb hby d27_10) rfl (oi_nn (by omega)) (cap := 16) (by rw [oi_nat (by omega)]; omega) (by decide) (by decide) (by decide)
  obtain ⟨o102, g102⟩ : ∃ z, z = h0.size := ⟨_, rfl⟩
  rw [← g102] at A102 st102
  have ne_v1_o102 : v1 ≠ o102 := Nat.ne_of_lt (Nat.lt_of_lt_of_le W1.lt (Nat.le_of_eq g102.symm))
  have V102 := Arv.new A102 (oi_nn (by omega))
  have lt102 : o102 < h102.size := A102.lt
  have J102 := J101.add E102 g102 lt102
  have B102 := B101.mono E102.1
  have O102 := O0.ext E102
  have sz102 : h0.size ≤ o102 := Nat.le_trans K0.1 (Nat.le_of_eq g102.symm)
  have fr102 : h0.size ≤ o102 := sz102
  have K102 := K0.ext E102
  refine Go.of (fun _ hr => st102 _ hr) ?_
  show Go p e s below _ _ _ _ T102 (mkF m 12 #[.val (.ref v1), .val (.int (0 : Int32)), .val (.int (Int32.ofNat bs.length)), .val (.int (Int32.ofNat bs.length)), .unset] [(.ref o102)])
  refine Go.of (fun _ hr => XS.astore X102.here hx rfl (hb hby d27_12) rfl rfl (l' := #[.val (.ref v1), .val (.int (0 : Int32)), .val (.int (Int32.ofNat bs.length)), .val (.int (Int32.ofNat bs.length)), .val (.ref o102)]) rfl hr) ?_
  show Go p e s below _ _ _ _ T102 (mkF m 14 #[.val (.ref v1), .val (.int (0 : Int32)), .val (.int (Int32.ofNat bs.length)), .val (.int (Int32.ofNat bs.length)), .val (.ref o102)] [])
  refine Go.of (fun _ hr => XS.aloadN X102.here hx rfl (hb hby d27_14) rfl rfl hr) ?_
  show Go p e s below _ _ _ _ T102 (mkF m 15 #[.val (.ref v1), .val (.int (0 : Int32)), .val (.int (Int32.ofNat bs.length)), .val (.int (Int32.ofNat bs.length)), .val (.ref o102)] [(.ref v1)])
  refine Go.of (fun _ hr => XS.iloadN X102.here hx rfl (hb hby d27_15) rfl  hr) ?_
  show Go p e s below _ _ _ _ T102 (mkF m 16 #[.val (.ref v1), .val (.int (0 : Int32)), .val (.int (Int32.ofNat bs.length)), .val (.int (Int32.ofNat bs.length)), .val (.ref o102)] [(.int (0 : Int32)), (.ref v1)])
  refine Go.of (fun _ hr => XS.aload X102.here hx rfl (hb hby d27_16) rfl rfl hr) ?_
  show Go p e s below _ _ _ _ T102 (mkF m 18 #[.val (.ref v1), .val (.int (0 : Int32)), .val (.int (Int32.ofNat bs.length)), .val (.int (Int32.ofNat bs.length)), .val (.ref o102)] [(.ref o102), (.int (0 : Int32)), (.ref v1)])
  refine Go.of (fun _ hr => XS.iconst X102.here hx rfl (hb hby d27_18) hr) ?_
  show Go p e s below _ _ _ _ T102 (mkF m 19 #[.val (.ref v1), .val (.int (0 : Int32)), .val (.int (Int32.ofNat bs.length)), .val (.int (Int32.ofNat bs.length)), .val (.ref o102)] [(.int (0 : Int32)), (.ref o102), (.int (0 : Int32)), (.ref v1)])
  refine Go.of (fun _ hr => XS.aloadN X102.here hx rfl (hb hby d27_19) rfl rfl hr) ?_
  show Go p e s below _ _ _ _ T102 (mkF m 20 #[.val (.ref v1), .val (.int (0 : Int32)), .val (.int (Int32.ofNat bs.length)), .val (.int (Int32.ofNat bs.length)), .val (.ref o102)] [(.ref v1), (.int (0 : Int32)), (.ref o102), (.int (0 : Int32)), (.ref v1)])
  have f104 := (W1.ext E102)
  obtain ⟨cl103, Ar103, q103, S103, N103_, H103, G103⟩ := id f104
  refine Go.of (fun _ hr => X102.arraylength hx (by rw [e102]; exact Ar103.1) (State.isArrayOf_alike hZ.alike Ar103.2.1) (g := (mkF m 20 #[.val (.ref v1), .val (.int (0 : Int32)), .val (.int (Int32.ofNat bs.length)), .val (.int (Int32.ofNat bs.length)), .val (.ref o102)] [(.ref v1), (.int (0 : Int32)), (.ref o102), (.int (0 : Int32)), (.ref v1)])) rfl rfl (hb hby d27_20) _ hr) ?_
  rw [len_of S103 N103_]
  show Go p e s below _ _ _ _ T102 (mkF m 21 #[.val (.ref v1), .val (.int (0 : Int32)), .val (.int (Int32.ofNat bs.length)), .val (.int (Int32.ofNat bs.length)), .val (.ref o102)] [(.int (16 : Int32)), (.int (0 : Int32)), (.ref o102), (.int (0 : Int32)), (.ref v1)])
  refine Go.of (fun _ hr => XS.iloadN X102.here hx rfl (hb hby d27_21) rfl  hr) ?_
  show Go p e s below _ _ _ _ T102 (mkF m 22 #[.val (.ref v1), .val (.int (0 : Int32)), .val (.int (Int32.ofNat bs.length)), .val (.int (Int32.ofNat bs.length)), .val (.ref o102)] [(.int (0 : Int32)), (.int (16 : Int32)), (.int (0 : Int32)), (.ref o102), (.int (0 : Int32)), (.ref v1)])
  refine Go.of (fun _ hr => XS.isub X102.here hx rfl (hb hby d27_22) rfl hr) ?_
  show Go p e s below _ _ _ _ T102 (mkF m 23 #[.val (.ref v1), .val (.int (0 : Int32)), .val (.int (Int32.ofNat bs.length)), .val (.int (Int32.ofNat bs.length)), .val (.ref o102)] [(.int (16 : Int32)), (.int (0 : Int32)), (.ref o102), (.int (0 : Int32)), (.ref v1)])
  refine Go.of (fun _ hr => XS.iloadN X102.here hx rfl (hb hby d27_23) rfl  hr) ?_
  show Go p e s below _ _ _ _ T102 (mkF m 24 #[.val (.ref v1), .val (.int (0 : Int32)), .val (.int (Int32.ofNat bs.length)), .val (.int (Int32.ofNat bs.length)), .val (.ref o102)] [(.int (Int32.ofNat bs.length)), (.int (16 : Int32)), (.int (0 : Int32)), (.ref o102), (.int (0 : Int32)), (.ref v1)])
  obtain ⟨_, b105, T105, h105, L105, e105, Cc105, X105, B105, J105, g105, hQ105, st105⟩ := own_callS Cc101 B102 J102 X102 (hw _ (List.mem_of_getElem? (i := 162) rfl)) (hw _ (List.mem_of_getElem? (i := 163) rfl)) (hw _ (List.mem_of_getElem? (i := 164) rfl)) (hw _ (List.mem_of_getElem? (i := 165) rfl)) (by decide) (rm29 l Z a0 hw [] bs.length _ h102 n0 O102 h0.size (own_ole O0) K102.1 hj) e102 (g := (mkF m 24 #[.val (.ref v1), .val (.int (0 : Int32)), .val (.int (Int32.ofNat bs.length)), .val (.int (Int32.ofNat bs.length)), .val (.ref o102)] [(.int (Int32.ofNat bs.length)), (.int (16 : Int32)), (.int (0 : Int32)), (.ref o102), (.int (0 : Int32)), (.ref v1)])) rfl (by rw [hml]; rfl) (argsL := [(.int (16 : Int32)), (.int (Int32.ofNat bs.length))]) (rest := [(.int (0 : Int32)), (.ref o102), (.int (0 : Int32)), (.ref v1)]) (lenOf pd18 rfl) rfl (W := 4) (by show 2 * 0 + _ ≤ _; exact Nat.le_of_eq rfl) (hb hby d27_24) (by decide) (by decide) (by decide) (by decide)
  obtain ⟨rfl, Nq105, hh105⟩ := hQ105
  have N105 := Fr.app N101 Nq105
  obtain ⟨hx, hZ, hown, hby, hml, hnm, hret, hlk⟩ := id Cc105
  rw [hh105] at e105 B105 J105
  refine Go.of st105 ?_
  show Go p e s below _ _ _ _ T105 (mkF m 27 #[.val (.ref v1), .val (.int (0 : Int32)), .val (.int (Int32.ofNat bs.length)), .val (.int (Int32.ofNat bs.length)), .val (.ref o102)] [(.int (Int32.ofNat bs.length)), (.int (0 : Int32)), (.ref o102), (.int (0 : Int32)), (.ref v1)])
  obtain ⟨T106, h106, L106, X106, e106, N106, Kq106, V106, st106⟩ := cpA X105 hx hZ hown (hw _ (List.mem_of_getElem? (i := 166) rfl)) (hw _ (List.mem_of_getElem? (i := 120) rfl)) (hw _ (List.mem_of_getElem? (i := 118) rfl)) (hw _ (List.mem_of_getElem? (i := 119) rfl)) e105 f104 (V102.pad (pad_rep _ _ bs.length)) (us := bs.map Value.int) (Or.inl ⟨rfl, rfl⟩) (by decide) (by decide) (oi_nn (by omega)) (cp4 (by omega) (by show _ ≤ 16; omega)) (cp4 (by omega) (by rw [oi_nat (by omega)]; exact Nat.le_refl _)) (cpu bs (by omega)) (cpl [] bs (by decide) (by omega)) N105 fr102 (g := (mkF m 27 #[.val (.ref v1), .val (.int (0 : Int32)), .val (.int (Int32.ofNat bs.length)), .val (.int (Int32.ofNat bs.length)), .val (.ref o102)] [(.int (Int32.ofNat bs.length)), (.int (0 : Int32)), (.ref o102), (.int (0 : Int32)), (.ref v1)])) rfl (by rw [hml]; rfl) rfl (hb hby d27_27) (by decide) (W := 0) (by show 2 * 0 + _ ≤ _; exact Nat.le_of_eq rfl) (by decide)
  have K106 := K102.trans Kq106 (allS (Or.inr sz102) all0)
  have O106 := O102.keep Kq106 (allS (Nat.le_trans (own_ole O0) fr102) all0)
  have B106 := B105.mono Kq106.1
  have J106 := Hd.keep J105 Kq106 (allS (List.mem_cons_self ..) all0)
  have Vc106 : Arv Z h106 o102 k102 .byte (Int32.ofNat bs.length) (bs.map Value.int) (.int (0 : Int32)) := by have q := V106; exact cp_res [] bs (by decide) (by omega) ▸ q
  refine Go.of (fun _ hr => st106 _ hr) ?_
  show Go p e s below _ _ _ _ T106 (mkF m 30 #[.val (.ref v1), .val (.int (0 : Int32)), .val (.int (Int32.ofNat bs.length)), .val (.int (Int32.ofNat bs.length)), .val (.ref o102)] [])
  refine Go.of (fun _ hr => XS.aload X106.here hx rfl (hb hby d27_30) rfl rfl hr) ?_
  show Go p e s below _ _ _ _ T106 (mkF m 32 #[.val (.ref v1), .val (.int (0 : Int32)), .val (.int (Int32.ofNat bs.length)), .val (.int (Int32.ofNat bs.length)), .val (.ref o102)] [(.ref o102)])
  exact Go.retA X106 hx hlk B106 (J106.sub fun x hx => (List.mem_cons_of_mem _ hx)) e106 hret rfl rfl (hb hby d27_32) (by decide) (by decide) (fun vm_ hw_ => ⟨_, _, rfl, (fun y hy => Nat.le_trans hnb (N106 y hy)), keep_ext K106, sz102, Vc106⟩)

theorem d26_0 : decode jdk_65_method_132_code 0 = .ok (.iload_n 1, 1) := by decide +kernel
theorem d26_1 : decode jdk_65_method_132_code 1 = .ok (.ifCond .ne 9, 3) := by decide +kernel
theorem d26_4 : decode jdk_65_method_132_code 4 = .ok (.iload_n 2, 1) := by decide +kernel
theorem d26_5 : decode jdk_65_method_132_code 5 = .ok (.aload_n 0, 1) := by decide +kernel
theorem d26_6 : decode jdk_65_method_132_code 6 = .ok (.arraylength, 1) := by decide +kernel
theorem d26_7 : decode jdk_65_method_132_code 7 = .ok (.if_icmp .eq 10, 3) := by decide +kernel
theorem d26_10 : decode jdk_65_method_132_code 10 = .ok (.aload_n 0, 1) := by decide +kernel
theorem d26_11 : decode jdk_65_method_132_code 11 = .ok (.iload_n 1, 1) := by decide +kernel
theorem d26_12 : decode jdk_65_method_132_code 12 = .ok (.iload_n 2, 1) := by decide +kernel
theorem d26_13 : decode jdk_65_method_132_code 13 = .ok (.invokestatic 339, 3) := by decide +kernel
theorem pd19 : parseMethodDescriptor "([BII)[B" = some ⟨[(.array .byte), .int, .int], some (.array .byte)⟩ := by decide +kernel
theorem d26_16 : decode jdk_65_method_132_code 16 = .ok (.areturn, 1) := by decide +kernel
set_option maxRecDepth 65536 in
set_option maxHeartbeats 40000000 in
theorem rm26 (l : Launch) (Z : State) (a0 : Array Value) (hw : ∀ d ∈ tables_1, d.before a0 Z = true) (ws : List Jvm.Cond) (v1 : Addr) (kv : ClassId) (bs : List Int32) (ms : List Addr) (h0 : Heap) (n0 : Nat) (O0 : Old Z n0 h0) (nb : Nat) (hb0 : n0 ≤ nb) (hnb : nb ≤ h0.size) (W1 : Arv Z h0 v1 kv .byte 16 (bs.map Value.int) (.int 0)) (hj : bs.length < 16) :
    Con l Z ms (⟨"java/util/Arrays", "copyOfRange", "([BII)[B"⟩ : MethodName) jdk_65_method_132_code 3 (some (.array .byte)) ws ({ frames := 2, cells := 1, slots := 16, locals := 56 } : Room) #[(.ref v1), (.int (0 : Int32)), (.int (Int32.ofNat bs.length))] h0 (fun v vm h L => ∃ r k, v = some (.ref r) ∧ Fr nb L ∧ Ext h0 h ∧ h0.size ≤ r ∧ Arv Z h r k .byte (Int32.ofNat bs.length) (bs.map Value.int) (.int 0)) := by
  refine Con.mk (plainFor_of_name pn6) ?_
  intro p e s m below meth c s₁ Cc X0 e0 eb J0 B0 M0
  obtain ⟨hx, hZ, hown, hby, hml, hnm, hret, hlk⟩ := id Cc
  have N0 := Fr.nil h0.size
  have K0 := Keep.refl h0 []
  show Go p e s below _ _ _ _ s₁ (mkF m 0 #[.val (.ref v1), .val (.int (0 : Int32)), .val (.int (Int32.ofNat bs.length))] [])
  refine Go.of (fun _ hr => XS.iloadN X0.here hx rfl (hb hby d26_0) rfl  hr) ?_
  show Go p e s below _ _ _ _ s₁ (mkF m 1 #[.val (.ref v1), .val (.int (0 : Int32)), .val (.int (Int32.ofNat bs.length))] [(.int (0 : Int32))])
  refine Go.of (fun _ hr => XS.ifNo X0.here hx rfl (hb hby d26_1) rfl ((if0 _ _).trans (teq (by decide : ((0 : Int32) = (0 : Int32)))).2) hr) ?_
  show Go p e s below _ _ _ _ s₁ (mkF m 4 #[.val (.ref v1), .val (.int (0 : Int32)), .val (.int (Int32.ofNat bs.length))] [])
  refine Go.of (fun _ hr => XS.iloadN X0.here hx rfl (hb hby d26_4) rfl  hr) ?_
  show Go p e s below _ _ _ _ s₁ (mkF m 5 #[.val (.ref v1), .val (.int (0 : Int32)), .val (.int (Int32.ofNat bs.length))] [(.int (Int32.ofNat bs.length))])
  refine Go.of (fun _ hr => XS.aloadN X0.here hx rfl (hb hby d26_5) rfl rfl hr) ?_
  show Go p e s below _ _ _ _ s₁ (mkF m 6 #[.val (.ref v1), .val (.int (0 : Int32)), .val (.int (Int32.ofNat bs.length))] [(.ref v1), (.int (Int32.ofNat bs.length))])
  obtain ⟨cl101, Ar101, q101, S101, N101_, H101, G101⟩ := id W1
  refine Go.of (fun _ hr => X0.arraylength hx (by rw [e0]; exact Ar101.1) (State.isArrayOf_alike hZ.alike Ar101.2.1) (g := (mkF m 6 #[.val (.ref v1), .val (.int (0 : Int32)), .val (.int (Int32.ofNat bs.length))] [(.ref v1), (.int (Int32.ofNat bs.length))])) rfl rfl (hb hby d26_6) _ hr) ?_
  rw [len_of S101 N101_]
  show Go p e s below _ _ _ _ s₁ (mkF m 7 #[.val (.ref v1), .val (.int (0 : Int32)), .val (.int (Int32.ofNat bs.length))] [(.int (16 : Int32)), (.int (Int32.ofNat bs.length))])
  refine Go.of (fun _ hr => XS.icmpNo X0.here hx rfl (hb hby d26_7) rfl (feq (own_ne16 hj)).1 hr) ?_
  show Go p e s below _ _ _ _ s₁ (mkF m 10 #[.val (.ref v1), .val (.int (0 : Int32)), .val (.int (Int32.ofNat bs.length))] [])
  refine Go.of (fun _ hr => XS.aloadN X0.here hx rfl (hb hby d26_10) rfl rfl hr) ?_
  show Go p e s below _ _ _ _ s₁ (mkF m 11 #[.val (.ref v1), .val (.int (0 : Int32)), .val (.int (Int32.ofNat bs.length))] [(.ref v1)])
  refine Go.of (fun _ hr => XS.iloadN X0.here hx rfl (hb hby d26_11) rfl  hr) ?_
  show Go p e s below _ _ _ _ s₁ (mkF m 12 #[.val (.ref v1), .val (.int (0 : Int32)), .val (.int (Int32.ofNat bs.length))] [(.int (0 : Int32)), (.ref v1)])
  refine Go.of (fun _ hr => XS.iloadN X0.here hx rfl (hb hby d26_12) rfl  hr) ?_
  show Go p e s below _ _ _ _ s₁ (mkF m 13 #[.val (.ref v1), .val (.int (0 : Int32)), .val (.int (Int32.ofNat bs.length))] [(.int (Int32.ofNat bs.length)), (.int (0 : Int32)), (.ref v1)])
  obtain ⟨_, b102, T102, h102, L102, e102, Cc102, X102, B102, J102, g102, hQ102, st102⟩ := own_callS Cc B0 J0 X0 (hw _ (List.mem_of_getElem? (i := 156) rfl)) (hw _ (List.mem_of_getElem? (i := 157) rfl)) (hw _ (List.mem_of_getElem? (i := 154) rfl)) (hw _ (List.mem_of_getElem? (i := 158) rfl)) (by decide) (rm27 l Z a0 hw [] v1 _ bs _ h0 n0 O0 h0.size (own_ole O0) K0.1 W1 hj) e0 (g := (mkF m 13 #[.val (.ref v1), .val (.int (0 : Int32)), .val (.int (Int32.ofNat bs.length))] [(.int (Int32.ofNat bs.length)), (.int (0 : Int32)), (.ref v1)])) rfl (by rw [hml]; rfl) (argsL := [(.ref v1), (.int (0 : Int32)), (.int (Int32.ofNat bs.length))]) (rest := []) (lenOf pd19 rfl) rfl (W := 0) (by show 2 * 0 + _ ≤ _; exact Nat.le_of_eq rfl) (hb hby d26_13) (by decide) (by decide) (by decide) (by decide)
  obtain ⟨r102, kr102, rfl, Nq102, Eq102, R_r102, Vr102⟩ := hQ102
  have N102 := Fr.app N0 Nq102
  obtain ⟨hx, hZ, hown, hby, hml, hnm, hret, hlk⟩ := id Cc102
  have sz_r102 : h0.size ≤ r102 := Nat.le_trans K0.1 R_r102
  have fr_r102 : h0.size ≤ r102 := sz_r102
  have ne_v1_r102 : v1 ≠ r102 := Nat.ne_of_lt (Nat.lt_of_lt_of_le W1.lt R_r102)
  have K102 := K0.ext Eq102
  have O102 := O0.ext Eq102
  refine Go.of st102 ?_
  show Go p e s below _ _ _ _ T102 (mkF m 16 #[.val (.ref v1), .val (.int (0 : Int32)), .val (.int (Int32.ofNat bs.length))] [(.ref r102)])
  exact Go.retA X102 hx hlk B102 J102 e102 hret rfl rfl (hb hby d26_16) (by decide) (by decide) (fun vm_ hw_ => ⟨_, _, rfl, (fun y hy => Nat.le_trans hnb (N102 y hy)), keep_ext K102, sz_r102, Vr102⟩)

theorem d21_0 : decode jdk_42_method_150_code 0 = .ok (.aload_n 0, 1) := by decide +kernel
theorem d21_1 : decode jdk_42_method_150_code 1 = .ok (.invokespecial 1, 3) := by decide +kernel
theorem d21_4 : decode jdk_42_method_150_code 4 = .ok (.aload_n 1, 1) := by decide +kernel
theorem d21_5 : decode jdk_42_method_150_code 5 = .ok (.invokevirtual 552, 3) := by decide +kernel
theorem pd20 : parseMethodDescriptor "()[B" = some ⟨[], some (.array .byte)⟩ := by decide +kernel
theorem d21_8 : decode jdk_42_method_150_code 8 = .ok (.astore_n 3, 1) := by decide +kernel
theorem d21_9 : decode jdk_42_method_150_code 9 = .ok (.aload_n 1, 1) := by decide +kernel
theorem d21_10 : decode jdk_42_method_150_code 10 = .ok (.invokevirtual 549, 3) := by decide +kernel
theorem d21_13 : decode jdk_42_method_150_code 13 = .ok (.istore 4, 2) := by decide +kernel
theorem d21_15 : decode jdk_42_method_150_code 15 = .ok (.aload_n 1, 1) := by decide +kernel
theorem d21_16 : decode jdk_42_method_150_code 16 = .ok (.invokevirtual 1047, 3) := by decide +kernel
theorem d21_19 : decode jdk_42_method_150_code 19 = .ok (.ifCond .eq 22, 3) := by decide +kernel
theorem d21_22 : decode jdk_42_method_150_code 22 = .ok (.aload_n 0, 1) := by decide +kernel
theorem d21_23 : decode jdk_42_method_150_code 23 = .ok (.iconst 0, 1) := by decide +kernel
theorem d21_24 : decode jdk_42_method_150_code 24 = .ok (.putfield 15, 3) := by decide +kernel
theorem d21_27 : decode jdk_42_method_150_code 27 = .ok (.aload_n 0, 1) := by decide +kernel
theorem d21_28 : decode jdk_42_method_150_code 28 = .ok (.aload_n 3, 1) := by decide +kernel
theorem d21_29 : decode jdk_42_method_150_code 29 = .ok (.iconst 0, 1) := by decide +kernel
theorem d21_30 : decode jdk_42_method_150_code 30 = .ok (.iload 4, 2) := by decide +kernel
theorem d21_32 : decode jdk_42_method_150_code 32 = .ok (.invokestatic 54, 3) := by decide +kernel
theorem d21_35 : decode jdk_42_method_150_code 35 = .ok (.putfield 9, 3) := by decide +kernel
theorem d21_38 : decode jdk_42_method_150_code 38 = .ok (.goto 59, 3) := by decide +kernel
theorem d21_97 : decode jdk_42_method_150_code 97 = .ok (.return_, 1) := by decide +kernel
set_option maxRecDepth 65536 in
set_option maxHeartbeats 40000000 in
theorem rm21 (l : Launch) (Z : State) (a0 : Array Value) (hw : ∀ d ∈ tables_1, d.before a0 Z = true) (ws : List Jvm.Cond) (x1 : Addr) (u1 u2 : Value) (a1 v1 : Addr) (kv : ClassId) (bs : List Int32) (zc : Int32) (ms : List Addr) (h0 : Heap) (n0 : Nat) (O0 : Old Z n0 h0) (nb : Nat) (hb0 : n0 ≤ nb) (hnb : nb ≤ h0.size) (fr_x1 : nb ≤ x1) (hm_x1 : x1 ∈ ms) (Ea1 : Exa Z h0 a1 "java/lang/StringBuilder") (Gv : Fld Z h0 a1 "java/lang/AbstractStringBuilder" "value" "[B" (.ref v1)) (Gc : Fld Z h0 a1 "java/lang/AbstractStringBuilder" "coder" "B" (.int 0)) (Gn : Fld Z h0 a1 "java/lang/AbstractStringBuilder" "count" "I" (.int (Int32.ofNat bs.length))) (W1 : Arv Z h0 v1 kv .byte 16 (bs.map Value.int) (.int 0)) (E1 : Exa Z h0 x1 "java/lang/String") (F1 : Fld Z h0 x1 "java/lang/String" "value" "[B" u1) (F2 : Fld Z h0 x1 "java/lang/String" "coder" "B" u2) (hj : bs.length < 16) (nex : a1 ≠ x1) (nev : v1 ≠ x1) (S_C : Sta Z Z.heap "java/lang/String" "COMPACT_STRINGS" "Z" (.int zc)) (hzc : ¬ zc = 0) :
    Con l Z ms (⟨"java/lang/String", "<init>", "(Ljava/lang/AbstractStringBuilder;Ljava/lang/Void;)V"⟩ : MethodName) jdk_42_method_150_code 5 none ws ({ frames := 3, cells := 1, slots := 16, locals := 71 } : Room) #[(.ref x1), (.ref a1), .null] h0 (fun v vm h L => v = none ∧ Fr nb L ∧ Keep h0 h [x1] ∧ ∃ t k, h0.size ≤ t ∧ Fld Z h x1 "java/lang/String" "value" "[B" (.ref t) ∧ Fld Z h x1 "java/lang/String" "coder" "B" (.int 0) ∧ Arv Z h t k .byte (Int32.ofNat bs.length) (bs.map Value.int) (.int 0)) := by
  refine Con.mk (plainFor_of_name pn1) ?_
  intro p e s m below meth c s₁ Cc X0 e0 eb J0 B0 M0
  obtain ⟨hx, hZ, hown, hby, hml, hnm, hret, hlk⟩ := id Cc
  have N0 := Fr.nil nb
  have K0 := Keep.refl h0 [x1]
  show Go p e s below _ _ _ _ s₁ (mkF m 0 #[.val (.ref x1), .val (.ref a1), .val .null, .unset, .unset] [])
  refine Go.of (fun _ hr => XS.aloadN X0.here hx rfl (hb hby d21_0) rfl rfl hr) ?_
  show Go p e s below _ _ _ _ s₁ (mkF m 1 #[.val (.ref x1), .val (.ref a1), .val .null, .unset, .unset] [(.ref x1)])
  obtain ⟨T101, X101, e101, st101⟩ := initO X0 hx hZ hown (hw _ (List.mem_of_getElem? (i := 15) rfl)) (hw _ (List.mem_of_getElem? (i := 16) rfl)) (hw _ (List.mem_of_getElem? (i := 17) rfl)) e0 (g := (mkF m 1 #[.val (.ref x1), .val (.ref a1), .val .null, .unset, .unset] [(.ref x1)])) rfl (by rw [hml]; rfl) rfl (hb hby d21_1) (by decide) (W := 0) (by show 2 * 0 + _ ≤ _; exact Nat.le_of_eq rfl) (by decide)
  refine Go.of (fun _ hr => st101 _ hr) ?_
  show Go p e s below _ _ _ _ T101 (mkF m 4 #[.val (.ref x1), .val (.ref a1), .val .null, .unset, .unset] [])
  refine Go.of (fun _ hr => XS.aloadN X101.here hx rfl (hb hby d21_4) rfl rfl hr) ?_
  show Go p e s below _ _ _ _ T101 (mkF m 5 #[.val (.ref x1), .val (.ref a1), .val .null, .unset, .unset] [(.ref a1)])
  obtain ⟨_, b102, T102, h102, L102, e102, Cc102, X102, B102, J102, g102, hQ102, st102⟩ := own_callV Cc B0 J0 X101 (hw _ (List.mem_of_getElem? (i := 134) rfl)) (hw _ (List.mem_of_getElem? (i := 135) rfl)) (notFace_of_selects (args := #[]) (mvT hZ (hw _ (List.mem_of_getElem? (i := 137) rfl)))) (hw _ (List.mem_of_getElem? (i := 137) rfl)) (hw _ (List.mem_of_getElem? (i := 136) rfl)) (hw _ (List.mem_of_getElem? (i := 65) rfl)) (hw _ (List.mem_of_getElem? (i := 138) rfl)) (by decide) Ea1 (rm22 l Z a0 hw [] a1 v1 _ bs _ h0 n0 O0 h0.size (own_ole O0) K0.1 Ea1 Gv Gc Gn W1) e101 (g := (mkF m 5 #[.val (.ref x1), .val (.ref a1), .val .null, .unset, .unset] [(.ref a1)])) rfl (by rw [hml]; rfl) (argsL := []) (rest := []) (lenOf pd20 rfl) rfl (W := 0) (by show 2 * 0 + _ ≤ _; exact Nat.le_of_eq rfl) (hb hby d21_5) (by decide) (by decide) (by decide) (by decide)
  obtain ⟨rfl, Nq102, hh102⟩ := hQ102
  have N102 := Fr.app N0 (show Fr nb _ from fun y hy => Nat.le_trans hnb (Nq102 y hy))
  have NS102 := Fr.app (Fr.nil _) Nq102
  obtain ⟨hx, hZ, hown, hby, hml, hnm, hret, hlk⟩ := id Cc102
  rw [hh102] at e102 B102 J102
  refine Go.of st102 ?_
  show Go p e s below _ _ _ _ T102 (mkF m 8 #[.val (.ref x1), .val (.ref a1), .val .null, .unset, .unset] [(.ref v1)])
  refine Go.of (fun _ hr => XS.astoreN X102.here hx rfl (hb hby d21_8) rfl rfl (l' := #[.val (.ref x1), .val (.ref a1), .val .null, .val (.ref v1), .unset]) rfl hr) ?_
  show Go p e s below _ _ _ _ T102 (mkF m 9 #[.val (.ref x1), .val (.ref a1), .val .null, .val (.ref v1), .unset] [])
  refine Go.of (fun _ hr => XS.aloadN X102.here hx rfl (hb hby d21_9) rfl rfl hr) ?_
  show Go p e s below _ _ _ _ T102 (mkF m 10 #[.val (.ref x1), .val (.ref a1), .val .null, .val (.ref v1), .unset] [(.ref a1)])
  obtain ⟨_, b103, T103, h103, L103, e103, Cc103, X103, B103, J103, g103, hQ103, st103⟩ := own_callV Cc102 B102 J102 X102 (hw _ (List.mem_of_getElem? (i := 139) rfl)) (hw _ (List.mem_of_getElem? (i := 140) rfl)) (own_nf (args := #[]) (mvT hZ (hw _ (List.mem_of_getElem? (i := 99) rfl))) rfl) (hw _ (List.mem_of_getElem? (i := 142) rfl)) (hw _ (List.mem_of_getElem? (i := 143) rfl)) (hw _ (List.mem_of_getElem? (i := 57) rfl)) (hw _ (List.mem_of_getElem? (i := 144) rfl)) (by decide) Ea1 (rm23 l Z a0 hw [] a1 v1 _ bs _ h0 n0 O0 h0.size (own_ole O0) K0.1 Ea1 Gv Gc Gn W1) e102 (g := (mkF m 10 #[.val (.ref x1), .val (.ref a1), .val .null, .val (.ref v1), .unset] [(.ref a1)])) rfl (by rw [hml]; rfl) (argsL := []) (rest := []) (lenOf pd15 rfl) rfl (W := 0) (by show 2 * 0 + _ ≤ _; exact Nat.le_of_eq rfl) (hb hby d21_10) (by decide) (by decide) (by decide) (by decide)
  obtain ⟨rfl, Nq103, hh103⟩ := hQ103
  have N103 := Fr.app N102 (show Fr nb _ from fun y hy => Nat.le_trans hnb (Nq103 y hy))
  have NS103 := Fr.app NS102 Nq103
  obtain ⟨hx, hZ, hown, hby, hml, hnm, hret, hlk⟩ := id Cc103
  rw [hh103] at e103 B103 J103
  refine Go.of st103 ?_
  show Go p e s below _ _ _ _ T103 (mkF m 13 #[.val (.ref x1), .val (.ref a1), .val .null, .val (.ref v1), .unset] [(.int (Int32.ofNat bs.length))])
  refine Go.of (fun _ hr => XS.istore X103.here hx rfl (hb hby d21_13) rfl (l' := #[.val (.ref x1), .val (.ref a1), .val .null, .val (.ref v1), .val (.int (Int32.ofNat bs.length))]) rfl hr) ?_
  show Go p e s below _ _ _ _ T103 (mkF m 15 #[.val (.ref x1), .val (.ref a1), .val .null, .val (.ref v1), .val (.int (Int32.ofNat bs.length))] [])
  refine Go.of (fun _ hr => XS.aloadN X103.here hx rfl (hb hby d21_15) rfl rfl hr) ?_
  show Go p e s below _ _ _ _ T103 (mkF m 16 #[.val (.ref x1), .val (.ref a1), .val .null, .val (.ref v1), .val (.int (Int32.ofNat bs.length))] [(.ref a1)])
  obtain ⟨_, b104, T104, h104, L104, e104, Cc104, X104, B104, J104, g104, hQ104, st104⟩ := own_callV Cc103 B103 J103 X103 (hw _ (List.mem_of_getElem? (i := 147) rfl)) (hw _ (List.mem_of_getElem? (i := 148) rfl)) (notFace_of_selects (args := #[]) (mvT hZ (hw _ (List.mem_of_getElem? (i := 150) rfl)))) (hw _ (List.mem_of_getElem? (i := 150) rfl)) (hw _ (List.mem_of_getElem? (i := 149) rfl)) (hw _ (List.mem_of_getElem? (i := 65) rfl)) (hw _ (List.mem_of_getElem? (i := 151) rfl)) (by decide) Ea1 (rm25 l Z a0 hw [] a1 v1 _ bs zc _ h0 n0 O0 h0.size (own_ole O0) K0.1 Ea1 Gv Gc Gn W1 S_C hzc) e103 (g := (mkF m 16 #[.val (.ref x1), .val (.ref a1), .val .null, .val (.ref v1), .val (.int (Int32.ofNat bs.length))] [(.ref a1)])) rfl (by rw [hml]; rfl) (argsL := []) (rest := []) (lenOf pd10 rfl) rfl (W := 0) (by show 2 * 0 + _ ≤ _; exact Nat.le_of_eq rfl) (hb hby d21_16) (by decide) (by decide) (by decide) (by decide)
  obtain ⟨rfl, Nq104, hh104⟩ := hQ104
  have N104 := Fr.app N103 (show Fr nb _ from fun y hy => Nat.le_trans hnb (Nq104 y hy))
  have NS104 := Fr.app NS103 Nq104
  obtain ⟨hx, hZ, hown, hby, hml, hnm, hret, hlk⟩ := id Cc104
  rw [hh104] at e104 B104 J104
  refine Go.of st104 ?_
  show Go p e s below _ _ _ _ T104 (mkF m 19 #[.val (.ref x1), .val (.ref a1), .val .null, .val (.ref v1), .val (.int (Int32.ofNat bs.length))] [(.int (1 : Int32))])
  refine Go.of (fun _ hr => XS.ifNo X104.here hx rfl (hb hby d21_19) rfl ((if0 _ _).trans (feq (by decide : ¬ ((1 : Int32) = (0 : Int32)))).1) hr) ?_
  show Go p e s below _ _ _ _ T104 (mkF m 22 #[.val (.ref x1), .val (.ref a1), .val .null, .val (.ref v1), .val (.int (Int32.ofNat bs.length))] [])
  refine Go.of (fun _ hr => XS.aloadN X104.here hx rfl (hb hby d21_22) rfl rfl hr) ?_
  show Go p e s below _ _ _ _ T104 (mkF m 23 #[.val (.ref x1), .val (.ref a1), .val .null, .val (.ref v1), .val (.int (Int32.ofNat bs.length))] [(.ref x1)])
  refine Go.of (fun _ hr => XS.iconst X104.here hx rfl (hb hby d21_23) hr) ?_
  show Go p e s below _ _ _ _ T104 (mkF m 24 #[.val (.ref x1), .val (.ref a1), .val .null, .val (.ref v1), .val (.int (Int32.ofNat bs.length))] [(.int (0 : Int32)), (.ref x1)])
  obtain ⟨T105, h105, X105, e105, W105, st105⟩ := putFN X104 hx hZ hown (hw _ (List.mem_of_getElem? (i := 25) rfl)) Via.refl e104 F2 E1 (Or.inr ⟨(hw _ (List.mem_of_getElem? (i := 21) rfl)), rfl, hnm⟩) (hw _ (List.mem_of_getElem? (i := 5) rfl)) (ty := .byte) (v := (.int (0 : Int32))) (v' := (.int (0 : Int32))) (by decide) rfl rfl (g := (mkF m 24 #[.val (.ref x1), .val (.ref a1), .val .null, .val (.ref v1), .val (.int (Int32.ofNat bs.length))] [(.int (0 : Int32)), (.ref x1)])) rfl rfl (hb hby d21_24)
  have N105 := Fr.snoc X105 N104 fr_x1
  have J105 := J104.wr W105 hm_x1
  have B105 := B104.mono (Nat.le_of_eq W105.size.symm)
  have O105 := O0.wr W105 (Nat.le_trans hb0 fr_x1)
  have K105 := K0.wr W105 (Or.inl (List.mem_of_getElem? (i := 0) rfl))
  have Fw105 := F2.same W105
  refine Go.of (fun _ hr => st105 _ hr) ?_
  show Go p e s below _ _ _ _ T105 (mkF m 27 #[.val (.ref x1), .val (.ref a1), .val .null, .val (.ref v1), .val (.int (Int32.ofNat bs.length))] [])
  refine Go.of (fun _ hr => XS.aloadN X105.here hx rfl (hb hby d21_27) rfl rfl hr) ?_
  show Go p e s below _ _ _ _ T105 (mkF m 28 #[.val (.ref x1), .val (.ref a1), .val .null, .val (.ref v1), .val (.int (Int32.ofNat bs.length))] [(.ref x1)])
  refine Go.of (fun _ hr => XS.aloadN X105.here hx rfl (hb hby d21_28) rfl rfl hr) ?_
  show Go p e s below _ _ _ _ T105 (mkF m 29 #[.val (.ref x1), .val (.ref a1), .val .null, .val (.ref v1), .val (.int (Int32.ofNat bs.length))] [(.ref v1), (.ref x1)])
  refine Go.of (fun _ hr => XS.iconst X105.here hx rfl (hb hby d21_29) hr) ?_
  show Go p e s below _ _ _ _ T105 (mkF m 30 #[.val (.ref x1), .val (.ref a1), .val .null, .val (.ref v1), .val (.int (Int32.ofNat bs.length))] [(.int (0 : Int32)), (.ref v1), (.ref x1)])
  refine Go.of (fun _ hr => XS.iload X105.here hx rfl (hb hby d21_30) rfl  hr) ?_
  show Go p e s below _ _ _ _ T105 (mkF m 32 #[.val (.ref x1), .val (.ref a1), .val .null, .val (.ref v1), .val (.int (Int32.ofNat bs.length))] [(.int (Int32.ofNat bs.length)), (.int (0 : Int32)), (.ref v1), (.ref x1)])
  have f107 := (W1.other W105 nev)
  obtain ⟨_, b106, T106, h106, L106, e106, Cc106, X106, B106, J106, g106, hQ106, st106⟩ := own_callS Cc104 B105 J105 X105 (hw _ (List.mem_of_getElem? (i := 152) rfl)) (hw _ (List.mem_of_getElem? (i := 153) rfl)) (hw _ (List.mem_of_getElem? (i := 154) rfl)) (hw _ (List.mem_of_getElem? (i := 155) rfl)) (by decide) (rm26 l Z a0 hw [] v1 _ bs _ h105 n0 O105 h0.size (own_ole O0) K105.1 f107 hj) e105 (g := (mkF m 32 #[.val (.ref x1), .val (.ref a1), .val .null, .val (.ref v1), .val (.int (Int32.ofNat bs.length))] [(.int (Int32.ofNat bs.length)), (.int (0 : Int32)), (.ref v1), (.ref x1)])) rfl (by rw [hml]; rfl) (argsL := [(.ref v1), (.int (0 : Int32)), (.int (Int32.ofNat bs.length))]) (rest := [(.ref x1)]) (lenOf pd19 rfl) rfl (W := 1) (by show 2 * 0 + _ ≤ _; exact Nat.le_of_eq rfl) (hb hby d21_32) (by decide) (by decide) (by decide) (by decide)
  have f108 := (Ea1.wr W105)
  have f109 := (E1.wr W105)
  obtain ⟨r106, kr106, rfl, Nq106, Eq106, R_r106, Vr106⟩ := hQ106
  have N106 := Fr.app N105 (show Fr nb _ from fun y hy => Nat.le_trans hnb (Nq106 y hy))
  obtain ⟨hx, hZ, hown, hby, hml, hnm, hret, hlk⟩ := id Cc106
  have sz_r106 : h0.size ≤ r106 := Nat.le_trans K105.1 R_r106
  have fr_r106 : nb ≤ r106 := Nat.le_trans hnb sz_r106
  have ne_a1_r106 : a1 ≠ r106 := Nat.ne_of_lt (Nat.lt_of_lt_of_le f108.lt R_r106)
  have ne_v1_r106 : v1 ≠ r106 := Nat.ne_of_lt (Nat.lt_of_lt_of_le f107.lt R_r106)
  have ne_x1_r106 : x1 ≠ r106 := Nat.ne_of_lt (Nat.lt_of_lt_of_le f109.lt R_r106)
  have K106 := K105.ext Eq106
  have O106 := O105.ext Eq106
  refine Go.of st106 ?_
  show Go p e s below _ _ _ _ T106 (mkF m 35 #[.val (.ref x1), .val (.ref a1), .val .null, .val (.ref v1), .val (.int (Int32.ofNat bs.length))] [(.ref r106), (.ref x1)])
  have f111 := ((F1.other W105 (Or.inr (slot_ne (Or.inr (hw _ (List.mem_of_getElem? (i := 20) rfl))) (Or.inr (hw _ (List.mem_of_getElem? (i := 21) rfl))) (by decide) (t := (.array .byte)) (t' := .byte) (by decide) (by decide)))).ext Eq106)
  have f112 := (f109.ext Eq106)
  obtain ⟨T110, h110, X110, e110, W110, st110⟩ := putF X106 hx hZ hown (host := "") (Or.inl (hw _ (List.mem_of_getElem? (i := 24) rfl))) Via.refl e106 f111 f112 (Or.inr ⟨(hw _ (List.mem_of_getElem? (i := 20) rfl)), rfl, hnm⟩) (hw _ (List.mem_of_getElem? (i := 5) rfl)) (ty := (.array .byte)) (by decide) rfl rfl (g := (mkF m 35 #[.val (.ref x1), .val (.ref a1), .val .null, .val (.ref v1), .val (.int (Int32.ofNat bs.length))] [(.ref r106), (.ref x1)])) rfl rfl (hb hby d21_35)
  have N110 := Fr.snoc X110 N106 fr_x1
  have J110 := J106.wr W110 hm_x1
  have B110 := B106.mono (Nat.le_of_eq W110.size.symm)
  have O110 := O106.wr W110 (Nat.le_trans hb0 fr_x1)
  have K110 := K106.wr W110 (Or.inl (List.mem_of_getElem? (i := 0) rfl))
  have Fw110 := f111.same W110
  refine Go.of (fun _ hr => st110 _ hr) ?_
  show Go p e s below _ _ _ _ T110 (mkF m 38 #[.val (.ref x1), .val (.ref a1), .val .null, .val (.ref v1), .val (.int (Int32.ofNat bs.length))] [])
  refine Go.of (fun _ hr => XS.goto X110.here hx rfl (pc0 := 38) (pc' := 97) rfl (hb hby d21_38) (by decide) (by decide) hr) ?_
  show Go p e s below _ _ _ _ T110 (mkF m 97 #[.val (.ref x1), .val (.ref a1), .val .null, .val (.ref v1), .val (.int (Int32.ofNat bs.length))] [])
  have f113 := ((Fw105.ext Eq106).other W110 (Or.inr (slot_ne (Or.inr (hw _ (List.mem_of_getElem? (i := 21) rfl))) (Or.inr (hw _ (List.mem_of_getElem? (i := 20) rfl))) (by decide) (t := .byte) (t' := (.array .byte)) (by decide) (by decide))))
  have f114 := (Vr106.other W110 (Ne.symm ne_x1_r106))
  exact Go.retV X110 hx hlk B110 J110 e110 hret (hb hby d21_97) (by decide) (by decide) (fun vm_ hw_ => ⟨rfl, N110, K110, _, _, sz_r106, Fw110, f113, f114⟩)

theorem d20_0 : decode jdk_42_method_53_code 0 = .ok (.aload_n 0, 1) := by decide +kernel
theorem d20_1 : decode jdk_42_method_53_code 1 = .ok (.aload_n 1, 1) := by decide +kernel
theorem d20_2 : decode jdk_42_method_53_code 2 = .ok (.aconst_null, 1) := by decide +kernel
theorem d20_3 : decode jdk_42_method_53_code 3 = .ok (.invokespecial 489, 3) := by decide +kernel
theorem pd21 : parseMethodDescriptor "(Ljava/lang/AbstractStringBuilder;Ljava/lang/Void;)V" = some ⟨[(.object "java/lang/AbstractStringBuilder"), (.object "java/lang/Void")], none⟩ := by decide +kernel
theorem d20_6 : decode jdk_42_method_53_code 6 = .ok (.return_, 1) := by decide +kernel
set_option maxRecDepth 65536 in
set_option maxHeartbeats 40000000 in
theorem rm20 (l : Launch) (Z : State) (a0 : Array Value) (hw : ∀ d ∈ tables_1, d.before a0 Z = true) (ws : List Jvm.Cond) (x1 : Addr) (u1 u2 : Value) (a1 v1 : Addr) (kv : ClassId) (bs : List Int32) (zc : Int32) (ms : List Addr) (h0 : Heap) (n0 : Nat) (O0 : Old Z n0 h0) (nb : Nat) (hb0 : n0 ≤ nb) (hnb : nb ≤ h0.size) (fr_x1 : nb ≤ x1) (hm_x1 : x1 ∈ ms) (Ea1 : Exa Z h0 a1 "java/lang/StringBuilder") (Gv : Fld Z h0 a1 "java/lang/AbstractStringBuilder" "value" "[B" (.ref v1)) (Gc : Fld Z h0 a1 "java/lang/AbstractStringBuilder" "coder" "B" (.int 0)) (Gn : Fld Z h0 a1 "java/lang/AbstractStringBuilder" "count" "I" (.int (Int32.ofNat bs.length))) (W1 : Arv Z h0 v1 kv .byte 16 (bs.map Value.int) (.int 0)) (E1 : Exa Z h0 x1 "java/lang/String") (F1 : Fld Z h0 x1 "java/lang/String" "value" "[B" u1) (F2 : Fld Z h0 x1 "java/lang/String" "coder" "B" u2) (hj : bs.length < 16) (nex : a1 ≠ x1) (nev : v1 ≠ x1) (S_C : Sta Z Z.heap "java/lang/String" "COMPACT_STRINGS" "Z" (.int zc)) (hzc : ¬ zc = 0) :
    Con l Z ms (⟨"java/lang/String", "<init>", "(Ljava/lang/StringBuilder;)V"⟩ : MethodName) jdk_42_method_53_code 2 none ws ({ frames := 4, cells := 1, slots := 16, locals := 87 } : Room) #[(.ref x1), (.ref a1)] h0 (fun v vm h L => v = none ∧ Fr nb L ∧ Keep h0 h [x1] ∧ ∃ t k, h0.size ≤ t ∧ Fld Z h x1 "java/lang/String" "value" "[B" (.ref t) ∧ Fld Z h x1 "java/lang/String" "coder" "B" (.int 0) ∧ Arv Z h t k .byte (Int32.ofNat bs.length) (bs.map Value.int) (.int 0)) := by
  refine Con.mk (plainFor_of_name pn1) ?_
  intro p e s m below meth c s₁ Cc X0 e0 eb J0 B0 M0
  obtain ⟨hx, hZ, hown, hby, hml, hnm, hret, hlk⟩ := id Cc
  have N0 := Fr.nil nb
  have K0 := Keep.refl h0 [x1]
  show Go p e s below _ _ _ _ s₁ (mkF m 0 #[.val (.ref x1), .val (.ref a1)] [])
  refine Go.of (fun _ hr => XS.aloadN X0.here hx rfl (hb hby d20_0) rfl rfl hr) ?_
  show Go p e s below _ _ _ _ s₁ (mkF m 1 #[.val (.ref x1), .val (.ref a1)] [(.ref x1)])
  refine Go.of (fun _ hr => XS.aloadN X0.here hx rfl (hb hby d20_1) rfl rfl hr) ?_
  show Go p e s below _ _ _ _ s₁ (mkF m 2 #[.val (.ref x1), .val (.ref a1)] [(.ref a1), (.ref x1)])
  refine Go.of (fun _ hr => XS.aconstNull X0.here hx rfl (hb hby d20_2) hr) ?_
  show Go p e s below _ _ _ _ s₁ (mkF m 3 #[.val (.ref x1), .val (.ref a1)] [.null, (.ref a1), (.ref x1)])
  obtain ⟨_, b101, T101, h101, L101, e101, Cc101, X101, B101, J101, g101, hQ101, st101⟩ := own_callI Cc B0 J0 X0 rfl (hw _ (List.mem_of_getElem? (i := 131) rfl)) (hw _ (List.mem_of_getElem? (i := 132) rfl)) (hw _ (List.mem_of_getElem? (i := 6) rfl)) (hw _ (List.mem_of_getElem? (i := 133) rfl)) (by decide) (rm21 l Z a0 hw [] x1 _ _ a1 v1 _ bs zc _ h0 n0 O0 nb hb0 (Nat.le_trans hnb K0.1) fr_x1 hm_x1 Ea1 Gv Gc Gn W1 E1 F1 F2 hj nex nev S_C hzc) e0 (g := (mkF m 3 #[.val (.ref x1), .val (.ref a1)] [.null, (.ref a1), (.ref x1)])) rfl (by rw [hml]; rfl) (argsL := [(.ref a1), .null]) (rest := []) (lenOf pd21 rfl) rfl (W := 0) (by show 2 * 0 + _ ≤ _; exact Nat.le_of_eq rfl) (hb hby d20_3) (by decide) (by decide) (by decide) (by decide)
  obtain ⟨rfl, Nq101, Kq101, t101, kt101, R_t101, Fv101, Fc101, Vt101⟩ := hQ101
  have N101 := Fr.app N0 Nq101
  obtain ⟨hx, hZ, hown, hby, hml, hnm, hret, hlk⟩ := id Cc101
  have sz_t101 : h0.size ≤ t101 := Nat.le_trans K0.1 R_t101
  have fr_t101 : nb ≤ t101 := Nat.le_trans hnb sz_t101
  have ne_a1_t101 : a1 ≠ t101 := Nat.ne_of_lt (Nat.lt_of_lt_of_le Ea1.lt R_t101)
  have ne_v1_t101 : v1 ≠ t101 := Nat.ne_of_lt (Nat.lt_of_lt_of_le W1.lt R_t101)
  have ne_x1_t101 : x1 ≠ t101 := Nat.ne_of_lt (Nat.lt_of_lt_of_le E1.lt R_t101)
  have K101 := K0.trans Kq101 (allS (Or.inl (List.mem_of_getElem? (i := 0) rfl)) all0)
  have O101 := O0.keep Kq101 (allS (Nat.le_trans hb0 fr_x1) all0)
  refine Go.of st101 ?_
  show Go p e s below _ _ _ _ T101 (mkF m 6 #[.val (.ref x1), .val (.ref a1)] [])
  exact Go.retV X101 hx hlk B101 J101 e101 hret (hb hby d20_6) (by decide) (by decide) (fun vm_ hw_ => ⟨rfl, N101, K101, _, _, sz_t101, Fv101, Fc101, Vt101⟩)

theorem d19_0 : decode jdk_67_method_42_code 0 = .ok (.new 18, 3) := by decide +kernel
theorem d19_3 : decode jdk_67_method_42_code 3 = .ok (.dup, 1) := by decide +kernel
theorem d19_4 : decode jdk_67_method_42_code 4 = .ok (.aload_n 0, 1) := by decide +kernel
theorem d19_5 : decode jdk_67_method_42_code 5 = .ok (.invokespecial 137, 3) := by decide +kernel
theorem pd22 : parseMethodDescriptor "(Ljava/lang/StringBuilder;)V" = some ⟨[(.object "java/lang/StringBuilder")], none⟩ := by decide +kernel
theorem d19_8 : decode jdk_67_method_42_code 8 = .ok (.areturn, 1) := by decide +kernel
set_option maxRecDepth 65536 in
set_option maxHeartbeats 40000000 in
theorem rm19 (l : Launch) (Z : State) (a0 : Array Value) (hw : ∀ d ∈ tables_1, d.before a0 Z = true) (ws : List Jvm.Cond) (a1 v1 : Addr) (kv : ClassId) (bs : List Int32) (zc : Int32) (ms : List Addr) (h0 : Heap) (n0 : Nat) (O0 : Old Z n0 h0) (nb : Nat) (hb0 : n0 ≤ nb) (hnb : nb ≤ h0.size) (Ea1 : Exa Z h0 a1 "java/lang/StringBuilder") (Gv : Fld Z h0 a1 "java/lang/AbstractStringBuilder" "value" "[B" (.ref v1)) (Gc : Fld Z h0 a1 "java/lang/AbstractStringBuilder" "coder" "B" (.int 0)) (Gn : Fld Z h0 a1 "java/lang/AbstractStringBuilder" "count" "I" (.int (Int32.ofNat bs.length))) (W1 : Arv Z h0 v1 kv .byte 16 (bs.map Value.int) (.int 0)) (hj : bs.length < 16) (S_C : Sta Z Z.heap "java/lang/String" "COMPACT_STRINGS" "Z" (.int zc)) (hzc : ¬ zc = 0) :
    Con l Z ms (⟨"java/lang/StringBuilder", "toString", "()Ljava/lang/String;"⟩ : MethodName) jdk_67_method_42_code 1 (some (.object "java/lang/String")) ws ({ frames := 5, cells := 2, slots := 20, locals := 101 } : Room) #[(.ref a1)] h0 (fun v vm h L => ∃ r t k, v = some (.ref r) ∧ Fr nb L ∧ Ext h0 h ∧ h0.size ≤ r ∧ h0.size ≤ t ∧ Exa Z h r "java/lang/String" ∧ Fld Z h r "java/lang/String" "value" "[B" (.ref t) ∧ Fld Z h r "java/lang/String" "coder" "B" (.int 0) ∧ Arv Z h t k .byte (Int32.ofNat bs.length) (bs.map Value.int) (.int 0)) := by
  refine Con.mk (plainFor_of_name pn5) ?_
  intro p e s m below meth c s₁ Cc X0 e0 eb J0 B0 M0
  obtain ⟨hx, hZ, hown, hby, hml, hnm, hret, hlk⟩ := id Cc
  have N0 := Fr.nil h0.size
  have K0 := Keep.refl h0 []
  show Go p e s below _ _ _ _ s₁ (mkF m 0 #[.val (.ref a1)] [])
  obtain ⟨T101, h101, X101, e101, E101, A101, D101, -, st101⟩ := newO X0 hx hZ hown (hw _ (List.mem_of_getElem? (i := 127) rfl)) (hw _ (List.mem_of_getElem? (i := 5) rfl)) (hw _ (List.mem_of_getElem? (i := 6) rfl)) e0 (g := (mkF m 0 #[.val (.ref a1)] [])) rfl (hb hby d19_0) (by decide) (by decide)
  obtain ⟨o101, g101⟩ : ∃ z, z = h0.size := ⟨_, rfl⟩
  rw [← g101] at A101 D101 st101
  have ne_a1_o101 : a1 ≠ o101 := Nat.ne_of_lt (Nat.lt_of_lt_of_le Ea1.lt (Nat.le_of_eq g101.symm))
  have ne_v1_o101 : v1 ≠ o101 := Nat.ne_of_lt (Nat.lt_of_lt_of_le W1.lt (Nat.le_of_eq g101.symm))
  have lt101 : o101 < h101.size := A101.lt
  have J101 := J0.add E101 g101 lt101
  have B101 := B0.mono E101.1
  have O101 := O0.ext E101
  have sz101 : h0.size ≤ o101 := Nat.le_trans K0.1 (Nat.le_of_eq g101.symm)
  have fr101 : h0.size ≤ o101 := sz101
  have K101 := K0.ext E101
  have F101_value : Fld Z h101 o101 "java/lang/String" "value" "[B" .null := D101 (Or.inr (hw _ (List.mem_of_getElem? (i := 20) rfl))) (ty := (.array .byte)) (by decide)
  have F101_coder : Fld Z h101 o101 "java/lang/String" "coder" "B" (.int (0 : Int32)) := D101 (Or.inr (hw _ (List.mem_of_getElem? (i := 21) rfl))) (ty := .byte) (by decide)
  refine Go.of (fun _ hr => st101 _ hr) ?_
  show Go p e s below _ _ _ _ T101 (mkF m 3 #[.val (.ref a1)] [(.ref o101)])
  refine Go.of (fun _ hr => XS.dup X101.here hx rfl (hb hby d19_3) rfl rfl hr) ?_
  show Go p e s below _ _ _ _ T101 (mkF m 4 #[.val (.ref a1)] [(.ref o101), (.ref o101)])
  refine Go.of (fun _ hr => XS.aloadN X101.here hx rfl (hb hby d19_4) rfl rfl hr) ?_
  show Go p e s below _ _ _ _ T101 (mkF m 5 #[.val (.ref a1)] [(.ref a1), (.ref o101), (.ref o101)])
  have f103 := (Ea1.ext E101)
  have f104 := (Gv.ext E101)
  have f105 := (Gc.ext E101)
  have f106 := (Gn.ext E101)
  have f107 := (W1.ext E101)
  obtain ⟨_, b102, T102, h102, L102, e102, Cc102, X102, B102, J102, g102, hQ102, st102⟩ := own_callI Cc B101 J101 X101 rfl (hw _ (List.mem_of_getElem? (i := 128) rfl)) (hw _ (List.mem_of_getElem? (i := 129) rfl)) (hw _ (List.mem_of_getElem? (i := 6) rfl)) (hw _ (List.mem_of_getElem? (i := 130) rfl)) (by decide) (rm20 l Z a0 hw [] o101 _ _ a1 v1 _ bs zc _ h101 n0 O101 h0.size (own_ole O0) K101.1 fr101 (List.mem_cons_self ..) f103 f104 f105 f106 f107 A101 F101_value F101_coder hj ne_a1_o101 ne_v1_o101 S_C hzc) e101 (g := (mkF m 5 #[.val (.ref a1)] [(.ref a1), (.ref o101), (.ref o101)])) rfl (by rw [hml]; rfl) (argsL := [(.ref a1)]) (rest := [(.ref o101)]) (lenOf pd22 rfl) rfl (W := 1) (by show 2 * 0 + _ ≤ _; exact Nat.le_of_eq rfl) (hb hby d19_5) (by decide) (by decide) (by decide) (by decide)
  obtain ⟨rfl, Nq102, Kq102, t102, kt102, R_t102, Fv102, Fc102, Vt102⟩ := hQ102
  have N102 := Fr.app N0 Nq102
  obtain ⟨hx, hZ, hown, hby, hml, hnm, hret, hlk⟩ := id Cc102
  have sz_t102 : h0.size ≤ t102 := Nat.le_trans K101.1 R_t102
  have fr_t102 : h0.size ≤ t102 := sz_t102
  have ne_a1_t102 : a1 ≠ t102 := Nat.ne_of_lt (Nat.lt_of_lt_of_le f103.lt R_t102)
  have ne_v1_t102 : v1 ≠ t102 := Nat.ne_of_lt (Nat.lt_of_lt_of_le f107.lt R_t102)
  have ne_o101_t102 : o101 ≠ t102 := Nat.ne_of_lt (Nat.lt_of_lt_of_le A101.lt R_t102)
  have K102 := K101.trans Kq102 (allS (Or.inr sz101) all0)
  have O102 := O101.keep Kq102 (allS (Nat.le_trans (own_ole O0) fr101) all0)
  refine Go.of st102 ?_
  show Go p e s below _ _ _ _ T102 (mkF m 8 #[.val (.ref a1)] [(.ref o101)])
  have f108 := (A101.keep Kq102)
  exact Go.retA X102 hx hlk B102 (J102.sub fun x hx => (List.mem_cons_of_mem _ hx)) e102 hret rfl rfl (hb hby d19_8) (by decide) (by decide) (fun vm_ hw_ => ⟨_, _, _, rfl, (fun y hy => Nat.le_trans hnb (N102 y hy)), keep_ext K102, sz101, sz_t102, f108, Fv102, Fc102, Vt102⟩)

theorem pn7 : plainName "com/example/measured_flow/measuredflow/HttpRequestToStringPinLaw" = true := by first | (simp [plainName, overriddenIn]; done) | decide +kernel
theorem d1_0 : decode method_2_code 0 = .ok (.iload_n 0, 1) := by decide +kernel
theorem d1_1 : decode method_2_code 1 = .ok (.ifCond .ne 14, 3) := by decide +kernel
theorem d1_4 : decode method_2_code 4 = .ok (.new 7, 3) := by decide +kernel
theorem d1_7 : decode method_2_code 7 = .ok (.dup, 1) := by decide +kernel
theorem d1_8 : decode method_2_code 8 = .ok (.iconst 0, 1) := by decide +kernel
theorem d1_9 : decode method_2_code 9 = .ok (.newarray .char, 2) := by decide +kernel
theorem d1_11 : decode method_2_code 11 = .ok (.invokespecial 9, 3) := by decide +kernel
theorem pd23 : parseMethodDescriptor "([C)V" = some ⟨[(.array .char)], none⟩ := by decide +kernel
theorem d1_14 : decode method_2_code 14 = .ok (.areturn, 1) := by decide +kernel
theorem d1_15 : decode method_2_code 15 = .ok (.iload_n 0, 1) := by decide +kernel
theorem d1_16 : decode method_2_code 16 = .ok (.iconst 1, 1) := by decide +kernel
theorem d1_17 : decode method_2_code 17 = .ok (.if_icmp .ne 8, 3) := by decide +kernel
theorem d1_20 : decode method_2_code 20 = .ok (.iload_n 1, 1) := by decide +kernel
theorem d1_21 : decode method_2_code 21 = .ok (.invokestatic 12, 3) := by decide +kernel
theorem pd24 : parseMethodDescriptor "(C)Ljava/lang/String;" = some ⟨[.char], some (.object "java/lang/String")⟩ := by decide +kernel
theorem d1_24 : decode method_2_code 24 = .ok (.areturn, 1) := by decide +kernel
theorem d1_25 : decode method_2_code 25 = .ok (.new 7, 3) := by decide +kernel
theorem d1_28 : decode method_2_code 28 = .ok (.dup, 1) := by decide +kernel
theorem d1_29 : decode method_2_code 29 = .ok (.iconst 2, 1) := by decide +kernel
theorem d1_30 : decode method_2_code 30 = .ok (.newarray .char, 2) := by decide +kernel
theorem d1_32 : decode method_2_code 32 = .ok (.dup, 1) := by decide +kernel
theorem d1_33 : decode method_2_code 33 = .ok (.iconst 0, 1) := by decide +kernel
theorem d1_34 : decode method_2_code 34 = .ok (.iload_n 1, 1) := by decide +kernel
theorem d1_35 : decode method_2_code 35 = .ok (.castore, 1) := by decide +kernel
theorem d1_36 : decode method_2_code 36 = .ok (.dup, 1) := by decide +kernel
theorem d1_37 : decode method_2_code 37 = .ok (.iconst 1, 1) := by decide +kernel
theorem d1_38 : decode method_2_code 38 = .ok (.iload_n 2, 1) := by decide +kernel
theorem d1_39 : decode method_2_code 39 = .ok (.castore, 1) := by decide +kernel
theorem d1_40 : decode method_2_code 40 = .ok (.invokespecial 9, 3) := by decide +kernel
theorem d1_43 : decode method_2_code 43 = .ok (.areturn, 1) := by decide +kernel
set_option maxRecDepth 65536 in
set_option maxHeartbeats 40000000 in
theorem rm1 (l : Launch) (Z : State) (a0 : Array Value) (hw : ∀ d ∈ tables_1, d.before a0 Z = true) (ws : List Jvm.Cond) (n1 x1 x2 : Int32) (zc : Int32) (ms : List Addr) (h0 : Heap) (n0 : Nat) (O0 : Old Z n0 h0) (nb : Nat) (hb0 : n0 ≤ nb) (hnb : nb ≤ h0.size) (hq_x1 : (¬ x1 < 0 ∧ ¬ 255 < x1)) (hq_x2 : (¬ x2 < 0 ∧ ¬ 255 < x2)) (S_C : Sta Z Z.heap "java/lang/String" "COMPACT_STRINGS" "Z" (.int zc)) (hzc : ¬ zc = 0) :
    Con l Z ms (⟨"com/example/measured_flow/measuredflow/HttpRequestToStringPinLaw", "str", "(ICC)Ljava/lang/String;"⟩ : MethodName) method_2_code 3 (some (.object "java/lang/String")) ws ({ frames := 4, cells := 4, slots := 10, locals := 66 } : Room) #[(.int n1), (.int x1), (.int x2)] h0 (fun v vm h L => ∃ r t k, v = some (.ref r) ∧ Fr nb L ∧ Ext h0 h ∧ h0.size ≤ r ∧ t ∉ ms ∧ Exa Z h r "java/lang/String" ∧ Fld Z h r "java/lang/String" "value" "[B" (.ref t) ∧ Fld Z h r "java/lang/String" "coder" "B" (.int 0) ∧ Arv Z h t k .byte (Int32.ofNat ((mkL n1 x1 x2).map lo8).length) (((mkL n1 x1 x2).map lo8).map Value.int) (.int 0)) := by
  refine Con.mk (plainFor_of_name pn7) ?_
  intro p e s m below meth c s₁ Cc X0 e0 eb J0 B0 M0
  obtain ⟨hx, hZ, hown, hby, hml, hnm, hret, hlk⟩ := id Cc
  have N0 := Fr.nil h0.size
  have K0 := Keep.refl h0 []
  show Go p e s below _ _ _ _ s₁ (mkF m 0 #[.val (.int n1), .val (.int x1), .val (.int x2)] [])
  refine Go.of (fun _ hr => XS.iloadN X0.here hx rfl (hb hby d1_0) rfl  hr) ?_
  show Go p e s below _ _ _ _ s₁ (mkF m 1 #[.val (.int n1), .val (.int x1), .val (.int x2)] [(.int n1)])
  by_cases hb1_101 : n1 = (0 : Int32)
  · refine Go.of (fun _ hr => XS.ifNo X0.here hx rfl (hb hby d1_1) rfl ((if0 _ _).trans (teq hb1_101).2) hr) ?_
    show Go p e s below _ _ _ _ s₁ (mkF m 4 #[.val (.int n1), .val (.int x1), .val (.int x2)] [])
    obtain ⟨T102, h102, X102, e102, E102, A102, D102, -, st102⟩ := newO X0 hx hZ hown (hw _ (List.mem_of_getElem? (i := 4) rfl)) (hw _ (List.mem_of_getElem? (i := 5) rfl)) (hw _ (List.mem_of_getElem? (i := 6) rfl)) e0 (g := (mkF m 4 #[.val (.int n1), .val (.int x1), .val (.int x2)] [])) rfl (hb hby d1_4) (by decide) (by decide)
    obtain ⟨o102, g102⟩ : ∃ z, z = h0.size := ⟨_, rfl⟩
    rw [← g102] at A102 D102 st102
    have lt102 : o102 < h102.size := A102.lt
    have J102 := J0.add E102 g102 lt102
    have B102 := B0.mono E102.1
    have O102 := O0.ext E102
    have sz102 : h0.size ≤ o102 := Nat.le_trans K0.1 (Nat.le_of_eq g102.symm)
    have fr102 : h0.size ≤ o102 := sz102
    have K102 := K0.ext E102
    have F102_value : Fld Z h102 o102 "java/lang/String" "value" "[B" .null := D102 (Or.inr (hw _ (List.mem_of_getElem? (i := 20) rfl))) (ty := (.array .byte)) (by decide)
    have F102_coder : Fld Z h102 o102 "java/lang/String" "coder" "B" (.int (0 : Int32)) := D102 (Or.inr (hw _ (List.mem_of_getElem? (i := 21) rfl))) (ty := .byte) (by decide)
    refine Go.of (fun _ hr => st102 _ hr) ?_
    show Go p e s below _ _ _ _ T102 (mkF m 7 #[.val (.int n1), .val (.int x1), .val (.int x2)] [(.ref o102)])
    refine Go.of (fun _ hr => XS.dup X102.here hx rfl (hb hby d1_7) rfl rfl hr) ?_
    show Go p e s below _ _ _ _ T102 (mkF m 8 #[.val (.int n1), .val (.int x1), .val (.int x2)] [(.ref o102), (.ref o102)])
    refine Go.of (fun _ hr => XS.iconst X102.here hx rfl (hb hby d1_8) hr) ?_
    show Go p e s below _ _ _ _ T102 (mkF m 9 #[.val (.int n1), .val (.int x1), .val (.int x2)] [(.int (0 : Int32)), (.ref o102), (.ref o102)])
    obtain ⟨T103, h103, k103, X103, e103, E103, A103, st103⟩ := newP X102 hx hZ (hw _ (List.mem_of_getElem? (i := 7) rfl)) e102 (g := (mkF m 9 #[.val (.int n1), .val (.int x1), .val (.int x2)] [(.int (0 : Int32)), (.ref o102), (.ref o102)])) rfl (hb hby d1_9) rfl (by decide) (cap := 0) (by decide) (by decide) (by decide) (by decide)
    obtain ⟨o103, g103⟩ : ∃ z, z = h102.size := ⟨_, rfl⟩
    rw [← g103] at A103 st103
    have ne_o102_o103 : o102 ≠ o103 := Nat.ne_of_lt (Nat.lt_of_lt_of_le A102.lt (Nat.le_of_eq g103.symm))
    have V103 := Arv.new A103 (by decide)
    have lt103 : o103 < h103.size := A103.lt
    have J103 := J102.add E103 g103 lt103
    have B103 := B102.mono E103.1
    have O103 := O102.ext E103
    have sz103 : h0.size ≤ o103 := Nat.le_trans K102.1 (Nat.le_of_eq g103.symm)
    have fr103 : h0.size ≤ o103 := sz103
    have K103 := K102.ext E103
    refine Go.of (fun _ hr => st103 _ hr) ?_
    show Go p e s below _ _ _ _ T103 (mkF m 11 #[.val (.int n1), .val (.int x1), .val (.int x2)] [(.ref o103), (.ref o102), (.ref o102)])
    have f105 := (A102.ext E103)
    have f106 := (F102_value.ext E103)
    have f107 := (F102_coder.ext E103)
    obtain ⟨_, b104, T104, h104, L104, e104, Cc104, X104, B104, J104, g104, hQ104, st104⟩ := own_callI Cc B103 J103 X103 rfl (hw _ (List.mem_of_getElem? (i := 8) rfl)) (hw _ (List.mem_of_getElem? (i := 9) rfl)) (hw _ (List.mem_of_getElem? (i := 6) rfl)) (hw _ (List.mem_of_getElem? (i := 10) rfl)) (by decide) (rm2 l Z a0 hw [] o102 o103 _ [] _ _ zc _ h103 n0 O103 h0.size (own_ole O0) K103.1 fr102 (List.mem_cons_of_mem _ (List.mem_cons_self ..)) (by simp) (by intro x hx; cases hx) V103 (Ne.symm ne_o102_o103) f105 f106 f107 S_C hzc) e103 (g := (mkF m 11 #[.val (.int n1), .val (.int x1), .val (.int x2)] [(.ref o103), (.ref o102), (.ref o102)])) rfl (by rw [hml]; rfl) (argsL := [(.ref o103)]) (rest := [(.ref o102)]) (lenOf pd23 rfl) rfl (W := 1) (by show 2 * 0 + _ ≤ _; exact Nat.le_of_eq rfl) (hb hby d1_11) (by decide) (by decide) (by decide) (by decide)
    obtain ⟨rfl, Nq104, Kq104, t104, kt104, nt104, Fv104, Fc104, Vt104⟩ := hQ104
    have N104 := Fr.app N0 Nq104
    obtain ⟨hx, hZ, hown, hby, hml, hnm, hret, hlk⟩ := id Cc104
    have K104 := K103.trans Kq104 (allS (Or.inr sz102) all0)
    have O104 := O103.keep Kq104 (allS (Nat.le_trans (own_ole O0) fr102) all0)
    refine Go.of st104 ?_
    have nx_t104_o103 : t104 ≠ o103 := fun q => nt104 (by rw [q]; exact (List.mem_cons_self ..))
    have nx_t104_o102 : t104 ≠ o102 := fun q => nt104 (by rw [q]; exact (List.mem_cons_of_mem _ (List.mem_cons_self ..)))
    show Go p e s below _ _ _ _ T104 (mkF m 14 #[.val (.int n1), .val (.int x1), .val (.int x2)] [(.ref o102)])
    have f108 := (f105.keep Kq104)
    exact Go.retA X104 hx hlk B104 (J104.sub fun x hx => (List.mem_cons_of_mem _ (List.mem_cons_of_mem _ hx))) e104 hret rfl rfl (hb hby d1_14) (by decide) (by decide) (fun vm_ hw_ => ⟨_, _, _, rfl, (fun y hy => Nat.le_trans hnb (N104 y hy)), keep_ext K104, sz102, (fun hz => nt104 (List.mem_cons_of_mem _ (List.mem_cons_of_mem _ hz))), f108, Fv104, Fc104, (by rw [show mkL n1 x1 x2 = [] from by simp [mkL, hb1_101]]; exact Vt104)⟩)
  · refine Go.of (fun _ hr => XS.ifYes X0.here hx rfl (pc0 := 1) (pc' := 15) rfl (hb hby d1_1) rfl ((if0 _ _).trans (feq hb1_101).2) (by decide) (by decide) hr) ?_
    show Go p e s below _ _ _ _ s₁ (mkF m 15 #[.val (.int n1), .val (.int x1), .val (.int x2)] [])
    refine Go.of (fun _ hr => XS.iloadN X0.here hx rfl (hb hby d1_15) rfl  hr) ?_
    show Go p e s below _ _ _ _ s₁ (mkF m 16 #[.val (.int n1), .val (.int x1), .val (.int x2)] [(.int n1)])
    refine Go.of (fun _ hr => XS.iconst X0.here hx rfl (hb hby d1_16) hr) ?_
    show Go p e s below _ _ _ _ s₁ (mkF m 17 #[.val (.int n1), .val (.int x1), .val (.int x2)] [(.int (1 : Int32)), (.int n1)])
    by_cases hb17_109 : n1 = (1 : Int32)
    · refine Go.of (fun _ hr => XS.icmpNo X0.here hx rfl (hb hby d1_17) rfl (teq hb17_109).2 hr) ?_
      show Go p e s below _ _ _ _ s₁ (mkF m 20 #[.val (.int n1), .val (.int x1), .val (.int x2)] [])
      refine Go.of (fun _ hr => XS.iloadN X0.here hx rfl (hb hby d1_20) rfl  hr) ?_
      show Go p e s below _ _ _ _ s₁ (mkF m 21 #[.val (.int n1), .val (.int x1), .val (.int x2)] [(.int x1)])
      obtain ⟨_, b110, T110, h110, L110, e110, Cc110, X110, B110, J110, g110, hQ110, st110⟩ := own_callS Cc B0 J0 X0 (hw _ (List.mem_of_getElem? (i := 193) rfl)) (hw _ (List.mem_of_getElem? (i := 194) rfl)) (hw _ (List.mem_of_getElem? (i := 6) rfl)) (hw _ (List.mem_of_getElem? (i := 195) rfl)) (by decide) (rm36 l Z a0 hw [] x1 zc _ h0 n0 O0 h0.size (own_ole O0) K0.1 hq_x1.2 S_C hzc) e0 (g := (mkF m 21 #[.val (.int n1), .val (.int x1), .val (.int x2)] [(.int x1)])) rfl (by rw [hml]; rfl) (argsL := [(.int x1)]) (rest := []) (lenOf pd24 rfl) rfl (W := 0) (by show 2 * 0 + _ ≤ _; exact Nat.le_of_eq rfl) (hb hby d1_21) (by decide) (by decide) (by decide) (by decide)
      obtain ⟨r110, t110, kt110, rfl, Nq110, Eq110, R_r110, R_t110, Er110, Fv110, Fc110, Vt110⟩ := hQ110
      have N110 := Fr.app N0 Nq110
      obtain ⟨hx, hZ, hown, hby, hml, hnm, hret, hlk⟩ := id Cc110
      have sz_r110 : h0.size ≤ r110 := Nat.le_trans K0.1 R_r110
      have fr_r110 : h0.size ≤ r110 := sz_r110
      have sz_t110 : h0.size ≤ t110 := Nat.le_trans K0.1 R_t110
      have fr_t110 : h0.size ≤ t110 := sz_t110
      have K110 := K0.ext Eq110
      have O110 := O0.ext Eq110
      refine Go.of st110 ?_
      show Go p e s below _ _ _ _ T110 (mkF m 24 #[.val (.int n1), .val (.int x1), .val (.int x2)] [(.ref r110)])
      exact Go.retA X110 hx hlk B110 J110 e110 hret rfl rfl (hb hby d1_24) (by decide) (by decide) (fun vm_ hw_ => ⟨_, _, _, rfl, (fun y hy => Nat.le_trans hnb (N110 y hy)), keep_ext K110, sz_r110, (J0.nms sz_t110), Er110, Fv110, Fc110, (by rw [show mkL n1 x1 x2 = [x1] from by simp [mkL, hb1_101, hb17_109]]; exact Vt110)⟩)
    · refine Go.of (fun _ hr => XS.icmpYes X0.here hx rfl (pc0 := 17) (pc' := 25) rfl (hb hby d1_17) rfl (feq hb17_109).2 (by decide) (by decide) hr) ?_
      show Go p e s below _ _ _ _ s₁ (mkF m 25 #[.val (.int n1), .val (.int x1), .val (.int x2)] [])
      obtain ⟨T111, h111, X111, e111, E111, A111, D111, -, st111⟩ := newO X0 hx hZ hown (hw _ (List.mem_of_getElem? (i := 4) rfl)) (hw _ (List.mem_of_getElem? (i := 5) rfl)) (hw _ (List.mem_of_getElem? (i := 6) rfl)) e0 (g := (mkF m 25 #[.val (.int n1), .val (.int x1), .val (.int x2)] [])) rfl (hb hby d1_25) (by decide) (by decide)
      obtain ⟨o111, g111⟩ : ∃ z, z = h0.size := ⟨_, rfl⟩
      rw [← g111] at A111 D111 st111
      have lt111 : o111 < h111.size := A111.lt
      have J111 := J0.add E111 g111 lt111
      have B111 := B0.mono E111.1
      have O111 := O0.ext E111
      have sz111 : h0.size ≤ o111 := Nat.le_trans K0.1 (Nat.le_of_eq g111.symm)
      have fr111 : h0.size ≤ o111 := sz111
      have K111 := K0.ext E111
      have F111_value : Fld Z h111 o111 "java/lang/String" "value" "[B" .null := D111 (Or.inr (hw _ (List.mem_of_getElem? (i := 20) rfl))) (ty := (.array .byte)) (by decide)
      have F111_coder : Fld Z h111 o111 "java/lang/String" "coder" "B" (.int (0 : Int32)) := D111 (Or.inr (hw _ (List.mem_of_getElem? (i := 21) rfl))) (ty := .byte) (by decide)
      refine Go.of (fun _ hr => st111 _ hr) ?_
      show Go p e s below _ _ _ _ T111 (mkF m 28 #[.val (.int n1), .val (.int x1), .val (.int x2)] [(.ref o111)])
      refine Go.of (fun _ hr => XS.dup X111.here hx rfl (hb hby d1_28) rfl rfl hr) ?_
      show Go p e s below _ _ _ _ T111 (mkF m 29 #[.val (.int n1), .val (.int x1), .val (.int x2)] [(.ref o111), (.ref o111)])
      refine Go.of (fun _ hr => XS.iconst X111.here hx rfl (hb hby d1_29) hr) ?_
      show Go p e s below _ _ _ _ T111 (mkF m 30 #[.val (.int n1), .val (.int x1), .val (.int x2)] [(.int (2 : Int32)), (.ref o111), (.ref o111)])
      obtain ⟨T112, h112, k112, X112, e112, E112, A112, st112⟩ := newP X111 hx hZ (hw _ (List.mem_of_getElem? (i := 7) rfl)) e111 (g := (mkF m 30 #[.val (.int n1), .val (.int x1), .val (.int x2)] [(.int (2 : Int32)), (.ref o111), (.ref o111)])) rfl (hb hby d1_30) rfl (by decide) (cap := 2) (by decide) (by decide) (by decide) (by decide)
      obtain ⟨o112, g112⟩ : ∃ z, z = h111.size := ⟨_, rfl⟩
      rw [← g112] at A112 st112
      have ne_o111_o112 : o111 ≠ o112 := Nat.ne_of_lt (Nat.lt_of_lt_of_le A111.lt (Nat.le_of_eq g112.symm))
      have V112 : Arv Z h112 o112 k112 .char (2 : Int32) [(.int (0 : Int32)), (.int (0 : Int32))] (.int (0 : Int32)) := (Arv.new A112 (by decide)).pad (pad_rep [] (.int (0 : Int32)) 2)
      have lt112 : o112 < h112.size := A112.lt
      have J112 := J111.add E112 g112 lt112
      have B112 := B111.mono E112.1
      have O112 := O111.ext E112
      have sz112 : h0.size ≤ o112 := Nat.le_trans K111.1 (Nat.le_of_eq g112.symm)
      have fr112 : h0.size ≤ o112 := sz112
      have K112 := K111.ext E112
      refine Go.of (fun _ hr => st112 _ hr) ?_
      show Go p e s below _ _ _ _ T112 (mkF m 32 #[.val (.int n1), .val (.int x1), .val (.int x2)] [(.ref o112), (.ref o111), (.ref o111)])
      refine Go.of (fun _ hr => XS.dup X112.here hx rfl (hb hby d1_32) rfl rfl hr) ?_
      show Go p e s below _ _ _ _ T112 (mkF m 33 #[.val (.int n1), .val (.int x1), .val (.int x2)] [(.ref o112), (.ref o112), (.ref o111), (.ref o111)])
      refine Go.of (fun _ hr => XS.iconst X112.here hx rfl (hb hby d1_33) hr) ?_
      show Go p e s below _ _ _ _ T112 (mkF m 34 #[.val (.int n1), .val (.int x1), .val (.int x2)] [(.int (0 : Int32)), (.ref o112), (.ref o112), (.ref o111), (.ref o111)])
      refine Go.of (fun _ hr => XS.iloadN X112.here hx rfl (hb hby d1_34) rfl  hr) ?_
      show Go p e s below _ _ _ _ T112 (mkF m 35 #[.val (.int n1), .val (.int x1), .val (.int x2)] [(.int x1), (.int (0 : Int32)), (.ref o112), (.ref o112), (.ref o111), (.ref o111)])
      obtain ⟨cl113, Ar113, q113, S113, N113_, H113, G113⟩ := id V112
      have hin113 : ¬ ((0 : Int32) < 0 ∨ cl113.slots.size ≤ ((0 : Int32)).toNatClampNeg) := inb_of S113 ⟨by decide, by decide⟩
      obtain ⟨T113, h113, X113, e113, W113, st113⟩ := stC X112 hx hZ e112 Ar113 (j := (0 : Int32)) hin113 (g := (mkF m 35 #[.val (.int n1), .val (.int x1), .val (.int x2)] [(.int x1), (.int (0 : Int32)), (.ref o112), (.ref o112), (.ref o111), (.ref o111)])) rfl rfl (hb hby d1_35)
      have W113' := W113
      rw [show nar .char x1 = x1 from (nar_c hq_x1.1 (le255 hq_x1.2))] at W113'
      have V113 : Arv Z h113 o112 k112 .char (2 : Int32) [(.int x1), (.int (0 : Int32))] (.int (0 : Int32)) := Arv.set Ar113 q113 S113 N113_ H113 G113 (fits_c hq_x1.1 (le255 hq_x1.2)) W113' 0 rfl (by simp)
      have N113 := Fr.snoc X113 N0 fr112
      have J113 := J112.wr W113 (List.mem_cons_self ..)
      have B113 := B112.mono (Nat.le_of_eq W113.size.symm)
      have O113 := O112.wr W113 (Nat.le_trans (own_ole O0) fr112)
      have K113 := K112.wr W113 (Or.inr sz112)
      refine Go.of (fun _ hr => st113 _ hr) ?_
      show Go p e s below _ _ _ _ T113 (mkF m 36 #[.val (.int n1), .val (.int x1), .val (.int x2)] [(.ref o112), (.ref o111), (.ref o111)])
      refine Go.of (fun _ hr => XS.dup X113.here hx rfl (hb hby d1_36) rfl rfl hr) ?_
      show Go p e s below _ _ _ _ T113 (mkF m 37 #[.val (.int n1), .val (.int x1), .val (.int x2)] [(.ref o112), (.ref o112), (.ref o111), (.ref o111)])
      refine Go.of (fun _ hr => XS.iconst X113.here hx rfl (hb hby d1_37) hr) ?_
      show Go p e s below _ _ _ _ T113 (mkF m 38 #[.val (.int n1), .val (.int x1), .val (.int x2)] [(.int (1 : Int32)), (.ref o112), (.ref o112), (.ref o111), (.ref o111)])
      refine Go.of (fun _ hr => XS.iloadN X113.here hx rfl (hb hby d1_38) rfl  hr) ?_
      show Go p e s below _ _ _ _ T113 (mkF m 39 #[.val (.int n1), .val (.int x1), .val (.int x2)] [(.int x2), (.int (1 : Int32)), (.ref o112), (.ref o112), (.ref o111), (.ref o111)])
      obtain ⟨cl114, Ar114, q114, S114, N114_, H114, G114⟩ := id V113
      have hin114 : ¬ ((1 : Int32) < 0 ∨ cl114.slots.size ≤ ((1 : Int32)).toNatClampNeg) := inb_of S114 ⟨by decide, by decide⟩
      obtain ⟨T114, h114, X114, e114, W114, st114⟩ := stC X113 hx hZ e113 Ar114 (j := (1 : Int32)) hin114 (g := (mkF m 39 #[.val (.int n1), .val (.int x1), .val (.int x2)] [(.int x2), (.int (1 : Int32)), (.ref o112), (.ref o112), (.ref o111), (.ref o111)])) rfl rfl (hb hby d1_39)
      have W114' := W114
      rw [show nar .char x2 = x2 from (nar_c hq_x2.1 (le255 hq_x2.2))] at W114'
      have V114 : Arv Z h114 o112 k112 .char (2 : Int32) [(.int x1), (.int x2)] (.int (0 : Int32)) := Arv.set Ar114 q114 S114 N114_ H114 G114 (fits_c hq_x2.1 (le255 hq_x2.2)) W114' 1 rfl (by simp)
      have N114 := Fr.snoc X114 N113 fr112
      have J114 := J113.wr W114 (List.mem_cons_self ..)
      have B114 := B113.mono (Nat.le_of_eq W114.size.symm)
      have O114 := O113.wr W114 (Nat.le_trans (own_ole O0) fr112)
      have K114 := K113.wr W114 (Or.inr sz112)
      refine Go.of (fun _ hr => st114 _ hr) ?_
      show Go p e s below _ _ _ _ T114 (mkF m 40 #[.val (.int n1), .val (.int x1), .val (.int x2)] [(.ref o112), (.ref o111), (.ref o111)])
      have f116 := (((A111.ext E112).wr W113).wr W114)
      have f117 := (((F111_value.ext E112).other W113 (Or.inl ne_o111_o112)).other W114 (Or.inl ne_o111_o112))
      have f118 := (((F111_coder.ext E112).other W113 (Or.inl ne_o111_o112)).other W114 (Or.inl ne_o111_o112))
      obtain ⟨_, b115, T115, h115, L115, e115, Cc115, X115, B115, J115, g115, hQ115, st115⟩ := own_callI Cc B114 J114 X114 rfl (hw _ (List.mem_of_getElem? (i := 8) rfl)) (hw _ (List.mem_of_getElem? (i := 9) rfl)) (hw _ (List.mem_of_getElem? (i := 6) rfl)) (hw _ (List.mem_of_getElem? (i := 10) rfl)) (by decide) (rm2 l Z a0 hw [] o111 o112 _ [x1, x2] _ _ zc _ h114 n0 O114 h0.size (own_ole O0) K114.1 fr111 (List.mem_cons_of_mem _ (List.mem_cons_self ..)) (by simp) (by intro x hx; simp only [List.mem_cons, List.not_mem_nil, or_false] at hx; rcases hx with rfl | rfl <;> assumption) V114 (Ne.symm ne_o111_o112) f116 f117 f118 S_C hzc) e114 (g := (mkF m 40 #[.val (.int n1), .val (.int x1), .val (.int x2)] [(.ref o112), (.ref o111), (.ref o111)])) rfl (by rw [hml]; rfl) (argsL := [(.ref o112)]) (rest := [(.ref o111)]) (lenOf pd23 rfl) rfl (W := 1) (by show 2 * 0 + _ ≤ _; exact Nat.le_of_eq rfl) (hb hby d1_40) (by decide) (by decide) (by decide) (by decide)
      obtain ⟨rfl, Nq115, Kq115, t115, kt115, nt115, Fv115, Fc115, Vt115⟩ := hQ115
      have N115 := Fr.app N114 Nq115
      obtain ⟨hx, hZ, hown, hby, hml, hnm, hret, hlk⟩ := id Cc115
      have K115 := K114.trans Kq115 (allS (Or.inr sz111) all0)
      have O115 := O114.keep Kq115 (allS (Nat.le_trans (own_ole O0) fr111) all0)
      refine Go.of st115 ?_
      have nx_t115_o112 : t115 ≠ o112 := fun q => nt115 (by rw [q]; exact (List.mem_cons_self ..))
      have nx_t115_o111 : t115 ≠ o111 := fun q => nt115 (by rw [q]; exact (List.mem_cons_of_mem _ (List.mem_cons_self ..)))
      show Go p e s below _ _ _ _ T115 (mkF m 43 #[.val (.int n1), .val (.int x1), .val (.int x2)] [(.ref o111)])
      have f119 := (f116.keep Kq115)
      exact Go.retA X115 hx hlk B115 (J115.sub fun x hx => (List.mem_cons_of_mem _ (List.mem_cons_of_mem _ hx))) e115 hret rfl rfl (hb hby d1_43) (by decide) (by decide) (fun vm_ hw_ => ⟨_, _, _, rfl, (fun y hy => Nat.le_trans hnb (N115 y hy)), keep_ext K115, sz111, (fun hz => nt115 (List.mem_cons_of_mem _ (List.mem_cons_of_mem _ hz))), f119, Fv115, Fc115, (by rw [show mkL n1 x1 x2 = [x1, x2] from by simp [mkL, hb1_101, hb17_109]]; exact Vt115)⟩)

theorem pn8 : plainName "java/util/Map" = true := by first | (simp [plainName, overriddenIn]; done) | decide +kernel
theorem d5_0 : decode jdk_72_method_26_code 0 = .ok (.getstatic 81, 3) := by decide +kernel
theorem d5_3 : decode jdk_72_method_26_code 3 = .ok (.areturn, 1) := by decide +kernel
set_option maxRecDepth 65536 in
set_option maxHeartbeats 40000000 in
theorem rm5 (l : Launch) (Z : State) (a0 : Array Value) (hw : ∀ d ∈ tables_1, d.before a0 Z = true) (ws : List Jvm.Cond)  (ms : List Addr) (h0 : Heap) (n0 : Nat) (O0 : Old Z n0 h0) (nb : Nat) (hb0 : n0 ≤ nb) (hnb : nb ≤ h0.size) (wm : Addr) (S_M : Sta Z Z.heap "java/util/ImmutableCollections" "EMPTY_MAP" "Ljava/util/ImmutableCollections$MapN;" (.ref wm)) (E_M : Exa Z Z.heap wm "java/util/ImmutableCollections$MapN") :
    Con l Z ms (⟨"java/util/Map", "of", "()Ljava/util/Map;"⟩ : MethodName) jdk_72_method_26_code 0 (some (.object "java/util/Map")) ws ({ frames := 0, cells := 0, slots := 0, locals := 0 } : Room) #[] h0 (fun v vm h L => v = some (.ref wm) ∧ Fr nb L ∧ h = h0) := by
  refine Con.mk (plainFor_of_name pn8) ?_
  intro p e s m below meth c s₁ Cc X0 e0 eb J0 B0 M0
  obtain ⟨hx, hZ, hown, hby, hml, hnm, hret, hlk⟩ := id Cc
  have N0 := Fr.nil h0.size
  have K0 := Keep.refl h0 []
  show Go p e s below _ _ _ _ s₁ (mkF m 0 #[] [])
  obtain ⟨T101, X101, e101, st101⟩ := getS2 X0 hx hZ hown (host := "") (Or.inl (hw _ (List.mem_of_getElem? (i := 33) rfl))) Via.refl e0 (S_M.ext O0.2) (g := (mkF m 0 #[] [])) rfl (hb hby d5_0)
  refine Go.of (fun _ hr => st101 _ hr) ?_
  show Go p e s below _ _ _ _ T101 (mkF m 3 #[] [(.ref wm)])
  exact Go.retA X101 hx hlk B0 J0 e101 hret rfl rfl (hb hby d5_3) (by decide) (by decide) (fun vm_ hw_ => ⟨rfl, (fun y hy => Nat.le_trans hnb (N0 y hy)), rfl⟩)

theorem d7_0 : decode jdk_72_method_39_code 0 = .ok (.aload_n 0, 1) := by decide +kernel
theorem d7_1 : decode jdk_72_method_39_code 1 = .ok (.instanceof 101, 3) := by decide +kernel
theorem d7_4 : decode jdk_72_method_39_code 4 = .ok (.ifCond .eq 5, 3) := by decide +kernel
theorem d7_7 : decode jdk_72_method_39_code 7 = .ok (.aload_n 0, 1) := by decide +kernel
theorem d7_8 : decode jdk_72_method_39_code 8 = .ok (.areturn, 1) := by decide +kernel
set_option maxRecDepth 65536 in
set_option maxHeartbeats 40000000 in
theorem rm7 (l : Launch) (Z : State) (a0 : Array Value) (hw : ∀ d ∈ tables_1, d.before a0 Z = true) (ws : List Jvm.Cond)  (ms : List Addr) (h0 : Heap) (n0 : Nat) (O0 : Old Z n0 h0) (nb : Nat) (hb0 : n0 ≤ nb) (hnb : nb ≤ h0.size) (wm : Addr) (S_M : Sta Z Z.heap "java/util/ImmutableCollections" "EMPTY_MAP" "Ljava/util/ImmutableCollections$MapN;" (.ref wm)) (E_M : Exa Z Z.heap wm "java/util/ImmutableCollections$MapN") :
    Con l Z ms (⟨"java/util/Map", "copyOf", "(Ljava/util/Map;)Ljava/util/Map;"⟩ : MethodName) jdk_72_method_39_code 1 (some (.object "java/util/Map")) ws ({ frames := 0, cells := 0, slots := 0, locals := 0 } : Room) #[(.ref wm)] h0 (fun v vm h L => v = some (.ref wm) ∧ Fr nb L ∧ h = h0) := by
  refine Con.mk (plainFor_of_name pn8) ?_
  intro p e s m below meth c s₁ Cc X0 e0 eb J0 B0 M0
  obtain ⟨hx, hZ, hown, hby, hml, hnm, hret, hlk⟩ := id Cc
  have N0 := Fr.nil h0.size
  have K0 := Keep.refl h0 []
  show Go p e s below _ _ _ _ s₁ (mkF m 0 #[.val (.ref wm)] [])
  refine Go.of (fun _ hr => XS.aloadN X0.here hx rfl (hb hby d7_0) rfl rfl hr) ?_
  show Go p e s below _ _ _ _ s₁ (mkF m 1 #[.val (.ref wm)] [(.ref wm)])
  obtain ⟨T101, X101, e101, st101⟩ := instY X0 hx hZ hown (hw _ (List.mem_of_getElem? (i := 46) rfl)) e0 (Ins.of_exa (E_M.ext O0.2) (hw _ (List.mem_of_getElem? (i := 47) rfl))) (g := (mkF m 1 #[.val (.ref wm)] [(.ref wm)])) rfl rfl (hb hby d7_1)
  refine Go.of (fun _ hr => st101 _ hr) ?_
  show Go p e s below _ _ _ _ T101 (mkF m 4 #[.val (.ref wm)] [(.int (1 : Int32))])
  refine Go.of (fun _ hr => XS.ifNo X101.here hx rfl (hb hby d7_4) rfl ((if0 _ _).trans (feq (by decide : ¬ ((1 : Int32) = (0 : Int32)))).1) hr) ?_
  show Go p e s below _ _ _ _ T101 (mkF m 7 #[.val (.ref wm)] [])
  refine Go.of (fun _ hr => XS.aloadN X101.here hx rfl (hb hby d7_7) rfl rfl hr) ?_
  show Go p e s below _ _ _ _ T101 (mkF m 8 #[.val (.ref wm)] [(.ref wm)])
  exact Go.retA X101 hx hlk B0 J0 e101 hret rfl rfl (hb hby d7_8) (by decide) (by decide) (fun vm_ hw_ => ⟨rfl, (fun y hy => Nat.le_trans hnb (N0 y hy)), rfl⟩)

theorem pn9 : plainName "com/example/measured_flow/measuredflow/HttpRequest" = true := by first | (simp [plainName, overriddenIn]; done) | decide +kernel
theorem d6_0 : decode prog_8_method_1_code 0 = .ok (.aload_n 0, 1) := by decide +kernel
theorem d6_1 : decode prog_8_method_1_code 1 = .ok (.invokespecial 1, 3) := by decide +kernel
theorem d6_4 : decode prog_8_method_1_code 4 = .ok (.aload_n 0, 1) := by decide +kernel
theorem d6_5 : decode prog_8_method_1_code 5 = .ok (.aload_n 1, 1) := by decide +kernel
theorem d6_6 : decode prog_8_method_1_code 6 = .ok (.putfield 7, 3) := by decide +kernel
theorem d6_9 : decode prog_8_method_1_code 9 = .ok (.aload_n 0, 1) := by decide +kernel
theorem d6_10 : decode prog_8_method_1_code 10 = .ok (.aload_n 2, 1) := by decide +kernel
theorem d6_11 : decode prog_8_method_1_code 11 = .ok (.putfield 13, 3) := by decide +kernel
theorem d6_14 : decode prog_8_method_1_code 14 = .ok (.aload_n 0, 1) := by decide +kernel
theorem d6_15 : decode prog_8_method_1_code 15 = .ok (.aload_n 3, 1) := by decide +kernel
theorem d6_16 : decode prog_8_method_1_code 16 = .ok (.invokestatic 16, 3) := by decide +kernel
theorem pd25 : parseMethodDescriptor "(Ljava/util/Map;)Ljava/util/Map;" = some ⟨[(.object "java/util/Map")], some (.object "java/util/Map")⟩ := by decide +kernel
theorem d6_19 : decode prog_8_method_1_code 19 = .ok (.putfield 22, 3) := by decide +kernel
theorem d6_22 : decode prog_8_method_1_code 22 = .ok (.return_, 1) := by decide +kernel
set_option maxRecDepth 65536 in
set_option maxHeartbeats 40000000 in
theorem rm6 (l : Launch) (Z : State) (a0 : Array Value) (hw : ∀ d ∈ tables_1, d.before a0 Z = true) (ws : List Jvm.Cond) (a1 s1 s2 : Addr) (u1 u2 u3 : Value) (ms : List Addr) (h0 : Heap) (n0 : Nat) (O0 : Old Z n0 h0) (nb : Nat) (hb0 : n0 ≤ nb) (hnb : nb ≤ h0.size) (fr_a1 : nb ≤ a1) (hm_a1 : a1 ∈ ms) (wm : Addr) (S_M : Sta Z Z.heap "java/util/ImmutableCollections" "EMPTY_MAP" "Ljava/util/ImmutableCollections$MapN;" (.ref wm)) (E_M : Exa Z Z.heap wm "java/util/ImmutableCollections$MapN") (E1 : Exa Z h0 a1 "com/example/measured_flow/measuredflow/HttpRequest") (F1 : Fld Z h0 a1 "com/example/measured_flow/measuredflow/HttpRequest" "method" "Ljava/lang/String;" u1) (F2 : Fld Z h0 a1 "com/example/measured_flow/measuredflow/HttpRequest" "path" "Ljava/lang/String;" u2) (F3 : Fld Z h0 a1 "com/example/measured_flow/measuredflow/HttpRequest" "parameters" "Ljava/util/Map;" u3) :
    Con l Z ms (⟨"com/example/measured_flow/measuredflow/HttpRequest", "<init>", "(Ljava/lang/String;Ljava/lang/String;Ljava/util/Map;)V"⟩ : MethodName) prog_8_method_1_code 4 none ws ({ frames := 1, cells := 0, slots := 0, locals := 20 } : Room) #[(.ref a1), (.ref s1), (.ref s2), (.ref wm)] h0 (fun v vm h L => v = none ∧ Fr nb L ∧ Keep h0 h [a1] ∧ Fld Z h a1 "com/example/measured_flow/measuredflow/HttpRequest" "method" "Ljava/lang/String;" (.ref s1) ∧ Fld Z h a1 "com/example/measured_flow/measuredflow/HttpRequest" "path" "Ljava/lang/String;" (.ref s2)) := by
  refine Con.mk (plainFor_of_name pn9) ?_
  intro p e s m below meth c s₁ Cc X0 e0 eb J0 B0 M0
  obtain ⟨hx, hZ, hown, hby, hml, hnm, hret, hlk⟩ := id Cc
  have N0 := Fr.nil nb
  have K0 := Keep.refl h0 [a1]
  show Go p e s below _ _ _ _ s₁ (mkF m 0 #[.val (.ref a1), .val (.ref s1), .val (.ref s2), .val (.ref wm)] [])
  refine Go.of (fun _ hr => XS.aloadN X0.here hx rfl (hb hby d6_0) rfl rfl hr) ?_
  show Go p e s below _ _ _ _ s₁ (mkF m 1 #[.val (.ref a1), .val (.ref s1), .val (.ref s2), .val (.ref wm)] [(.ref a1)])
  obtain ⟨T101, X101, e101, st101⟩ := initO X0 hx hZ hown (hw _ (List.mem_of_getElem? (i := 38) rfl)) (hw _ (List.mem_of_getElem? (i := 16) rfl)) (hw _ (List.mem_of_getElem? (i := 17) rfl)) e0 (g := (mkF m 1 #[.val (.ref a1), .val (.ref s1), .val (.ref s2), .val (.ref wm)] [(.ref a1)])) rfl (by rw [hml]; rfl) rfl (hb hby d6_1) (by decide) (W := 0) (by show 2 * 0 + _ ≤ _; exact Nat.le_of_eq rfl) (by decide)
  refine Go.of (fun _ hr => st101 _ hr) ?_
  show Go p e s below _ _ _ _ T101 (mkF m 4 #[.val (.ref a1), .val (.ref s1), .val (.ref s2), .val (.ref wm)] [])
  refine Go.of (fun _ hr => XS.aloadN X101.here hx rfl (hb hby d6_4) rfl rfl hr) ?_
  show Go p e s below _ _ _ _ T101 (mkF m 5 #[.val (.ref a1), .val (.ref s1), .val (.ref s2), .val (.ref wm)] [(.ref a1)])
  refine Go.of (fun _ hr => XS.aloadN X101.here hx rfl (hb hby d6_5) rfl rfl hr) ?_
  show Go p e s below _ _ _ _ T101 (mkF m 6 #[.val (.ref a1), .val (.ref s1), .val (.ref s2), .val (.ref wm)] [(.ref s1), (.ref a1)])
  obtain ⟨T102, h102, X102, e102, W102, st102⟩ := putF X101 hx hZ hown (host := "") (Or.inl (hw _ (List.mem_of_getElem? (i := 39) rfl))) Via.refl e101 F1 E1 (Or.inr ⟨(hw _ (List.mem_of_getElem? (i := 40) rfl)), rfl, hnm⟩) (hw _ (List.mem_of_getElem? (i := 27) rfl)) (ty := (.object "java/lang/String")) (by decide) rfl rfl (g := (mkF m 6 #[.val (.ref a1), .val (.ref s1), .val (.ref s2), .val (.ref wm)] [(.ref s1), (.ref a1)])) rfl rfl (hb hby d6_6)
  have N102 := Fr.snoc X102 N0 fr_a1
  have J102 := J0.wr W102 hm_a1
  have B102 := B0.mono (Nat.le_of_eq W102.size.symm)
  have O102 := O0.wr W102 (Nat.le_trans hb0 fr_a1)
  have K102 := K0.wr W102 (Or.inl (List.mem_of_getElem? (i := 0) rfl))
  have Fw102 := F1.same W102
  refine Go.of (fun _ hr => st102 _ hr) ?_
  show Go p e s below _ _ _ _ T102 (mkF m 9 #[.val (.ref a1), .val (.ref s1), .val (.ref s2), .val (.ref wm)] [])
  refine Go.of (fun _ hr => XS.aloadN X102.here hx rfl (hb hby d6_9) rfl rfl hr) ?_
  show Go p e s below _ _ _ _ T102 (mkF m 10 #[.val (.ref a1), .val (.ref s1), .val (.ref s2), .val (.ref wm)] [(.ref a1)])
  refine Go.of (fun _ hr => XS.aloadN X102.here hx rfl (hb hby d6_10) rfl rfl hr) ?_
  show Go p e s below _ _ _ _ T102 (mkF m 11 #[.val (.ref a1), .val (.ref s1), .val (.ref s2), .val (.ref wm)] [(.ref s2), (.ref a1)])
  have f104 := (F2.other W102 (Or.inr (slot_ne (Or.inr (hw _ (List.mem_of_getElem? (i := 42) rfl))) (Or.inr (hw _ (List.mem_of_getElem? (i := 40) rfl))) (by decide) (t := (.object "java/lang/String")) (t' := (.object "java/lang/String")) (by decide) (by decide))))
  have f105 := (E1.wr W102)
  obtain ⟨T103, h103, X103, e103, W103, st103⟩ := putF X102 hx hZ hown (host := "") (Or.inl (hw _ (List.mem_of_getElem? (i := 41) rfl))) Via.refl e102 f104 f105 (Or.inr ⟨(hw _ (List.mem_of_getElem? (i := 42) rfl)), rfl, hnm⟩) (hw _ (List.mem_of_getElem? (i := 27) rfl)) (ty := (.object "java/lang/String")) (by decide) rfl rfl (g := (mkF m 11 #[.val (.ref a1), .val (.ref s1), .val (.ref s2), .val (.ref wm)] [(.ref s2), (.ref a1)])) rfl rfl (hb hby d6_11)
  have N103 := Fr.snoc X103 N102 fr_a1
  have J103 := J102.wr W103 hm_a1
  have B103 := B102.mono (Nat.le_of_eq W103.size.symm)
  have O103 := O102.wr W103 (Nat.le_trans hb0 fr_a1)
  have K103 := K102.wr W103 (Or.inl (List.mem_of_getElem? (i := 0) rfl))
  have Fw103 := f104.same W103
  refine Go.of (fun _ hr => st103 _ hr) ?_
  show Go p e s below _ _ _ _ T103 (mkF m 14 #[.val (.ref a1), .val (.ref s1), .val (.ref s2), .val (.ref wm)] [])
  refine Go.of (fun _ hr => XS.aloadN X103.here hx rfl (hb hby d6_14) rfl rfl hr) ?_
  show Go p e s below _ _ _ _ T103 (mkF m 15 #[.val (.ref a1), .val (.ref s1), .val (.ref s2), .val (.ref wm)] [(.ref a1)])
  refine Go.of (fun _ hr => XS.aloadN X103.here hx rfl (hb hby d6_15) rfl rfl hr) ?_
  show Go p e s below _ _ _ _ T103 (mkF m 16 #[.val (.ref a1), .val (.ref s1), .val (.ref s2), .val (.ref wm)] [(.ref wm), (.ref a1)])
  obtain ⟨_, b106, T106, h106, L106, e106, Cc106, X106, B106, J106, g106, hQ106, st106⟩ := own_callS Cc B103 J103 X103 (hw _ (List.mem_of_getElem? (i := 43) rfl)) (hw _ (List.mem_of_getElem? (i := 44) rfl)) (hw _ (List.mem_of_getElem? (i := 31) rfl)) (hw _ (List.mem_of_getElem? (i := 45) rfl)) (by decide) (rm7 l Z a0 hw [] _ h103 n0 O103 h0.size (own_ole O0) K103.1 wm S_M E_M) e103 (g := (mkF m 16 #[.val (.ref a1), .val (.ref s1), .val (.ref s2), .val (.ref wm)] [(.ref wm), (.ref a1)])) rfl (by rw [hml]; rfl) (argsL := [(.ref wm)]) (rest := [(.ref a1)]) (lenOf pd25 rfl) rfl (W := 1) (by show 2 * 0 + _ ≤ _; exact Nat.le_of_eq rfl) (hb hby d6_16) (by decide) (by decide) (by decide) (by decide)
  obtain ⟨rfl, Nq106, hh106⟩ := hQ106
  have N106 := Fr.app N103 (show Fr nb _ from fun y hy => Nat.le_trans hnb (Nq106 y hy))
  obtain ⟨hx, hZ, hown, hby, hml, hnm, hret, hlk⟩ := id Cc106
  rw [hh106] at e106 B106 J106
  refine Go.of st106 ?_
  show Go p e s below _ _ _ _ T106 (mkF m 19 #[.val (.ref a1), .val (.ref s1), .val (.ref s2), .val (.ref wm)] [(.ref wm), (.ref a1)])
  have f108 := ((F3.other W102 (Or.inr (slot_ne (Or.inr (hw _ (List.mem_of_getElem? (i := 49) rfl))) (Or.inr (hw _ (List.mem_of_getElem? (i := 40) rfl))) (by decide) (t := (.object "java/util/Map")) (t' := (.object "java/lang/String")) (by decide) (by decide)))).other W103 (Or.inr (slot_ne (Or.inr (hw _ (List.mem_of_getElem? (i := 49) rfl))) (Or.inr (hw _ (List.mem_of_getElem? (i := 42) rfl))) (by decide) (t := (.object "java/util/Map")) (t' := (.object "java/lang/String")) (by decide) (by decide))))
  have f109 := (f105.wr W103)
  obtain ⟨T107, h107, X107, e107, W107, st107⟩ := putF X106 hx hZ hown (host := "") (Or.inl (hw _ (List.mem_of_getElem? (i := 48) rfl))) Via.refl e106 f108 f109 (Or.inr ⟨(hw _ (List.mem_of_getElem? (i := 49) rfl)), rfl, hnm⟩) (hw _ (List.mem_of_getElem? (i := 27) rfl)) (ty := (.object "java/util/Map")) (by decide) rfl rfl (g := (mkF m 19 #[.val (.ref a1), .val (.ref s1), .val (.ref s2), .val (.ref wm)] [(.ref wm), (.ref a1)])) rfl rfl (hb hby d6_19)
  have N107 := Fr.snoc X107 N106 fr_a1
  have J107 := J106.wr W107 hm_a1
  have B107 := B106.mono (Nat.le_of_eq W107.size.symm)
  have O107 := O103.wr W107 (Nat.le_trans hb0 fr_a1)
  have K107 := K103.wr W107 (Or.inl (List.mem_of_getElem? (i := 0) rfl))
  have Fw107 := f108.same W107
  refine Go.of (fun _ hr => st107 _ hr) ?_
  show Go p e s below _ _ _ _ T107 (mkF m 22 #[.val (.ref a1), .val (.ref s1), .val (.ref s2), .val (.ref wm)] [])
  have f110 := ((Fw102.other W103 (Or.inr (slot_ne (Or.inr (hw _ (List.mem_of_getElem? (i := 40) rfl))) (Or.inr (hw _ (List.mem_of_getElem? (i := 42) rfl))) (by decide) (t := (.object "java/lang/String")) (t' := (.object "java/lang/String")) (by decide) (by decide)))).other W107 (Or.inr (slot_ne (Or.inr (hw _ (List.mem_of_getElem? (i := 40) rfl))) (Or.inr (hw _ (List.mem_of_getElem? (i := 49) rfl))) (by decide) (t := (.object "java/lang/String")) (t' := (.object "java/util/Map")) (by decide) (by decide))))
  have f111 := (Fw103.other W107 (Or.inr (slot_ne (Or.inr (hw _ (List.mem_of_getElem? (i := 42) rfl))) (Or.inr (hw _ (List.mem_of_getElem? (i := 49) rfl))) (by decide) (t := (.object "java/lang/String")) (t' := (.object "java/util/Map")) (by decide) (by decide))))
  exact Go.retV X107 hx hlk B107 J107 e107 hret (hb hby d6_22) (by decide) (by decide) (fun vm_ hw_ => ⟨rfl, N107, K107, f110, f111⟩)

theorem litI_len1 : (litI " ").length = 1 := by decide +kernel
theorem litI_sp : litI " " = [32] := by decide +kernel
theorem chV32 {b : List Int32} {i : Int32} (h : b.getD i.toNatClampNeg 0 = 32) : chV b i = 32 := by rw [chV, h]; decide
theorem mkL_n3 (n x y m u v : Int32) : ((mkL n x y).map lo8 ++ litI " " ++ (mkL m u v).map lo8).length = ((mkL n x y).map lo8).length + 1 + ((mkL m u v).map lo8).length := by
  rw [List.length_append, List.length_append, litI_len1]
theorem mkL_sum {n x y m u v : Int32} (hn : n = 0 ∨ n = 1 ∨ n = 2) (hm : m = 0 ∨ m = 1 ∨ m = 2) : Int32.ofNat ((mkL n x y).map lo8 ++ litI " " ++ (mkL m u v).map lo8).length = n + (1 : Int32) + m := by
  rw [mkL_n3, mkL_len_eq hn, mkL_len_eq hm]
  rcases hn with rfl | rfl | rfl <;> rcases hm with rfl | rfl | rfl <;> decide

theorem d8_0 : decode prog_8_method_5_code 0 = .ok (.new 49, 3) := by decide +kernel
theorem d8_3 : decode prog_8_method_5_code 3 = .ok (.dup, 1) := by decide +kernel
theorem d8_4 : decode prog_8_method_5_code 4 = .ok (.invokespecial 51, 3) := by decide +kernel
theorem pd26 : parseMethodDescriptor "()V" = some ⟨[], none⟩ := by decide +kernel
theorem d8_7 : decode prog_8_method_5_code 7 = .ok (.aload_n 0, 1) := by decide +kernel
theorem d8_8 : decode prog_8_method_5_code 8 = .ok (.getfield 7, 3) := by decide +kernel
theorem d8_11 : decode prog_8_method_5_code 11 = .ok (.invokevirtual 52, 3) := by decide +kernel
theorem pd27 : parseMethodDescriptor "(Ljava/lang/String;)Ljava/lang/StringBuilder;" = some ⟨[(.object "java/lang/String")], some (.object "java/lang/StringBuilder")⟩ := by decide +kernel
theorem d8_14 : decode prog_8_method_5_code 14 = .ok (.ldc 56, 2) := by decide +kernel
theorem d8_16 : decode prog_8_method_5_code 16 = .ok (.invokevirtual 52, 3) := by decide +kernel
theorem d8_19 : decode prog_8_method_5_code 19 = .ok (.aload_n 0, 1) := by decide +kernel
theorem d8_20 : decode prog_8_method_5_code 20 = .ok (.getfield 13, 3) := by decide +kernel
theorem d8_23 : decode prog_8_method_5_code 23 = .ok (.invokevirtual 52, 3) := by decide +kernel
theorem d8_26 : decode prog_8_method_5_code 26 = .ok (.invokevirtual 58, 3) := by decide +kernel
theorem pd28 : parseMethodDescriptor "()Ljava/lang/String;" = some ⟨[], some (.object "java/lang/String")⟩ := by decide +kernel
theorem d8_29 : decode prog_8_method_5_code 29 = .ok (.areturn, 1) := by decide +kernel
set_option maxRecDepth 65536 in
set_option maxHeartbeats 40000000 in
theorem rm8 (l : Launch) (Z : State) (a0 : Array Value) (hw : ∀ d ∈ tables_1, d.before a0 Z = true) (ws : List Jvm.Cond) (a1 : Addr) (s1 t1 : Addr) (k1 : ClassId) (b1 : List Int32) (s2 t2 : Addr) (k2 : ClassId) (b2 : List Int32) (zc : Int32) (ms : List Addr) (h0 : Heap) (n0 : Nat) (O0 : Old Z n0 h0) (nb : Nat) (hb0 : n0 ≤ nb) (hnb : nb ≤ h0.size) (Fm : Fld Z h0 a1 "com/example/measured_flow/measuredflow/HttpRequest" "method" "Ljava/lang/String;" (.ref s1)) (Fp : Fld Z h0 a1 "com/example/measured_flow/measuredflow/HttpRequest" "path" "Ljava/lang/String;" (.ref s2)) (Es1 : Exa Z h0 s1 "java/lang/String") (Fv1 : Fld Z h0 s1 "java/lang/String" "value" "[B" (.ref t1)) (Fc1 : Fld Z h0 s1 "java/lang/String" "coder" "B" (.int 0)) (V1 : Arv Z h0 t1 k1 .byte (Int32.ofNat b1.length) (b1.map Value.int) (.int 0)) (hn1 : b1.length ≤ 1000) (Es2 : Exa Z h0 s2 "java/lang/String") (Fv2 : Fld Z h0 s2 "java/lang/String" "value" "[B" (.ref t2)) (Fc2 : Fld Z h0 s2 "java/lang/String" "coder" "B" (.int 0)) (V2 : Arv Z h0 t2 k2 .byte (Int32.ofNat b2.length) (b2.map Value.int) (.int 0)) (hn2 : b2.length ≤ 1000) (hl5 : b1.length + b2.length ≤ 5) (S_C : Sta Z Z.heap "java/lang/String" "COMPACT_STRINGS" "Z" (.int zc)) (hzc : ¬ zc = 0) :
    Con l Z ms (⟨"com/example/measured_flow/measuredflow/HttpRequest", "toString", "()Ljava/lang/String;"⟩ : MethodName) prog_8_method_5_code 1 (some (.object "java/lang/String")) ws ({ frames := 6, cells := 6, slots := 48, locals := 113 } : Room) #[(.ref a1)] h0 (fun v vm h L => ∃ r t k, v = some (.ref r) ∧ Fr nb L ∧ Ext h0 h ∧ h0.size ≤ r ∧ h0.size ≤ t ∧ Exa Z h r "java/lang/String" ∧ Fld Z h r "java/lang/String" "value" "[B" (.ref t) ∧ Fld Z h r "java/lang/String" "coder" "B" (.int 0) ∧ Arv Z h t k .byte (Int32.ofNat (b1 ++ litI " " ++ b2).length) ((b1 ++ litI " " ++ b2).map Value.int) (.int 0)) := by
  refine Con.mk (plainFor_of_name pn9) ?_
  intro p e s m below meth c s₁ Cc X0 e0 eb J0 B0 M0
  obtain ⟨hx, hZ, hown, hby, hml, hnm, hret, hlk⟩ := id Cc
  have N0 := Fr.nil h0.size
  have K0 := Keep.refl h0 []
  show Go p e s below _ _ _ _ s₁ (mkF m 0 #[.val (.ref a1)] [])
  obtain ⟨T101, h101, X101, e101, E101, A101, D101, -, st101⟩ := newO X0 hx hZ hown (hw _ (List.mem_of_getElem? (i := 55) rfl)) (hw _ (List.mem_of_getElem? (i := 56) rfl)) (hw _ (List.mem_of_getElem? (i := 57) rfl)) e0 (g := (mkF m 0 #[.val (.ref a1)] [])) rfl (hb hby d8_0) (by decide) (by decide)
  obtain ⟨o101, g101⟩ : ∃ z, z = h0.size := ⟨_, rfl⟩
  rw [← g101] at A101 D101 st101
  have ne_a1_o101 : a1 ≠ o101 := Nat.ne_of_lt (Nat.lt_of_lt_of_le Fm.lt (Nat.le_of_eq g101.symm))
  have ne_s1_o101 : s1 ≠ o101 := Nat.ne_of_lt (Nat.lt_of_lt_of_le Es1.lt (Nat.le_of_eq g101.symm))
  have ne_t1_o101 : t1 ≠ o101 := Nat.ne_of_lt (Nat.lt_of_lt_of_le V1.lt (Nat.le_of_eq g101.symm))
  have ne_s2_o101 : s2 ≠ o101 := Nat.ne_of_lt (Nat.lt_of_lt_of_le Es2.lt (Nat.le_of_eq g101.symm))
  have ne_t2_o101 : t2 ≠ o101 := Nat.ne_of_lt (Nat.lt_of_lt_of_le V2.lt (Nat.le_of_eq g101.symm))
  have lt101 : o101 < h101.size := A101.lt
  have J101 := J0.add E101 g101 lt101
  have B101 := B0.mono E101.1
  have O101 := O0.ext E101
  have sz101 : h0.size ≤ o101 := Nat.le_trans K0.1 (Nat.le_of_eq g101.symm)
  have fr101 : h0.size ≤ o101 := sz101
  have K101 := K0.ext E101
  have F101_value : Fld Z h101 o101 "java/lang/AbstractStringBuilder" "value" "[B" .null := D101 (Or.inl (hw _ (List.mem_of_getElem? (i := 70) rfl))) (ty := (.array .byte)) (by decide)
  have F101_coder : Fld Z h101 o101 "java/lang/AbstractStringBuilder" "coder" "B" (.int (0 : Int32)) := D101 (Or.inl (hw _ (List.mem_of_getElem? (i := 72) rfl))) (ty := .byte) (by decide)
  have F101_count : Fld Z h101 o101 "java/lang/AbstractStringBuilder" "count" "I" (.int (0 : Int32)) := D101 (Or.inl (hw _ (List.mem_of_getElem? (i := 95) rfl))) (ty := .int) (by decide)
  refine Go.of (fun _ hr => st101 _ hr) ?_
  show Go p e s below _ _ _ _ T101 (mkF m 3 #[.val (.ref a1)] [(.ref o101)])
  refine Go.of (fun _ hr => XS.dup X101.here hx rfl (hb hby d8_3) rfl rfl hr) ?_
  show Go p e s below _ _ _ _ T101 (mkF m 4 #[.val (.ref a1)] [(.ref o101), (.ref o101)])
  obtain ⟨_, b102, T102, h102, L102, e102, Cc102, X102, B102, J102, g102, hQ102, st102⟩ := own_callI Cc B101 J101 X101 rfl (hw _ (List.mem_of_getElem? (i := 58) rfl)) (hw _ (List.mem_of_getElem? (i := 59) rfl)) (hw _ (List.mem_of_getElem? (i := 57) rfl)) (hw _ (List.mem_of_getElem? (i := 60) rfl)) (by decide) (rm9 l Z a0 hw [] o101 _ _ zc _ h101 n0 O101 h0.size (own_ole O0) K101.1 fr101 (List.mem_cons_self ..) A101 F101_value F101_coder F101_count S_C hzc) e101 (g := (mkF m 4 #[.val (.ref a1)] [(.ref o101), (.ref o101)])) rfl (by rw [hml]; rfl) (argsL := []) (rest := [(.ref o101)]) (lenOf pd26 rfl) rfl (W := 1) (by show 2 * 0 + _ ≤ _; exact Nat.le_of_eq rfl) (hb hby d8_4) (by decide) (by decide) (by decide) (by decide)
  have f103 := (Fm.ext E101)
  have f104 := (Es1.ext E101)
  have f105 := (V1.ext E101)
  have f106 := (Es2.ext E101)
  have f107 := (V2.ext E101)
  obtain ⟨rfl, Nq102, Kq102, v102, kv102, R_v102, Gv102, Gc102, Gn102, W102_, Jv102⟩ := hQ102
  have N102 := Fr.app N0 Nq102
  obtain ⟨hx, hZ, hown, hby, hml, hnm, hret, hlk⟩ := id Cc102
  have sz_v102 : h0.size ≤ v102 := Nat.le_trans K101.1 R_v102
  have fr_v102 : h0.size ≤ v102 := sz_v102
  have ne_a1_v102 : a1 ≠ v102 := Nat.ne_of_lt (Nat.lt_of_lt_of_le f103.lt R_v102)
  have ne_s1_v102 : s1 ≠ v102 := Nat.ne_of_lt (Nat.lt_of_lt_of_le f104.lt R_v102)
  have ne_t1_v102 : t1 ≠ v102 := Nat.ne_of_lt (Nat.lt_of_lt_of_le f105.lt R_v102)
  have ne_s2_v102 : s2 ≠ v102 := Nat.ne_of_lt (Nat.lt_of_lt_of_le f106.lt R_v102)
  have ne_t2_v102 : t2 ≠ v102 := Nat.ne_of_lt (Nat.lt_of_lt_of_le f107.lt R_v102)
  have ne_o101_v102 : o101 ≠ v102 := Nat.ne_of_lt (Nat.lt_of_lt_of_le A101.lt R_v102)
  have K102 := K101.trans Kq102 (allS (Or.inr sz101) all0)
  have O102 := O101.keep Kq102 (allS (Nat.le_trans (own_ole O0) fr101) all0)
  refine Go.of st102 ?_
  show Go p e s below _ _ _ _ T102 (mkF m 7 #[.val (.ref a1)] [(.ref o101)])
  refine Go.of (fun _ hr => XS.aloadN X102.here hx rfl (hb hby d8_7) rfl rfl hr) ?_
  show Go p e s below _ _ _ _ T102 (mkF m 8 #[.val (.ref a1)] [(.ref a1), (.ref o101)])
  have f109 := (f103.keep Kq102 (ninS ne_a1_o101 nin0))
  obtain ⟨T108, X108, e108, st108⟩ := getF X102 hx hZ hown (host := "") (Or.inl (hw _ (List.mem_of_getElem? (i := 39) rfl))) Via.refl e102 f109 (g := (mkF m 8 #[.val (.ref a1)] [(.ref a1), (.ref o101)])) rfl rfl (hb hby d8_8)
  refine Go.of (fun _ hr => st108 _ hr) ?_
  show Go p e s below _ _ _ _ T108 (mkF m 11 #[.val (.ref a1)] [(.ref s1), (.ref o101)])
  have f111 := (A101.keep Kq102)
  have f112 := (f104.keep Kq102)
  have f113 := ((Fv1.ext E101).keep Kq102 (ninS ne_s1_o101 nin0))
  have f114 := ((Fc1.ext E101).keep Kq102 (ninS ne_s1_o101 nin0))
  have f115 := (f105.keep Kq102 (ninS ne_t1_o101 nin0))
  obtain ⟨_, b110, T110, h110, L110, e110, Cc110, X110, B110, J110, g110, hQ110, st110⟩ := own_callV Cc102 B102 Jv102 X108 (hw _ (List.mem_of_getElem? (i := 73) rfl)) (hw _ (List.mem_of_getElem? (i := 74) rfl)) (notFace_of_selects (args := #[]) (mvT hZ (hw _ (List.mem_of_getElem? (i := 76) rfl)))) (hw _ (List.mem_of_getElem? (i := 76) rfl)) (hw _ (List.mem_of_getElem? (i := 75) rfl)) (hw _ (List.mem_of_getElem? (i := 57) rfl)) (hw _ (List.mem_of_getElem? (i := 77) rfl)) (by decide) f111 (rm11 l Z a0 hw [] o101 v102 _ ([] : List Int32) s1 t1 _ b1 zc _ h102 n0 O102 h0.size (own_ole O0) K102.1 fr101 (List.mem_cons_of_mem _ (List.mem_cons_self ..)) fr_v102 (List.mem_cons_self ..) f111 Gv102 Gc102 Gn102 W102_ f112 f113 f114 f115 hn1 (by simp only [List.length_append, List.length_nil, litI_len1]; omega) ne_t1_v102 ne_o101_v102 ne_s1_v102 ne_t1_o101 ne_s1_o101 S_C hzc) e108 (g := (mkF m 11 #[.val (.ref a1)] [(.ref s1), (.ref o101)])) rfl (by rw [hml]; rfl) (argsL := [(.ref s1)]) (rest := []) (lenOf pd27 rfl) rfl (W := 0) (by show 2 * 0 + _ ≤ _; exact Nat.le_of_eq rfl) (hb hby d8_11) (by decide) (by decide) (by decide) (by decide)
  obtain ⟨rfl, Nq110, Kq110, Gv110, Gc110, Gn110, Wv110⟩ := hQ110
  have N110 := Fr.app N102 Nq110
  obtain ⟨hx, hZ, hown, hby, hml, hnm, hret, hlk⟩ := id Cc110
  have K110 := K102.trans Kq110 (allS (Or.inr sz101) (allS (Or.inr sz_v102) all0))
  have O110 := O102.keep Kq110 (allS (Nat.le_trans (own_ole O0) fr101) (allS (Nat.le_trans (own_ole O0) fr_v102) all0))
  refine Go.of st110 ?_
  show Go p e s below _ _ _ _ T110 (mkF m 14 #[.val (.ref a1)] [(.ref o101)])
  obtain ⟨o116, t116, k116, b116, T116, h116, e116, Cc116, X116, B116, J116, E116, Sy116, na116, nt116, lt116, st116⟩ := own_ldcV Cc110 B110 J110 X110 lit1_in lit1_one (hw _ (List.mem_of_getElem? (i := 121) rfl)) (own_wS Z a0 hw) lit1_lat lit1_len (by rw [eb]; exact N110) (by rw [eb]; exact O0.2) e110 (g := (mkF m 14 #[.val (.ref a1)] [(.ref o101)])) rfl (hb hby d8_14) (n := 4) lit1_sz (by decide) (by decide) (by decide)
  obtain ⟨hx, hZ, hown, hby, hml, hnm, hret, hlk⟩ := id Cc116
  have K116 := K110.ext E116
  have O116 := O110.ext E116
  have nx_o116_v102 : o116 ≠ v102 := fun q => na116 (by rw [q]; exact (List.mem_cons_self ..))
  have nx_o116_o101 : o116 ≠ o101 := fun q => na116 (by rw [q]; exact (List.mem_cons_of_mem _ (List.mem_cons_self ..)))
  have nx_t116_v102 : t116 ≠ v102 := fun q => nt116 (by rw [q]; exact (List.mem_cons_self ..))
  have nx_t116_o101 : t116 ≠ o101 := fun q => nt116 (by rw [q]; exact (List.mem_cons_of_mem _ (List.mem_cons_self ..)))
  refine Go.of (fun _ hr => st116 _ hr) ?_
  show Go p e s below _ _ _ _ T116 (mkF m 16 #[.val (.ref a1)] [(.ref o116), (.ref o101)])
  have f118 := ((f111.keep Kq110).ext E116)
  have f119 := (Gv110.ext E116)
  have f120 := (Gc110.ext E116)
  have f121 := (Gn110.ext E116)
  have f122 := (Wv110.ext E116)
  obtain ⟨_, b117, T117, h117, L117, e117, Cc117, X117, B117, J117, g117, hQ117, st117⟩ := own_callV Cc116 B116 J116 X116 (hw _ (List.mem_of_getElem? (i := 73) rfl)) (hw _ (List.mem_of_getElem? (i := 74) rfl)) (notFace_of_selects (args := #[]) (mvT hZ (hw _ (List.mem_of_getElem? (i := 76) rfl)))) (hw _ (List.mem_of_getElem? (i := 76) rfl)) (hw _ (List.mem_of_getElem? (i := 75) rfl)) (hw _ (List.mem_of_getElem? (i := 57) rfl)) (hw _ (List.mem_of_getElem? (i := 77) rfl)) (by decide) f118 (rm11 l Z a0 hw [] o101 v102 _ (([] : List Int32) ++ b1) o116 t116 _ (litI " ") zc _ h116 n0 O116 h0.size (own_ole O0) K116.1 fr101 (List.mem_cons_of_mem _ (List.mem_cons_self ..)) fr_v102 (List.mem_cons_self ..) f118 f119 f120 f121 f122 Sy116.1 Sy116.2.2.1 Sy116.2.1 Sy116.2.2.2 (by decide +kernel) (by simp only [List.length_append, List.length_nil, litI_len1]; omega) nx_t116_v102 ne_o101_v102 nx_o116_v102 nx_t116_o101 nx_o116_o101 S_C hzc) e116 (g := (mkF m 16 #[.val (.ref a1)] [(.ref o116), (.ref o101)])) rfl (by rw [hml]; rfl) (argsL := [(.ref o116)]) (rest := []) (lenOf pd27 rfl) rfl (W := 0) (by show 2 * 0 + _ ≤ _; exact Nat.le_of_eq rfl) (hb hby d8_16) (by decide) (by decide) (by decide) (by decide)
  obtain ⟨rfl, Nq117, Kq117, Gv117, Gc117, Gn117, Wv117⟩ := hQ117
  have N117 := Fr.app N110 Nq117
  obtain ⟨hx, hZ, hown, hby, hml, hnm, hret, hlk⟩ := id Cc117
  have K117 := K116.trans Kq117 (allS (Or.inr sz101) (allS (Or.inr sz_v102) all0))
  have O117 := O116.keep Kq117 (allS (Nat.le_trans (own_ole O0) fr101) (allS (Nat.le_trans (own_ole O0) fr_v102) all0))
  refine Go.of st117 ?_
  show Go p e s below _ _ _ _ T117 (mkF m 19 #[.val (.ref a1)] [(.ref o101)])
  refine Go.of (fun _ hr => XS.aloadN X117.here hx rfl (hb hby d8_19) rfl rfl hr) ?_
  show Go p e s below _ _ _ _ T117 (mkF m 20 #[.val (.ref a1)] [(.ref a1), (.ref o101)])
  have f124 := (((((Fp.ext E101).keep Kq102 (ninS ne_a1_o101 nin0)).keep Kq110 (ninS ne_a1_o101 (ninS ne_a1_v102 nin0))).ext E116).keep Kq117 (ninS ne_a1_o101 (ninS ne_a1_v102 nin0)))
  obtain ⟨T123, X123, e123, st123⟩ := getF X117 hx hZ hown (host := "") (Or.inl (hw _ (List.mem_of_getElem? (i := 41) rfl))) Via.refl e117 f124 (g := (mkF m 20 #[.val (.ref a1)] [(.ref a1), (.ref o101)])) rfl rfl (hb hby d8_20)
  refine Go.of (fun _ hr => st123 _ hr) ?_
  show Go p e s below _ _ _ _ T123 (mkF m 23 #[.val (.ref a1)] [(.ref s2), (.ref o101)])
  have f126 := (f118.keep Kq117)
  have f127 := ((((f106.keep Kq102).keep Kq110).ext E116).keep Kq117)
  have f128 := (((((Fv2.ext E101).keep Kq102 (ninS ne_s2_o101 nin0)).keep Kq110 (ninS ne_s2_o101 (ninS ne_s2_v102 nin0))).ext E116).keep Kq117 (ninS ne_s2_o101 (ninS ne_s2_v102 nin0)))
  have f129 := (((((Fc2.ext E101).keep Kq102 (ninS ne_s2_o101 nin0)).keep Kq110 (ninS ne_s2_o101 (ninS ne_s2_v102 nin0))).ext E116).keep Kq117 (ninS ne_s2_o101 (ninS ne_s2_v102 nin0)))
  have f130 := ((((f107.keep Kq102 (ninS ne_t2_o101 nin0)).keep Kq110 (ninS ne_t2_o101 (ninS ne_t2_v102 nin0))).ext E116).keep Kq117 (ninS ne_t2_o101 (ninS ne_t2_v102 nin0)))
  obtain ⟨_, b125, T125, h125, L125, e125, Cc125, X125, B125, J125, g125, hQ125, st125⟩ := own_callV Cc117 B117 J117 X123 (hw _ (List.mem_of_getElem? (i := 73) rfl)) (hw _ (List.mem_of_getElem? (i := 74) rfl)) (notFace_of_selects (args := #[]) (mvT hZ (hw _ (List.mem_of_getElem? (i := 76) rfl)))) (hw _ (List.mem_of_getElem? (i := 76) rfl)) (hw _ (List.mem_of_getElem? (i := 75) rfl)) (hw _ (List.mem_of_getElem? (i := 57) rfl)) (hw _ (List.mem_of_getElem? (i := 77) rfl)) (by decide) f126 (rm11 l Z a0 hw [] o101 v102 _ ((([] : List Int32) ++ b1) ++ (litI " ")) s2 t2 _ b2 zc _ h117 n0 O117 h0.size (own_ole O0) K117.1 fr101 (List.mem_cons_of_mem _ (List.mem_cons_self ..)) fr_v102 (List.mem_cons_self ..) f126 Gv117 Gc117 Gn117 Wv117 f127 f128 f129 f130 hn2 (by simp only [List.length_append, List.length_nil, litI_len1]; omega) ne_t2_v102 ne_o101_v102 ne_s2_v102 ne_t2_o101 ne_s2_o101 S_C hzc) e123 (g := (mkF m 23 #[.val (.ref a1)] [(.ref s2), (.ref o101)])) rfl (by rw [hml]; rfl) (argsL := [(.ref s2)]) (rest := []) (lenOf pd27 rfl) rfl (W := 0) (by show 2 * 0 + _ ≤ _; exact Nat.le_of_eq rfl) (hb hby d8_23) (by decide) (by decide) (by decide) (by decide)
  obtain ⟨rfl, Nq125, Kq125, Gv125, Gc125, Gn125, Wv125⟩ := hQ125
  have N125 := Fr.app N117 Nq125
  obtain ⟨hx, hZ, hown, hby, hml, hnm, hret, hlk⟩ := id Cc125
  have K125 := K117.trans Kq125 (allS (Or.inr sz101) (allS (Or.inr sz_v102) all0))
  have O125 := O117.keep Kq125 (allS (Nat.le_trans (own_ole O0) fr101) (allS (Nat.le_trans (own_ole O0) fr_v102) all0))
  refine Go.of st125 ?_
  show Go p e s below _ _ _ _ T125 (mkF m 26 #[.val (.ref a1)] [(.ref o101)])
  have f132 := (f126.keep Kq125)
  obtain ⟨_, b131, T131, h131, L131, e131, Cc131, X131, B131, J131, g131, hQ131, st131⟩ := own_callV Cc125 B125 J125 X125 (hw _ (List.mem_of_getElem? (i := 122) rfl)) (hw _ (List.mem_of_getElem? (i := 123) rfl)) (notFace_of_selects (args := #[]) (mvT hZ (hw _ (List.mem_of_getElem? (i := 125) rfl)))) (hw _ (List.mem_of_getElem? (i := 125) rfl)) (hw _ (List.mem_of_getElem? (i := 124) rfl)) (hw _ (List.mem_of_getElem? (i := 57) rfl)) (hw _ (List.mem_of_getElem? (i := 126) rfl)) (by decide) f132 (rm19 l Z a0 hw [] o101 v102 _ (((([] : List Int32) ++ b1) ++ (litI " ")) ++ b2) zc _ h125 n0 O125 h0.size (own_ole O0) K125.1 f132 Gv125 Gc125 Gn125 Wv125 (by simp only [List.length_append, List.length_nil, litI_len1]; omega) S_C hzc) e125 (g := (mkF m 26 #[.val (.ref a1)] [(.ref o101)])) rfl (by rw [hml]; rfl) (argsL := []) (rest := []) (lenOf pd28 rfl) rfl (W := 0) (by show 2 * 0 + _ ≤ _; exact Nat.le_of_eq rfl) (hb hby d8_26) (by decide) (by decide) (by decide) (by decide)
  have f133 := ((((f109.keep Kq110 (ninS ne_a1_o101 (ninS ne_a1_v102 nin0))).ext E116).keep Kq117 (ninS ne_a1_o101 (ninS ne_a1_v102 nin0))).keep Kq125 (ninS ne_a1_o101 (ninS ne_a1_v102 nin0)))
  have f134 := ((((f112.keep Kq110).ext E116).keep Kq117).keep Kq125)
  have f135 := ((((f115.keep Kq110 (ninS ne_t1_o101 (ninS ne_t1_v102 nin0))).ext E116).keep Kq117 (ninS ne_t1_o101 (ninS ne_t1_v102 nin0))).keep Kq125 (ninS ne_t1_o101 (ninS ne_t1_v102 nin0)))
  have f136 := (f127.keep Kq125)
  have f137 := (f130.keep Kq125 (ninS ne_t2_o101 (ninS ne_t2_v102 nin0)))
  have f138 := ((Sy116.1.keep Kq117).keep Kq125)
  have f139 := ((Sy116.2.2.2.keep Kq117 (ninS nx_t116_o101 (ninS nx_t116_v102 nin0))).keep Kq125 (ninS nx_t116_o101 (ninS nx_t116_v102 nin0)))
  obtain ⟨r131, t131, kt131, rfl, Nq131, Eq131, R_r131, R_t131, Er131, Fv131, Fc131, Vt131⟩ := hQ131
  have N131 := Fr.app N125 Nq131
  obtain ⟨hx, hZ, hown, hby, hml, hnm, hret, hlk⟩ := id Cc131
  have sz_r131 : h0.size ≤ r131 := Nat.le_trans K125.1 R_r131
  have fr_r131 : h0.size ≤ r131 := sz_r131
  have ne_a1_r131 : a1 ≠ r131 := Nat.ne_of_lt (Nat.lt_of_lt_of_le f133.lt R_r131)
  have ne_s1_r131 : s1 ≠ r131 := Nat.ne_of_lt (Nat.lt_of_lt_of_le f134.lt R_r131)
  have ne_t1_r131 : t1 ≠ r131 := Nat.ne_of_lt (Nat.lt_of_lt_of_le f135.lt R_r131)
  have ne_s2_r131 : s2 ≠ r131 := Nat.ne_of_lt (Nat.lt_of_lt_of_le f136.lt R_r131)
  have ne_t2_r131 : t2 ≠ r131 := Nat.ne_of_lt (Nat.lt_of_lt_of_le f137.lt R_r131)
  have ne_o101_r131 : o101 ≠ r131 := Nat.ne_of_lt (Nat.lt_of_lt_of_le f132.lt R_r131)
  have ne_o116_r131 : o116 ≠ r131 := Nat.ne_of_lt (Nat.lt_of_lt_of_le f138.lt R_r131)
  have ne_t116_r131 : t116 ≠ r131 := Nat.ne_of_lt (Nat.lt_of_lt_of_le f139.lt R_r131)
  have ne_v102_r131 : v102 ≠ r131 := Nat.ne_of_lt (Nat.lt_of_lt_of_le Wv125.lt R_r131)
  have sz_t131 : h0.size ≤ t131 := Nat.le_trans K125.1 R_t131
  have fr_t131 : h0.size ≤ t131 := sz_t131
  have ne_a1_t131 : a1 ≠ t131 := Nat.ne_of_lt (Nat.lt_of_lt_of_le f133.lt R_t131)
  have ne_s1_t131 : s1 ≠ t131 := Nat.ne_of_lt (Nat.lt_of_lt_of_le f134.lt R_t131)
  have ne_t1_t131 : t1 ≠ t131 := Nat.ne_of_lt (Nat.lt_of_lt_of_le f135.lt R_t131)
  have ne_s2_t131 : s2 ≠ t131 := Nat.ne_of_lt (Nat.lt_of_lt_of_le f136.lt R_t131)
  have ne_t2_t131 : t2 ≠ t131 := Nat.ne_of_lt (Nat.lt_of_lt_of_le f137.lt R_t131)
  have ne_o101_t131 : o101 ≠ t131 := Nat.ne_of_lt (Nat.lt_of_lt_of_le f132.lt R_t131)
  have ne_o116_t131 : o116 ≠ t131 := Nat.ne_of_lt (Nat.lt_of_lt_of_le f138.lt R_t131)
  have ne_t116_t131 : t116 ≠ t131 := Nat.ne_of_lt (Nat.lt_of_lt_of_le f139.lt R_t131)
  have ne_v102_t131 : v102 ≠ t131 := Nat.ne_of_lt (Nat.lt_of_lt_of_le Wv125.lt R_t131)
  have K131 := K125.ext Eq131
  have O131 := O125.ext Eq131
  refine Go.of st131 ?_
  show Go p e s below _ _ _ _ T131 (mkF m 29 #[.val (.ref a1)] [(.ref r131)])
  exact Go.retA X131 hx hlk B131 (J131.sub fun x hx => (List.mem_cons_of_mem _ (List.mem_cons_of_mem _ hx))) e131 hret rfl rfl (hb hby d8_29) (by decide) (by decide) (fun vm_ hw_ => ⟨_, _, _, rfl, (fun y hy => Nat.le_trans hnb (N131 y hy)), keep_ext K131, sz_r131, sz_t131, Er131, Fv131, Fc131, Vt131⟩)

theorem d30_0 : decode method_3_code 0 = .ok (.iload_n 2, 1) := by decide +kernel
theorem d30_1 : decode method_3_code 1 = .ok (.iload_n 3, 1) := by decide +kernel
theorem d30_2 : decode method_3_code 2 = .ok (.if_icmp .ge 14, 3) := by decide +kernel
theorem d30_5 : decode method_3_code 5 = .ok (.aload_n 0, 1) := by decide +kernel
theorem d30_6 : decode method_3_code 6 = .ok (.iload_n 2, 1) := by decide +kernel
theorem d30_7 : decode method_3_code 7 = .ok (.invokevirtual 16, 3) := by decide +kernel
theorem pd29 : parseMethodDescriptor "(I)C" = some ⟨[.int], some .char⟩ := by decide +kernel
theorem d30_10 : decode method_3_code 10 = .ok (.aload_n 1, 1) := by decide +kernel
theorem d30_11 : decode method_3_code 11 = .ok (.iload_n 2, 1) := by decide +kernel
theorem d30_12 : decode method_3_code 12 = .ok (.caload, 1) := by decide +kernel
theorem d30_13 : decode method_3_code 13 = .ok (.if_icmp .ne 7, 3) := by decide +kernel
theorem d30_16 : decode method_3_code 16 = .ok (.iconst 1, 1) := by decide +kernel
theorem d30_17 : decode method_3_code 17 = .ok (.goto 4, 3) := by decide +kernel
theorem d30_21 : decode method_3_code 21 = .ok (.ireturn, 1) := by decide +kernel
set_option maxRecDepth 65536 in
set_option maxHeartbeats 40000000 in
theorem rm30 (l : Launch) (Z : State) (a0 : Array Value) (hw : ∀ d ∈ tables_1, d.before a0 Z = true) (ws : List Jvm.Cond) (s1 t1 : Addr) (k1 : ClassId) (b1 : List Int32) (a2 : Addr) (k2 : ClassId) (es : List Int32) (i1 j1 : Int32) (zc : Int32) (ms : List Addr) (h0 : Heap) (n0 : Nat) (O0 : Old Z n0 h0) (nb : Nat) (hb0 : n0 ≤ nb) (hnb : nb ≤ h0.size) (fs : Value) (hfs : fs = .null ∨ ∃ a, fs = .ref a) (S_F : Sta Z Z.heap "jdk/internal/util/Preconditions" "SIOOBE_FORMATTER" "Ljava/util/function/BiFunction;" fs) (Es1 : Exa Z h0 s1 "java/lang/String") (Fv1 : Fld Z h0 s1 "java/lang/String" "value" "[B" (.ref t1)) (Fc1 : Fld Z h0 s1 "java/lang/String" "coder" "B" (.int 0)) (V1 : Arv Z h0 t1 k1 .byte (Int32.ofNat b1.length) (b1.map Value.int) (.int 0)) (hn1 : b1.length ≤ 1000) (V2 : Arv Z h0 a2 k2 .char 5 (es.map Value.int) (.int 0)) (i0 : ¬ i1 < 0) (i5 : i1 < 5) (hnn : j1 = Int32.ofNat b1.length) (hat : i1 < j1 → chV b1 i1 = es.getD i1.toNatClampNeg 0) (S_C : Sta Z Z.heap "java/lang/String" "COMPACT_STRINGS" "Z" (.int zc)) (hzc : ¬ zc = 0) :
    Con l Z ms (⟨"com/example/measured_flow/measuredflow/HttpRequestToStringPinLaw", "at", "(Ljava/lang/String;[CII)Z"⟩ : MethodName) method_3_code 4 (some .boolean) ws ({ frames := 4, cells := 0, slots := 0, locals := 54 } : Room) #[(.ref s1), (.ref a2), (.int i1), (.int j1)] h0 (fun v vm h L => v = some (.int 1) ∧ Fr nb L ∧ h = h0) := by
  refine Con.mk (plainFor_of_name pn7) ?_
  intro p e s m below meth c s₁ Cc X0 e0 eb J0 B0 M0
  obtain ⟨hx, hZ, hown, hby, hml, hnm, hret, hlk⟩ := id Cc
  have N0 := Fr.nil h0.size
  have K0 := Keep.refl h0 []
  show Go p e s below _ _ _ _ s₁ (mkF m 0 #[.val (.ref s1), .val (.ref a2), .val (.int i1), .val (.int j1)] [])
  refine Go.of (fun _ hr => XS.iloadN X0.here hx rfl (hb hby d30_0) rfl  hr) ?_
  show Go p e s below _ _ _ _ s₁ (mkF m 1 #[.val (.ref s1), .val (.ref a2), .val (.int i1), .val (.int j1)] [(.int i1)])
  refine Go.of (fun _ hr => XS.iloadN X0.here hx rfl (hb hby d30_1) rfl  hr) ?_
  show Go p e s below _ _ _ _ s₁ (mkF m 2 #[.val (.ref s1), .val (.ref a2), .val (.int i1), .val (.int j1)] [(.int j1), (.int i1)])
  by_cases hb2_101 : i1 < j1
  · refine Go.of (fun _ hr => XS.icmpNo X0.here hx rfl (hb hby d30_2) rfl (tlt hb2_101).2.1 hr) ?_
    show Go p e s below _ _ _ _ s₁ (mkF m 5 #[.val (.ref s1), .val (.ref a2), .val (.int i1), .val (.int j1)] [])
    refine Go.of (fun _ hr => XS.aloadN X0.here hx rfl (hb hby d30_5) rfl rfl hr) ?_
    show Go p e s below _ _ _ _ s₁ (mkF m 6 #[.val (.ref s1), .val (.ref a2), .val (.int i1), .val (.int j1)] [(.ref s1)])
    refine Go.of (fun _ hr => XS.iloadN X0.here hx rfl (hb hby d30_6) rfl  hr) ?_
    show Go p e s below _ _ _ _ s₁ (mkF m 7 #[.val (.ref s1), .val (.ref a2), .val (.int i1), .val (.int j1)] [(.int i1), (.ref s1)])
    obtain ⟨_, b102, T102, h102, L102, e102, Cc102, X102, B102, J102, g102, hQ102, st102⟩ := own_callV Cc B0 J0 X0 (hw _ (List.mem_of_getElem? (i := 171) rfl)) (hw _ (List.mem_of_getElem? (i := 172) rfl)) (notFace_of_selects (args := #[]) (mvT hZ (hw _ (List.mem_of_getElem? (i := 174) rfl)))) (hw _ (List.mem_of_getElem? (i := 174) rfl)) (hw _ (List.mem_of_getElem? (i := 173) rfl)) (hw _ (List.mem_of_getElem? (i := 6) rfl)) (hw _ (List.mem_of_getElem? (i := 175) rfl)) (by decide) Es1 (rm31 l Z a0 hw [] s1 t1 _ b1 i1 zc _ h0 n0 O0 h0.size (own_ole O0) K0.1 fs hfs S_F Es1 Fv1 Fc1 V1 hn1 i0 (by rw [← hnn]; exact hb2_101) S_C hzc) e0 (g := (mkF m 7 #[.val (.ref s1), .val (.ref a2), .val (.int i1), .val (.int j1)] [(.int i1), (.ref s1)])) rfl (by rw [hml]; rfl) (argsL := [(.int i1)]) (rest := []) (lenOf pd29 rfl) rfl (W := 0) (by show 2 * 0 + _ ≤ _; exact Nat.le_of_eq rfl) (hb hby d30_7) (by decide) (by decide) (by decide) (by decide)
    obtain ⟨rfl, Nq102, hh102⟩ := hQ102
    have N102 := Fr.app N0 Nq102
    obtain ⟨hx, hZ, hown, hby, hml, hnm, hret, hlk⟩ := id Cc102
    rw [hh102] at e102 B102 J102
    refine Go.of st102 ?_
    show Go p e s below _ _ _ _ T102 (mkF m 10 #[.val (.ref s1), .val (.ref a2), .val (.int i1), .val (.int j1)] [(.int (chV b1 i1))])
    refine Go.of (fun _ hr => XS.aloadN X102.here hx rfl (hb hby d30_10) rfl rfl hr) ?_
    show Go p e s below _ _ _ _ T102 (mkF m 11 #[.val (.ref s1), .val (.ref a2), .val (.int i1), .val (.int j1)] [(.ref a2), (.int (chV b1 i1))])
    refine Go.of (fun _ hr => XS.iloadN X102.here hx rfl (hb hby d30_11) rfl  hr) ?_
    show Go p e s below _ _ _ _ T102 (mkF m 12 #[.val (.ref s1), .val (.ref a2), .val (.int i1), .val (.int j1)] [(.int i1), (.ref a2), (.int (chV b1 i1))])
    obtain ⟨cl103, Ar103, q103, S103, N103_, H103, G103⟩ := id V2
    have hin103 : ¬ (i1 < 0 ∨ cl103.slots.size ≤ (i1).toNatClampNeg) := inb_of S103 ⟨i0, i5⟩
    refine Go.of (fun _ hr => X102.caload hx (j := i1) (v := (.int (es.getD i1.toNatClampNeg 0))) (by rw [e102]; exact Ar103.1) (State.isArrayOf_alike hZ.alike Ar103.2.1) Ar103.2.2 hin103 (H103.at hin103 (getD_int es _)) (g := (mkF m 12 #[.val (.ref s1), .val (.ref a2), .val (.int i1), .val (.int j1)] [(.int i1), (.ref a2), (.int (chV b1 i1))])) rfl rfl (hb hby d30_12) _ hr) ?_
    show Go p e s below _ _ _ _ T102 (mkF m 13 #[.val (.ref s1), .val (.ref a2), .val (.int i1), .val (.int j1)] [(.int (es.getD i1.toNatClampNeg 0)), (.int (chV b1 i1))])
    refine Go.of (fun _ hr => XS.icmpNo X102.here hx rfl (hb hby d30_13) rfl (teq (hat hb2_101)).2 hr) ?_
    show Go p e s below _ _ _ _ T102 (mkF m 16 #[.val (.ref s1), .val (.ref a2), .val (.int i1), .val (.int j1)] [])
    refine Go.of (fun _ hr => XS.iconst X102.here hx rfl (hb hby d30_16) hr) ?_
    show Go p e s below _ _ _ _ T102 (mkF m 17 #[.val (.ref s1), .val (.ref a2), .val (.int i1), .val (.int j1)] [(.int (1 : Int32))])
    refine Go.of (fun _ hr => XS.goto X102.here hx rfl (pc0 := 17) (pc' := 21) rfl (hb hby d30_17) (by decide) (by decide) hr) ?_
    show Go p e s below _ _ _ _ T102 (mkF m 21 #[.val (.ref s1), .val (.ref a2), .val (.int i1), .val (.int j1)] [(.int (1 : Int32))])
    exact Go.retN X102 hx hlk B102 J102 e102 (t := .boolean) (z' := (1 : Int32)) hret (by simp) (hb hby d30_21) rfl (by decide) (by decide) (fun vm_ hw_ => ⟨rfl, (fun y hy => Nat.le_trans hnb (N102 y hy)), rfl⟩)
  · refine Go.of (fun _ hr => XS.icmpYes X0.here hx rfl (pc0 := 2) (pc' := 16) rfl (hb hby d30_2) rfl (flt hb2_101).2.1 (by decide) (by decide) hr) ?_
    show Go p e s below _ _ _ _ s₁ (mkF m 16 #[.val (.ref s1), .val (.ref a2), .val (.int i1), .val (.int j1)] [])
    refine Go.of (fun _ hr => XS.iconst X0.here hx rfl (hb hby d30_16) hr) ?_
    show Go p e s below _ _ _ _ s₁ (mkF m 17 #[.val (.ref s1), .val (.ref a2), .val (.int i1), .val (.int j1)] [(.int (1 : Int32))])
    refine Go.of (fun _ hr => XS.goto X0.here hx rfl (pc0 := 17) (pc' := 21) rfl (hb hby d30_17) (by decide) (by decide) hr) ?_
    show Go p e s below _ _ _ _ s₁ (mkF m 21 #[.val (.ref s1), .val (.ref a2), .val (.int i1), .val (.int j1)] [(.int (1 : Int32))])
    exact Go.retN X0 hx hlk B0 J0 e0 (t := .boolean) (z' := (1 : Int32)) hret (by simp) (hb hby d30_21) rfl (by decide) (by decide) (fun vm_ hw_ => ⟨rfl, (fun y hy => Nat.le_trans hnb (N0 y hy)), rfl⟩)

abbrev LB0 (p1 : Int32) (p2 : Int32) (p3 : Int32) (p4 : Int32) (p5 : Int32) (ml : Int32) (pl : Int32) (ca : Int32) (cb : Int32) (cc : Int32) (cd : Int32) (y1 : Addr) (y2 : Addr) (y3 : Addr) (s1 : Addr) (nn : Int32) (e1 : Addr) (kk : Int32) : Array Slot := #[.val (.int p1), .val (.int p2), .val (.int p3), .val (.int p4), .val (.int p5), .val (.int ml), .val (.int pl), .val (.int ca), .val (.int cb), .val (.int cc), .val (.int cd), .val (.ref y1), .val (.ref y2), .val (.ref y3), .val (.ref s1), .val (.int nn), .val (.ref e1), .val (.int kk)]
theorem pd33 : parseMethodDescriptor "(Ljava/lang/String;[CII)Z" = some ⟨[(.object "java/lang/String"), (.array .char), .int, .int], some .boolean⟩ := by decide +kernel
set_option maxRecDepth 65536 in
set_option maxHeartbeats 40000000 in
theorem law_tail (l : Launch) (Z : State) (a0 : Array Value) (hw : ∀ d ∈ tables_1, d.before a0 Z = true) {p : Program} {e : Env} {s b T0 : State} {m : MethodId} {args : Array Value} {below : List Frame} {meth : Method} {c : Code} {locs : List Loc} {ms : List Addr} (p1 p2 p3 p4 p5 ml pl ca cb cc cd : Int32) (y1 y2 y3 : Addr) (nn kk : Int32) (s1 t1 : Addr) (k1 : ClassId) (b1 : List Int32) (e1 : Addr) (ke : ClassId) (es : List Int32) (zc : Int32) (h0 : Heap) (n0 : Nat) (O0 : Old Z n0 h0) (nb : Nat) (hb0 : n0 ≤ nb) (hnb : nb ≤ h0.size) (fs : Value) (hfs : fs = .null ∨ ∃ a, fs = .ref a) (S_F : Sta Z Z.heap "jdk/internal/util/Preconditions" "SIOOBE_FORMATTER" "Ljava/util/function/BiFunction;" fs) (Es1 : Exa Z h0 s1 "java/lang/String") (Fv1 : Fld Z h0 s1 "java/lang/String" "value" "[B" (.ref t1)) (Fc1 : Fld Z h0 s1 "java/lang/String" "coder" "B" (.int 0)) (V1 : Arv Z h0 t1 k1 .byte (Int32.ofNat b1.length) (b1.map Value.int) (.int 0)) (hn1 : b1.length ≤ 1000) (Ve : Arv Z h0 e1 ke .char 5 (es.map Value.int) (.int 0)) (hnn : nn = Int32.ofNat b1.length) (ha0 : (0 : Int32) < nn → chV b1 (0 : Int32) = es.getD (0 : Int32).toNatClampNeg 0) (ha1 : (1 : Int32) < nn → chV b1 (1 : Int32) = es.getD (1 : Int32).toNatClampNeg 0) (ha2 : (2 : Int32) < nn → chV b1 (2 : Int32) = es.getD (2 : Int32).toNatClampNeg 0) (ha3 : (3 : Int32) < nn → chV b1 (3 : Int32) = es.getD (3 : Int32).toNatClampNeg 0) (ha4 : (4 : Int32) < nn → chV b1 (4 : Int32) = es.getD (4 : Int32).toNatClampNeg 0) (S_C : Sta Z Z.heap "java/lang/String" "COMPACT_STRINGS" "Z" (.int zc)) (hzc : ¬ zc = 0) (Cc : Cx Z p b m meth c "com/example/measured_flow/measuredflow/HttpRequestToStringPinLaw" code 18 "law" ret) (X0 : Stand p l e room_1 b m args below meth c T0 locs 16 76) (e0 : T0.heap = h0) (N0 : Fr nb locs) (J0 : Hd Z (ms) b.vm h0) (B0 : Bs s b h0) :
    Go p e s below room_1.cells room_1.slots (Hd Z ms) (fun v vm h L => v = some (.int 1) ∧ Fr nb L) T0 (mkF m 203 (LB0 p1 p2 p3 p4 p5 ml pl ca cb cc cd y1 y2 y3 s1 nn e1 kk) []) := by
  obtain ⟨hx, hZ, hown, hby, hml, hnm, hret, hlk⟩ := id Cc
  have K0 := Keep.refl h0 []
  show Go p e s below _ _ _ _ T0 (mkF m 203 (LB0 p1 p2 p3 p4 p5 ml pl ca cb cc cd y1 y2 y3 s1 nn e1 kk) [])
  refine Go.of (fun _ hr => XS.aload X0.here hx rfl (hb hby at_203) rfl rfl hr) ?_
  show Go p e s below _ _ _ _ T0 (mkF m 205 (LB0 p1 p2 p3 p4 p5 ml pl ca cb cc cd y1 y2 y3 s1 nn e1 kk) [(.ref s1)])
  refine Go.of (fun _ hr => XS.aload X0.here hx rfl (hb hby at_205) rfl rfl hr) ?_
  show Go p e s below _ _ _ _ T0 (mkF m 207 (LB0 p1 p2 p3 p4 p5 ml pl ca cb cc cd y1 y2 y3 s1 nn e1 kk) [(.ref e1), (.ref s1)])
  refine Go.of (fun _ hr => XS.iconst X0.here hx rfl (hb hby at_207) hr) ?_
  show Go p e s below _ _ _ _ T0 (mkF m 208 (LB0 p1 p2 p3 p4 p5 ml pl ca cb cc cd y1 y2 y3 s1 nn e1 kk) [(.int (0 : Int32)), (.ref e1), (.ref s1)])
  refine Go.of (fun _ hr => XS.iload X0.here hx rfl (hb hby at_208) rfl  hr) ?_
  show Go p e s below _ _ _ _ T0 (mkF m 210 (LB0 p1 p2 p3 p4 p5 ml pl ca cb cc cd y1 y2 y3 s1 nn e1 kk) [(.int nn), (.int (0 : Int32)), (.ref e1), (.ref s1)])
  obtain ⟨_, b101, T101, h101, L101, e101, Cc101, X101, B101, J101, g101, hQ101, st101⟩ := own_callS Cc B0 J0 X0 (hw _ (List.mem_of_getElem? (i := 168) rfl)) (hw _ (List.mem_of_getElem? (i := 169) rfl)) (hw _ (List.mem_of_getElem? (i := 2) rfl)) (hw _ (List.mem_of_getElem? (i := 170) rfl)) (by decide) (rm30 l Z a0 hw [] s1 t1 _ b1 e1 _ es (0 : Int32) nn zc _ h0 n0 O0 h0.size (own_ole O0) K0.1 fs hfs S_F Es1 Fv1 Fc1 V1 hn1 Ve (by decide) (by decide) hnn ha0 S_C hzc) e0 (g := (mkF m 210 (LB0 p1 p2 p3 p4 p5 ml pl ca cb cc cd y1 y2 y3 s1 nn e1 kk) [(.int nn), (.int (0 : Int32)), (.ref e1), (.ref s1)])) rfl (by rw [hml]; rfl) (argsL := [(.ref s1), (.ref e1), (.int (0 : Int32)), (.int nn)]) (rest := []) (lenOf pd33 rfl) rfl (W := 0) (by show 2 * 0 + _ ≤ _; exact Nat.le_of_eq rfl) (hb hby at_210) (by decide) (by decide) (by decide) (by decide)
  obtain ⟨rfl, Nq101, hh101⟩ := hQ101
  have N101 := Fr.app N0 (show Fr nb _ from fun y hy => Nat.le_trans hnb (Nq101 y hy))
  obtain ⟨hx, hZ, hown, hby, hml, hnm, hret, hlk⟩ := id Cc101
  rw [hh101] at e101 B101 J101
  refine Go.of st101 ?_
  show Go p e s below _ _ _ _ T101 (mkF m 213 (LB0 p1 p2 p3 p4 p5 ml pl ca cb cc cd y1 y2 y3 s1 nn e1 kk) [(.int (1 : Int32))])
  refine Go.of (fun _ hr => XS.ifNo X101.here hx rfl (hb hby at_213) rfl ((if0 _ _).trans (feq (by decide : ¬ ((1 : Int32) = (0 : Int32)))).1) hr) ?_
  show Go p e s below _ _ _ _ T101 (mkF m 216 (LB0 p1 p2 p3 p4 p5 ml pl ca cb cc cd y1 y2 y3 s1 nn e1 kk) [])
  refine Go.of (fun _ hr => XS.aload X101.here hx rfl (hb hby at_216) rfl rfl hr) ?_
  show Go p e s below _ _ _ _ T101 (mkF m 218 (LB0 p1 p2 p3 p4 p5 ml pl ca cb cc cd y1 y2 y3 s1 nn e1 kk) [(.ref s1)])
  refine Go.of (fun _ hr => XS.aload X101.here hx rfl (hb hby at_218) rfl rfl hr) ?_
  show Go p e s below _ _ _ _ T101 (mkF m 220 (LB0 p1 p2 p3 p4 p5 ml pl ca cb cc cd y1 y2 y3 s1 nn e1 kk) [(.ref e1), (.ref s1)])
  refine Go.of (fun _ hr => XS.iconst X101.here hx rfl (hb hby at_220) hr) ?_
  show Go p e s below _ _ _ _ T101 (mkF m 221 (LB0 p1 p2 p3 p4 p5 ml pl ca cb cc cd y1 y2 y3 s1 nn e1 kk) [(.int (1 : Int32)), (.ref e1), (.ref s1)])
  refine Go.of (fun _ hr => XS.iload X101.here hx rfl (hb hby at_221) rfl  hr) ?_
  show Go p e s below _ _ _ _ T101 (mkF m 223 (LB0 p1 p2 p3 p4 p5 ml pl ca cb cc cd y1 y2 y3 s1 nn e1 kk) [(.int nn), (.int (1 : Int32)), (.ref e1), (.ref s1)])
  obtain ⟨_, b102, T102, h102, L102, e102, Cc102, X102, B102, J102, g102, hQ102, st102⟩ := own_callS Cc101 B101 J101 X101 (hw _ (List.mem_of_getElem? (i := 168) rfl)) (hw _ (List.mem_of_getElem? (i := 169) rfl)) (hw _ (List.mem_of_getElem? (i := 2) rfl)) (hw _ (List.mem_of_getElem? (i := 170) rfl)) (by decide) (rm30 l Z a0 hw [] s1 t1 _ b1 e1 _ es (1 : Int32) nn zc _ h0 n0 O0 h0.size (own_ole O0) K0.1 fs hfs S_F Es1 Fv1 Fc1 V1 hn1 Ve (by decide) (by decide) hnn ha1 S_C hzc) e101 (g := (mkF m 223 (LB0 p1 p2 p3 p4 p5 ml pl ca cb cc cd y1 y2 y3 s1 nn e1 kk) [(.int nn), (.int (1 : Int32)), (.ref e1), (.ref s1)])) rfl (by rw [hml]; rfl) (argsL := [(.ref s1), (.ref e1), (.int (1 : Int32)), (.int nn)]) (rest := []) (lenOf pd33 rfl) rfl (W := 0) (by show 2 * 0 + _ ≤ _; exact Nat.le_of_eq rfl) (hb hby at_223) (by decide) (by decide) (by decide) (by decide)
  obtain ⟨rfl, Nq102, hh102⟩ := hQ102
  have N102 := Fr.app N101 (show Fr nb _ from fun y hy => Nat.le_trans hnb (Nq102 y hy))
  obtain ⟨hx, hZ, hown, hby, hml, hnm, hret, hlk⟩ := id Cc102
  rw [hh102] at e102 B102 J102
  refine Go.of st102 ?_
  show Go p e s below _ _ _ _ T102 (mkF m 226 (LB0 p1 p2 p3 p4 p5 ml pl ca cb cc cd y1 y2 y3 s1 nn e1 kk) [(.int (1 : Int32))])
  refine Go.of (fun _ hr => XS.ifNo X102.here hx rfl (hb hby at_226) rfl ((if0 _ _).trans (feq (by decide : ¬ ((1 : Int32) = (0 : Int32)))).1) hr) ?_
  show Go p e s below _ _ _ _ T102 (mkF m 229 (LB0 p1 p2 p3 p4 p5 ml pl ca cb cc cd y1 y2 y3 s1 nn e1 kk) [])
  refine Go.of (fun _ hr => XS.aload X102.here hx rfl (hb hby at_229) rfl rfl hr) ?_
  show Go p e s below _ _ _ _ T102 (mkF m 231 (LB0 p1 p2 p3 p4 p5 ml pl ca cb cc cd y1 y2 y3 s1 nn e1 kk) [(.ref s1)])
  refine Go.of (fun _ hr => XS.aload X102.here hx rfl (hb hby at_231) rfl rfl hr) ?_
  show Go p e s below _ _ _ _ T102 (mkF m 233 (LB0 p1 p2 p3 p4 p5 ml pl ca cb cc cd y1 y2 y3 s1 nn e1 kk) [(.ref e1), (.ref s1)])
  refine Go.of (fun _ hr => XS.iconst X102.here hx rfl (hb hby at_233) hr) ?_
  show Go p e s below _ _ _ _ T102 (mkF m 234 (LB0 p1 p2 p3 p4 p5 ml pl ca cb cc cd y1 y2 y3 s1 nn e1 kk) [(.int (2 : Int32)), (.ref e1), (.ref s1)])
  refine Go.of (fun _ hr => XS.iload X102.here hx rfl (hb hby at_234) rfl  hr) ?_
  show Go p e s below _ _ _ _ T102 (mkF m 236 (LB0 p1 p2 p3 p4 p5 ml pl ca cb cc cd y1 y2 y3 s1 nn e1 kk) [(.int nn), (.int (2 : Int32)), (.ref e1), (.ref s1)])
  obtain ⟨_, b103, T103, h103, L103, e103, Cc103, X103, B103, J103, g103, hQ103, st103⟩ := own_callS Cc102 B102 J102 X102 (hw _ (List.mem_of_getElem? (i := 168) rfl)) (hw _ (List.mem_of_getElem? (i := 169) rfl)) (hw _ (List.mem_of_getElem? (i := 2) rfl)) (hw _ (List.mem_of_getElem? (i := 170) rfl)) (by decide) (rm30 l Z a0 hw [] s1 t1 _ b1 e1 _ es (2 : Int32) nn zc _ h0 n0 O0 h0.size (own_ole O0) K0.1 fs hfs S_F Es1 Fv1 Fc1 V1 hn1 Ve (by decide) (by decide) hnn ha2 S_C hzc) e102 (g := (mkF m 236 (LB0 p1 p2 p3 p4 p5 ml pl ca cb cc cd y1 y2 y3 s1 nn e1 kk) [(.int nn), (.int (2 : Int32)), (.ref e1), (.ref s1)])) rfl (by rw [hml]; rfl) (argsL := [(.ref s1), (.ref e1), (.int (2 : Int32)), (.int nn)]) (rest := []) (lenOf pd33 rfl) rfl (W := 0) (by show 2 * 0 + _ ≤ _; exact Nat.le_of_eq rfl) (hb hby at_236) (by decide) (by decide) (by decide) (by decide)
  obtain ⟨rfl, Nq103, hh103⟩ := hQ103
  have N103 := Fr.app N102 (show Fr nb _ from fun y hy => Nat.le_trans hnb (Nq103 y hy))
  obtain ⟨hx, hZ, hown, hby, hml, hnm, hret, hlk⟩ := id Cc103
  rw [hh103] at e103 B103 J103
  refine Go.of st103 ?_
  show Go p e s below _ _ _ _ T103 (mkF m 239 (LB0 p1 p2 p3 p4 p5 ml pl ca cb cc cd y1 y2 y3 s1 nn e1 kk) [(.int (1 : Int32))])
  refine Go.of (fun _ hr => XS.ifNo X103.here hx rfl (hb hby at_239) rfl ((if0 _ _).trans (feq (by decide : ¬ ((1 : Int32) = (0 : Int32)))).1) hr) ?_
  show Go p e s below _ _ _ _ T103 (mkF m 242 (LB0 p1 p2 p3 p4 p5 ml pl ca cb cc cd y1 y2 y3 s1 nn e1 kk) [])
  refine Go.of (fun _ hr => XS.aload X103.here hx rfl (hb hby at_242) rfl rfl hr) ?_
  show Go p e s below _ _ _ _ T103 (mkF m 244 (LB0 p1 p2 p3 p4 p5 ml pl ca cb cc cd y1 y2 y3 s1 nn e1 kk) [(.ref s1)])
  refine Go.of (fun _ hr => XS.aload X103.here hx rfl (hb hby at_244) rfl rfl hr) ?_
  show Go p e s below _ _ _ _ T103 (mkF m 246 (LB0 p1 p2 p3 p4 p5 ml pl ca cb cc cd y1 y2 y3 s1 nn e1 kk) [(.ref e1), (.ref s1)])
  refine Go.of (fun _ hr => XS.iconst X103.here hx rfl (hb hby at_246) hr) ?_
  show Go p e s below _ _ _ _ T103 (mkF m 247 (LB0 p1 p2 p3 p4 p5 ml pl ca cb cc cd y1 y2 y3 s1 nn e1 kk) [(.int (3 : Int32)), (.ref e1), (.ref s1)])
  refine Go.of (fun _ hr => XS.iload X103.here hx rfl (hb hby at_247) rfl  hr) ?_
  show Go p e s below _ _ _ _ T103 (mkF m 249 (LB0 p1 p2 p3 p4 p5 ml pl ca cb cc cd y1 y2 y3 s1 nn e1 kk) [(.int nn), (.int (3 : Int32)), (.ref e1), (.ref s1)])
  obtain ⟨_, b104, T104, h104, L104, e104, Cc104, X104, B104, J104, g104, hQ104, st104⟩ := own_callS Cc103 B103 J103 X103 (hw _ (List.mem_of_getElem? (i := 168) rfl)) (hw _ (List.mem_of_getElem? (i := 169) rfl)) (hw _ (List.mem_of_getElem? (i := 2) rfl)) (hw _ (List.mem_of_getElem? (i := 170) rfl)) (by decide) (rm30 l Z a0 hw [] s1 t1 _ b1 e1 _ es (3 : Int32) nn zc _ h0 n0 O0 h0.size (own_ole O0) K0.1 fs hfs S_F Es1 Fv1 Fc1 V1 hn1 Ve (by decide) (by decide) hnn ha3 S_C hzc) e103 (g := (mkF m 249 (LB0 p1 p2 p3 p4 p5 ml pl ca cb cc cd y1 y2 y3 s1 nn e1 kk) [(.int nn), (.int (3 : Int32)), (.ref e1), (.ref s1)])) rfl (by rw [hml]; rfl) (argsL := [(.ref s1), (.ref e1), (.int (3 : Int32)), (.int nn)]) (rest := []) (lenOf pd33 rfl) rfl (W := 0) (by show 2 * 0 + _ ≤ _; exact Nat.le_of_eq rfl) (hb hby at_249) (by decide) (by decide) (by decide) (by decide)
  obtain ⟨rfl, Nq104, hh104⟩ := hQ104
  have N104 := Fr.app N103 (show Fr nb _ from fun y hy => Nat.le_trans hnb (Nq104 y hy))
  obtain ⟨hx, hZ, hown, hby, hml, hnm, hret, hlk⟩ := id Cc104
  rw [hh104] at e104 B104 J104
  refine Go.of st104 ?_
  show Go p e s below _ _ _ _ T104 (mkF m 252 (LB0 p1 p2 p3 p4 p5 ml pl ca cb cc cd y1 y2 y3 s1 nn e1 kk) [(.int (1 : Int32))])
  refine Go.of (fun _ hr => XS.ifNo X104.here hx rfl (hb hby at_252) rfl ((if0 _ _).trans (feq (by decide : ¬ ((1 : Int32) = (0 : Int32)))).1) hr) ?_
  show Go p e s below _ _ _ _ T104 (mkF m 255 (LB0 p1 p2 p3 p4 p5 ml pl ca cb cc cd y1 y2 y3 s1 nn e1 kk) [])
  refine Go.of (fun _ hr => XS.aload X104.here hx rfl (hb hby at_255) rfl rfl hr) ?_
  show Go p e s below _ _ _ _ T104 (mkF m 257 (LB0 p1 p2 p3 p4 p5 ml pl ca cb cc cd y1 y2 y3 s1 nn e1 kk) [(.ref s1)])
  refine Go.of (fun _ hr => XS.aload X104.here hx rfl (hb hby at_257) rfl rfl hr) ?_
  show Go p e s below _ _ _ _ T104 (mkF m 259 (LB0 p1 p2 p3 p4 p5 ml pl ca cb cc cd y1 y2 y3 s1 nn e1 kk) [(.ref e1), (.ref s1)])
  refine Go.of (fun _ hr => XS.iconst X104.here hx rfl (hb hby at_259) hr) ?_
  show Go p e s below _ _ _ _ T104 (mkF m 260 (LB0 p1 p2 p3 p4 p5 ml pl ca cb cc cd y1 y2 y3 s1 nn e1 kk) [(.int (4 : Int32)), (.ref e1), (.ref s1)])
  refine Go.of (fun _ hr => XS.iload X104.here hx rfl (hb hby at_260) rfl  hr) ?_
  show Go p e s below _ _ _ _ T104 (mkF m 262 (LB0 p1 p2 p3 p4 p5 ml pl ca cb cc cd y1 y2 y3 s1 nn e1 kk) [(.int nn), (.int (4 : Int32)), (.ref e1), (.ref s1)])
  obtain ⟨_, b105, T105, h105, L105, e105, Cc105, X105, B105, J105, g105, hQ105, st105⟩ := own_callS Cc104 B104 J104 X104 (hw _ (List.mem_of_getElem? (i := 168) rfl)) (hw _ (List.mem_of_getElem? (i := 169) rfl)) (hw _ (List.mem_of_getElem? (i := 2) rfl)) (hw _ (List.mem_of_getElem? (i := 170) rfl)) (by decide) (rm30 l Z a0 hw [] s1 t1 _ b1 e1 _ es (4 : Int32) nn zc _ h0 n0 O0 h0.size (own_ole O0) K0.1 fs hfs S_F Es1 Fv1 Fc1 V1 hn1 Ve (by decide) (by decide) hnn ha4 S_C hzc) e104 (g := (mkF m 262 (LB0 p1 p2 p3 p4 p5 ml pl ca cb cc cd y1 y2 y3 s1 nn e1 kk) [(.int nn), (.int (4 : Int32)), (.ref e1), (.ref s1)])) rfl (by rw [hml]; rfl) (argsL := [(.ref s1), (.ref e1), (.int (4 : Int32)), (.int nn)]) (rest := []) (lenOf pd33 rfl) rfl (W := 0) (by show 2 * 0 + _ ≤ _; exact Nat.le_of_eq rfl) (hb hby at_262) (by decide) (by decide) (by decide) (by decide)
  obtain ⟨rfl, Nq105, hh105⟩ := hQ105
  have N105 := Fr.app N104 (show Fr nb _ from fun y hy => Nat.le_trans hnb (Nq105 y hy))
  obtain ⟨hx, hZ, hown, hby, hml, hnm, hret, hlk⟩ := id Cc105
  rw [hh105] at e105 B105 J105
  refine Go.of st105 ?_
  show Go p e s below _ _ _ _ T105 (mkF m 265 (LB0 p1 p2 p3 p4 p5 ml pl ca cb cc cd y1 y2 y3 s1 nn e1 kk) [(.int (1 : Int32))])
  refine Go.of (fun _ hr => XS.ifNo X105.here hx rfl (hb hby at_265) rfl ((if0 _ _).trans (feq (by decide : ¬ ((1 : Int32) = (0 : Int32)))).1) hr) ?_
  show Go p e s below _ _ _ _ T105 (mkF m 268 (LB0 p1 p2 p3 p4 p5 ml pl ca cb cc cd y1 y2 y3 s1 nn e1 kk) [])
  refine Go.of (fun _ hr => XS.iconst X105.here hx rfl (hb hby at_268) hr) ?_
  show Go p e s below _ _ _ _ T105 (mkF m 269 (LB0 p1 p2 p3 p4 p5 ml pl ca cb cc cd y1 y2 y3 s1 nn e1 kk) [(.int (1 : Int32))])
  refine Go.of (fun _ hr => XS.goto X105.here hx rfl (pc0 := 269) (pc' := 273) rfl (hb hby at_269) (by decide) (by decide) hr) ?_
  show Go p e s below _ _ _ _ T105 (mkF m 273 (LB0 p1 p2 p3 p4 p5 ml pl ca cb cc cd y1 y2 y3 s1 nn e1 kk) [(.int (1 : Int32))])
  exact Go.retN X105 hx hlk B105 J105 e105 (t := .boolean) (z' := (1 : Int32)) hret (by simp) (hb hby at_273) rfl (by decide) (by decide) (fun vm_ hw_ => ⟨rfl, N105⟩)

abbrev LA0 (p1 : Int32) (p2 : Int32) (p3 : Int32) (p4 : Int32) (p5 : Int32) : Array Slot := #[.val (.int p1), .val (.int p2), .val (.int p3), .val (.int p4), .val (.int p5), .unset, .unset, .unset, .unset, .unset, .unset, .unset, .unset, .unset, .unset, .unset, .unset, .unset]
abbrev LA1 (p1 : Int32) (p2 : Int32) (p3 : Int32) (p4 : Int32) (p5 : Int32) (ml : Int32) : Array Slot := #[.val (.int p1), .val (.int p2), .val (.int p3), .val (.int p4), .val (.int p5), .val (.int ml), .unset, .unset, .unset, .unset, .unset, .unset, .unset, .unset, .unset, .unset, .unset, .unset]
abbrev LA2 (p1 : Int32) (p2 : Int32) (p3 : Int32) (p4 : Int32) (p5 : Int32) (ml : Int32) (pl : Int32) : Array Slot := #[.val (.int p1), .val (.int p2), .val (.int p3), .val (.int p4), .val (.int p5), .val (.int ml), .val (.int pl), .unset, .unset, .unset, .unset, .unset, .unset, .unset, .unset, .unset, .unset, .unset]
abbrev LA3 (p1 : Int32) (p2 : Int32) (p3 : Int32) (p4 : Int32) (p5 : Int32) (ml : Int32) (pl : Int32) (ca : Int32) : Array Slot := #[.val (.int p1), .val (.int p2), .val (.int p3), .val (.int p4), .val (.int p5), .val (.int ml), .val (.int pl), .val (.int ca), .unset, .unset, .unset, .unset, .unset, .unset, .unset, .unset, .unset, .unset]
abbrev LA4 (p1 : Int32) (p2 : Int32) (p3 : Int32) (p4 : Int32) (p5 : Int32) (ml : Int32) (pl : Int32) (ca : Int32) (cb : Int32) : Array Slot := #[.val (.int p1), .val (.int p2), .val (.int p3), .val (.int p4), .val (.int p5), .val (.int ml), .val (.int pl), .val (.int ca), .val (.int cb), .unset, .unset, .unset, .unset, .unset, .unset, .unset, .unset, .unset]
abbrev LA5 (p1 : Int32) (p2 : Int32) (p3 : Int32) (p4 : Int32) (p5 : Int32) (ml : Int32) (pl : Int32) (ca : Int32) (cb : Int32) (cc : Int32) : Array Slot := #[.val (.int p1), .val (.int p2), .val (.int p3), .val (.int p4), .val (.int p5), .val (.int ml), .val (.int pl), .val (.int ca), .val (.int cb), .val (.int cc), .unset, .unset, .unset, .unset, .unset, .unset, .unset, .unset]
abbrev LA6 (p1 : Int32) (p2 : Int32) (p3 : Int32) (p4 : Int32) (p5 : Int32) (ml : Int32) (pl : Int32) (ca : Int32) (cb : Int32) (cc : Int32) (cd : Int32) : Array Slot := #[.val (.int p1), .val (.int p2), .val (.int p3), .val (.int p4), .val (.int p5), .val (.int ml), .val (.int pl), .val (.int ca), .val (.int cb), .val (.int cc), .val (.int cd), .unset, .unset, .unset, .unset, .unset, .unset, .unset]
abbrev LA7 (p1 : Int32) (p2 : Int32) (p3 : Int32) (p4 : Int32) (p5 : Int32) (ml : Int32) (pl : Int32) (ca : Int32) (cb : Int32) (cc : Int32) (cd : Int32) (r101 : Addr) : Array Slot := #[.val (.int p1), .val (.int p2), .val (.int p3), .val (.int p4), .val (.int p5), .val (.int ml), .val (.int pl), .val (.int ca), .val (.int cb), .val (.int cc), .val (.int cd), .val (.ref r101), .unset, .unset, .unset, .unset, .unset, .unset]
abbrev LA8 (p1 : Int32) (p2 : Int32) (p3 : Int32) (p4 : Int32) (p5 : Int32) (ml : Int32) (pl : Int32) (ca : Int32) (cb : Int32) (cc : Int32) (cd : Int32) (r101 : Addr) (r102 : Addr) : Array Slot := #[.val (.int p1), .val (.int p2), .val (.int p3), .val (.int p4), .val (.int p5), .val (.int ml), .val (.int pl), .val (.int ca), .val (.int cb), .val (.int cc), .val (.int cd), .val (.ref r101), .val (.ref r102), .unset, .unset, .unset, .unset, .unset]
abbrev LA9 (p1 : Int32) (p2 : Int32) (p3 : Int32) (p4 : Int32) (p5 : Int32) (ml : Int32) (pl : Int32) (ca : Int32) (cb : Int32) (cc : Int32) (cd : Int32) (r101 : Addr) (r102 : Addr) (o103 : Addr) : Array Slot := #[.val (.int p1), .val (.int p2), .val (.int p3), .val (.int p4), .val (.int p5), .val (.int ml), .val (.int pl), .val (.int ca), .val (.int cb), .val (.int cc), .val (.int cd), .val (.ref r101), .val (.ref r102), .val (.ref o103), .unset, .unset, .unset, .unset]
abbrev LA10 (p1 : Int32) (p2 : Int32) (p3 : Int32) (p4 : Int32) (p5 : Int32) (ml : Int32) (pl : Int32) (ca : Int32) (cb : Int32) (cc : Int32) (cd : Int32) (r101 : Addr) (r102 : Addr) (o103 : Addr) (r108 : Addr) : Array Slot := #[.val (.int p1), .val (.int p2), .val (.int p3), .val (.int p4), .val (.int p5), .val (.int ml), .val (.int pl), .val (.int ca), .val (.int cb), .val (.int cc), .val (.int cd), .val (.ref r101), .val (.ref r102), .val (.ref o103), .val (.ref r108), .unset, .unset, .unset]
abbrev LA11 (p1 : Int32) (p2 : Int32) (p3 : Int32) (p4 : Int32) (p5 : Int32) (ml : Int32) (pl : Int32) (ca : Int32) (cb : Int32) (cc : Int32) (cd : Int32) (r101 : Addr) (r102 : Addr) (o103 : Addr) (r108 : Addr) : Array Slot := #[.val (.int p1), .val (.int p2), .val (.int p3), .val (.int p4), .val (.int p5), .val (.int ml), .val (.int pl), .val (.int ca), .val (.int cb), .val (.int cc), .val (.int cd), .val (.ref r101), .val (.ref r102), .val (.ref o103), .val (.ref r108), .val (.int ((ml + (1 : Int32)) + pl)), .unset, .unset]
abbrev LA12 (p1 : Int32) (p2 : Int32) (p3 : Int32) (p4 : Int32) (p5 : Int32) (ca : Int32) (cb : Int32) (cc : Int32) (cd : Int32) (r101 : Addr) (r102 : Addr) (o103 : Addr) (r108 : Addr) (o119 : Addr) : Array Slot := #[.val (.int p1), .val (.int p2), .val (.int p3), .val (.int p4), .val (.int p5), .val (.int (0 : Int32)), .val (.int (0 : Int32)), .val (.int ca), .val (.int cb), .val (.int cc), .val (.int cd), .val (.ref r101), .val (.ref r102), .val (.ref o103), .val (.ref r108), .val (.int (((0 : Int32) + (1 : Int32)) + (0 : Int32))), .val (.ref o119), .val (.int (0 : Int32))]
abbrev LA13 (p1 : Int32) (p2 : Int32) (p3 : Int32) (p4 : Int32) (p5 : Int32) (ca : Int32) (cb : Int32) (cc : Int32) (cd : Int32) (r101 : Addr) (r102 : Addr) (o103 : Addr) (r108 : Addr) (o119 : Addr) : Array Slot := #[.val (.int p1), .val (.int p2), .val (.int p3), .val (.int p4), .val (.int p5), .val (.int (0 : Int32)), .val (.int (0 : Int32)), .val (.int ca), .val (.int cb), .val (.int cc), .val (.int cd), .val (.ref r101), .val (.ref r102), .val (.ref o103), .val (.ref r108), .val (.int (((0 : Int32) + (1 : Int32)) + (0 : Int32))), .val (.ref o119), .val (.int (1 : Int32))]
abbrev LA14 (p1 : Int32) (p2 : Int32) (p3 : Int32) (p4 : Int32) (p5 : Int32) (ca : Int32) (cb : Int32) (cc : Int32) (cd : Int32) (r101 : Addr) (r102 : Addr) (o103 : Addr) (r108 : Addr) (o119 : Addr) : Array Slot := #[.val (.int p1), .val (.int p2), .val (.int p3), .val (.int p4), .val (.int p5), .val (.int (0 : Int32)), .val (.int (1 : Int32)), .val (.int ca), .val (.int cb), .val (.int cc), .val (.int cd), .val (.ref r101), .val (.ref r102), .val (.ref o103), .val (.ref r108), .val (.int (((0 : Int32) + (1 : Int32)) + (1 : Int32))), .val (.ref o119), .val (.int (0 : Int32))]
abbrev LA15 (p1 : Int32) (p2 : Int32) (p3 : Int32) (p4 : Int32) (p5 : Int32) (ca : Int32) (cb : Int32) (cc : Int32) (cd : Int32) (r101 : Addr) (r102 : Addr) (o103 : Addr) (r108 : Addr) (o119 : Addr) : Array Slot := #[.val (.int p1), .val (.int p2), .val (.int p3), .val (.int p4), .val (.int p5), .val (.int (0 : Int32)), .val (.int (1 : Int32)), .val (.int ca), .val (.int cb), .val (.int cc), .val (.int cd), .val (.ref r101), .val (.ref r102), .val (.ref o103), .val (.ref r108), .val (.int (((0 : Int32) + (1 : Int32)) + (1 : Int32))), .val (.ref o119), .val (.int (1 : Int32))]
abbrev LA16 (p1 : Int32) (p2 : Int32) (p3 : Int32) (p4 : Int32) (p5 : Int32) (ca : Int32) (cb : Int32) (cc : Int32) (cd : Int32) (r101 : Addr) (r102 : Addr) (o103 : Addr) (r108 : Addr) (o119 : Addr) : Array Slot := #[.val (.int p1), .val (.int p2), .val (.int p3), .val (.int p4), .val (.int p5), .val (.int (0 : Int32)), .val (.int (1 : Int32)), .val (.int ca), .val (.int cb), .val (.int cc), .val (.int cd), .val (.ref r101), .val (.ref r102), .val (.ref o103), .val (.ref r108), .val (.int (((0 : Int32) + (1 : Int32)) + (1 : Int32))), .val (.ref o119), .val (.int (2 : Int32))]
abbrev LA17 (p1 : Int32) (p2 : Int32) (p3 : Int32) (p4 : Int32) (p5 : Int32) (ca : Int32) (cb : Int32) (cc : Int32) (cd : Int32) (r101 : Addr) (r102 : Addr) (o103 : Addr) (r108 : Addr) (o119 : Addr) : Array Slot := #[.val (.int p1), .val (.int p2), .val (.int p3), .val (.int p4), .val (.int p5), .val (.int (0 : Int32)), .val (.int (2 : Int32)), .val (.int ca), .val (.int cb), .val (.int cc), .val (.int cd), .val (.ref r101), .val (.ref r102), .val (.ref o103), .val (.ref r108), .val (.int (((0 : Int32) + (1 : Int32)) + (2 : Int32))), .val (.ref o119), .val (.int (0 : Int32))]
abbrev LA18 (p1 : Int32) (p2 : Int32) (p3 : Int32) (p4 : Int32) (p5 : Int32) (ca : Int32) (cb : Int32) (cc : Int32) (cd : Int32) (r101 : Addr) (r102 : Addr) (o103 : Addr) (r108 : Addr) (o119 : Addr) : Array Slot := #[.val (.int p1), .val (.int p2), .val (.int p3), .val (.int p4), .val (.int p5), .val (.int (0 : Int32)), .val (.int (2 : Int32)), .val (.int ca), .val (.int cb), .val (.int cc), .val (.int cd), .val (.ref r101), .val (.ref r102), .val (.ref o103), .val (.ref r108), .val (.int (((0 : Int32) + (1 : Int32)) + (2 : Int32))), .val (.ref o119), .val (.int (1 : Int32))]
abbrev LA19 (p1 : Int32) (p2 : Int32) (p3 : Int32) (p4 : Int32) (p5 : Int32) (ca : Int32) (cb : Int32) (cc : Int32) (cd : Int32) (r101 : Addr) (r102 : Addr) (o103 : Addr) (r108 : Addr) (o119 : Addr) : Array Slot := #[.val (.int p1), .val (.int p2), .val (.int p3), .val (.int p4), .val (.int p5), .val (.int (0 : Int32)), .val (.int (2 : Int32)), .val (.int ca), .val (.int cb), .val (.int cc), .val (.int cd), .val (.ref r101), .val (.ref r102), .val (.ref o103), .val (.ref r108), .val (.int (((0 : Int32) + (1 : Int32)) + (2 : Int32))), .val (.ref o119), .val (.int (2 : Int32))]
abbrev LA20 (p1 : Int32) (p2 : Int32) (p3 : Int32) (p4 : Int32) (p5 : Int32) (ca : Int32) (cb : Int32) (cc : Int32) (cd : Int32) (r101 : Addr) (r102 : Addr) (o103 : Addr) (r108 : Addr) (o119 : Addr) : Array Slot := #[.val (.int p1), .val (.int p2), .val (.int p3), .val (.int p4), .val (.int p5), .val (.int (1 : Int32)), .val (.int (0 : Int32)), .val (.int ca), .val (.int cb), .val (.int cc), .val (.int cd), .val (.ref r101), .val (.ref r102), .val (.ref o103), .val (.ref r108), .val (.int (((1 : Int32) + (1 : Int32)) + (0 : Int32))), .val (.ref o119), .val (.int (0 : Int32))]
abbrev LA21 (p1 : Int32) (p2 : Int32) (p3 : Int32) (p4 : Int32) (p5 : Int32) (ca : Int32) (cb : Int32) (cc : Int32) (cd : Int32) (r101 : Addr) (r102 : Addr) (o103 : Addr) (r108 : Addr) (o119 : Addr) : Array Slot := #[.val (.int p1), .val (.int p2), .val (.int p3), .val (.int p4), .val (.int p5), .val (.int (1 : Int32)), .val (.int (0 : Int32)), .val (.int ca), .val (.int cb), .val (.int cc), .val (.int cd), .val (.ref r101), .val (.ref r102), .val (.ref o103), .val (.ref r108), .val (.int (((1 : Int32) + (1 : Int32)) + (0 : Int32))), .val (.ref o119), .val (.int (1 : Int32))]
abbrev LA22 (p1 : Int32) (p2 : Int32) (p3 : Int32) (p4 : Int32) (p5 : Int32) (ca : Int32) (cb : Int32) (cc : Int32) (cd : Int32) (r101 : Addr) (r102 : Addr) (o103 : Addr) (r108 : Addr) (o119 : Addr) : Array Slot := #[.val (.int p1), .val (.int p2), .val (.int p3), .val (.int p4), .val (.int p5), .val (.int (1 : Int32)), .val (.int (0 : Int32)), .val (.int ca), .val (.int cb), .val (.int cc), .val (.int cd), .val (.ref r101), .val (.ref r102), .val (.ref o103), .val (.ref r108), .val (.int (((1 : Int32) + (1 : Int32)) + (0 : Int32))), .val (.ref o119), .val (.int (2 : Int32))]
abbrev LA23 (p1 : Int32) (p2 : Int32) (p3 : Int32) (p4 : Int32) (p5 : Int32) (ca : Int32) (cb : Int32) (cc : Int32) (cd : Int32) (r101 : Addr) (r102 : Addr) (o103 : Addr) (r108 : Addr) (o119 : Addr) : Array Slot := #[.val (.int p1), .val (.int p2), .val (.int p3), .val (.int p4), .val (.int p5), .val (.int (1 : Int32)), .val (.int (1 : Int32)), .val (.int ca), .val (.int cb), .val (.int cc), .val (.int cd), .val (.ref r101), .val (.ref r102), .val (.ref o103), .val (.ref r108), .val (.int (((1 : Int32) + (1 : Int32)) + (1 : Int32))), .val (.ref o119), .val (.int (0 : Int32))]
abbrev LA24 (p1 : Int32) (p2 : Int32) (p3 : Int32) (p4 : Int32) (p5 : Int32) (ca : Int32) (cb : Int32) (cc : Int32) (cd : Int32) (r101 : Addr) (r102 : Addr) (o103 : Addr) (r108 : Addr) (o119 : Addr) : Array Slot := #[.val (.int p1), .val (.int p2), .val (.int p3), .val (.int p4), .val (.int p5), .val (.int (1 : Int32)), .val (.int (1 : Int32)), .val (.int ca), .val (.int cb), .val (.int cc), .val (.int cd), .val (.ref r101), .val (.ref r102), .val (.ref o103), .val (.ref r108), .val (.int (((1 : Int32) + (1 : Int32)) + (1 : Int32))), .val (.ref o119), .val (.int (1 : Int32))]
abbrev LA25 (p1 : Int32) (p2 : Int32) (p3 : Int32) (p4 : Int32) (p5 : Int32) (ca : Int32) (cb : Int32) (cc : Int32) (cd : Int32) (r101 : Addr) (r102 : Addr) (o103 : Addr) (r108 : Addr) (o119 : Addr) : Array Slot := #[.val (.int p1), .val (.int p2), .val (.int p3), .val (.int p4), .val (.int p5), .val (.int (1 : Int32)), .val (.int (1 : Int32)), .val (.int ca), .val (.int cb), .val (.int cc), .val (.int cd), .val (.ref r101), .val (.ref r102), .val (.ref o103), .val (.ref r108), .val (.int (((1 : Int32) + (1 : Int32)) + (1 : Int32))), .val (.ref o119), .val (.int (2 : Int32))]
abbrev LA26 (p1 : Int32) (p2 : Int32) (p3 : Int32) (p4 : Int32) (p5 : Int32) (ca : Int32) (cb : Int32) (cc : Int32) (cd : Int32) (r101 : Addr) (r102 : Addr) (o103 : Addr) (r108 : Addr) (o119 : Addr) : Array Slot := #[.val (.int p1), .val (.int p2), .val (.int p3), .val (.int p4), .val (.int p5), .val (.int (1 : Int32)), .val (.int (1 : Int32)), .val (.int ca), .val (.int cb), .val (.int cc), .val (.int cd), .val (.ref r101), .val (.ref r102), .val (.ref o103), .val (.ref r108), .val (.int (((1 : Int32) + (1 : Int32)) + (1 : Int32))), .val (.ref o119), .val (.int (3 : Int32))]
abbrev LA27 (p1 : Int32) (p2 : Int32) (p3 : Int32) (p4 : Int32) (p5 : Int32) (ca : Int32) (cb : Int32) (cc : Int32) (cd : Int32) (r101 : Addr) (r102 : Addr) (o103 : Addr) (r108 : Addr) (o119 : Addr) : Array Slot := #[.val (.int p1), .val (.int p2), .val (.int p3), .val (.int p4), .val (.int p5), .val (.int (1 : Int32)), .val (.int (2 : Int32)), .val (.int ca), .val (.int cb), .val (.int cc), .val (.int cd), .val (.ref r101), .val (.ref r102), .val (.ref o103), .val (.ref r108), .val (.int (((1 : Int32) + (1 : Int32)) + (2 : Int32))), .val (.ref o119), .val (.int (0 : Int32))]
abbrev LA28 (p1 : Int32) (p2 : Int32) (p3 : Int32) (p4 : Int32) (p5 : Int32) (ca : Int32) (cb : Int32) (cc : Int32) (cd : Int32) (r101 : Addr) (r102 : Addr) (o103 : Addr) (r108 : Addr) (o119 : Addr) : Array Slot := #[.val (.int p1), .val (.int p2), .val (.int p3), .val (.int p4), .val (.int p5), .val (.int (1 : Int32)), .val (.int (2 : Int32)), .val (.int ca), .val (.int cb), .val (.int cc), .val (.int cd), .val (.ref r101), .val (.ref r102), .val (.ref o103), .val (.ref r108), .val (.int (((1 : Int32) + (1 : Int32)) + (2 : Int32))), .val (.ref o119), .val (.int (1 : Int32))]
abbrev LA29 (p1 : Int32) (p2 : Int32) (p3 : Int32) (p4 : Int32) (p5 : Int32) (ca : Int32) (cb : Int32) (cc : Int32) (cd : Int32) (r101 : Addr) (r102 : Addr) (o103 : Addr) (r108 : Addr) (o119 : Addr) : Array Slot := #[.val (.int p1), .val (.int p2), .val (.int p3), .val (.int p4), .val (.int p5), .val (.int (1 : Int32)), .val (.int (2 : Int32)), .val (.int ca), .val (.int cb), .val (.int cc), .val (.int cd), .val (.ref r101), .val (.ref r102), .val (.ref o103), .val (.ref r108), .val (.int (((1 : Int32) + (1 : Int32)) + (2 : Int32))), .val (.ref o119), .val (.int (2 : Int32))]
abbrev LA30 (p1 : Int32) (p2 : Int32) (p3 : Int32) (p4 : Int32) (p5 : Int32) (ca : Int32) (cb : Int32) (cc : Int32) (cd : Int32) (r101 : Addr) (r102 : Addr) (o103 : Addr) (r108 : Addr) (o119 : Addr) : Array Slot := #[.val (.int p1), .val (.int p2), .val (.int p3), .val (.int p4), .val (.int p5), .val (.int (1 : Int32)), .val (.int (2 : Int32)), .val (.int ca), .val (.int cb), .val (.int cc), .val (.int cd), .val (.ref r101), .val (.ref r102), .val (.ref o103), .val (.ref r108), .val (.int (((1 : Int32) + (1 : Int32)) + (2 : Int32))), .val (.ref o119), .val (.int (3 : Int32))]
abbrev LA31 (p1 : Int32) (p2 : Int32) (p3 : Int32) (p4 : Int32) (p5 : Int32) (ca : Int32) (cb : Int32) (cc : Int32) (cd : Int32) (r101 : Addr) (r102 : Addr) (o103 : Addr) (r108 : Addr) (o119 : Addr) : Array Slot := #[.val (.int p1), .val (.int p2), .val (.int p3), .val (.int p4), .val (.int p5), .val (.int (2 : Int32)), .val (.int (0 : Int32)), .val (.int ca), .val (.int cb), .val (.int cc), .val (.int cd), .val (.ref r101), .val (.ref r102), .val (.ref o103), .val (.ref r108), .val (.int (((2 : Int32) + (1 : Int32)) + (0 : Int32))), .val (.ref o119), .val (.int (0 : Int32))]
abbrev LA32 (p1 : Int32) (p2 : Int32) (p3 : Int32) (p4 : Int32) (p5 : Int32) (ca : Int32) (cb : Int32) (cc : Int32) (cd : Int32) (r101 : Addr) (r102 : Addr) (o103 : Addr) (r108 : Addr) (o119 : Addr) : Array Slot := #[.val (.int p1), .val (.int p2), .val (.int p3), .val (.int p4), .val (.int p5), .val (.int (2 : Int32)), .val (.int (0 : Int32)), .val (.int ca), .val (.int cb), .val (.int cc), .val (.int cd), .val (.ref r101), .val (.ref r102), .val (.ref o103), .val (.ref r108), .val (.int (((2 : Int32) + (1 : Int32)) + (0 : Int32))), .val (.ref o119), .val (.int (1 : Int32))]
abbrev LA33 (p1 : Int32) (p2 : Int32) (p3 : Int32) (p4 : Int32) (p5 : Int32) (ca : Int32) (cb : Int32) (cc : Int32) (cd : Int32) (r101 : Addr) (r102 : Addr) (o103 : Addr) (r108 : Addr) (o119 : Addr) : Array Slot := #[.val (.int p1), .val (.int p2), .val (.int p3), .val (.int p4), .val (.int p5), .val (.int (2 : Int32)), .val (.int (0 : Int32)), .val (.int ca), .val (.int cb), .val (.int cc), .val (.int cd), .val (.ref r101), .val (.ref r102), .val (.ref o103), .val (.ref r108), .val (.int (((2 : Int32) + (1 : Int32)) + (0 : Int32))), .val (.ref o119), .val (.int (2 : Int32))]
abbrev LA34 (p1 : Int32) (p2 : Int32) (p3 : Int32) (p4 : Int32) (p5 : Int32) (ca : Int32) (cb : Int32) (cc : Int32) (cd : Int32) (r101 : Addr) (r102 : Addr) (o103 : Addr) (r108 : Addr) (o119 : Addr) : Array Slot := #[.val (.int p1), .val (.int p2), .val (.int p3), .val (.int p4), .val (.int p5), .val (.int (2 : Int32)), .val (.int (0 : Int32)), .val (.int ca), .val (.int cb), .val (.int cc), .val (.int cd), .val (.ref r101), .val (.ref r102), .val (.ref o103), .val (.ref r108), .val (.int (((2 : Int32) + (1 : Int32)) + (0 : Int32))), .val (.ref o119), .val (.int (3 : Int32))]
abbrev LA35 (p1 : Int32) (p2 : Int32) (p3 : Int32) (p4 : Int32) (p5 : Int32) (ca : Int32) (cb : Int32) (cc : Int32) (cd : Int32) (r101 : Addr) (r102 : Addr) (o103 : Addr) (r108 : Addr) (o119 : Addr) : Array Slot := #[.val (.int p1), .val (.int p2), .val (.int p3), .val (.int p4), .val (.int p5), .val (.int (2 : Int32)), .val (.int (1 : Int32)), .val (.int ca), .val (.int cb), .val (.int cc), .val (.int cd), .val (.ref r101), .val (.ref r102), .val (.ref o103), .val (.ref r108), .val (.int (((2 : Int32) + (1 : Int32)) + (1 : Int32))), .val (.ref o119), .val (.int (0 : Int32))]
abbrev LA36 (p1 : Int32) (p2 : Int32) (p3 : Int32) (p4 : Int32) (p5 : Int32) (ca : Int32) (cb : Int32) (cc : Int32) (cd : Int32) (r101 : Addr) (r102 : Addr) (o103 : Addr) (r108 : Addr) (o119 : Addr) : Array Slot := #[.val (.int p1), .val (.int p2), .val (.int p3), .val (.int p4), .val (.int p5), .val (.int (2 : Int32)), .val (.int (1 : Int32)), .val (.int ca), .val (.int cb), .val (.int cc), .val (.int cd), .val (.ref r101), .val (.ref r102), .val (.ref o103), .val (.ref r108), .val (.int (((2 : Int32) + (1 : Int32)) + (1 : Int32))), .val (.ref o119), .val (.int (1 : Int32))]
abbrev LA37 (p1 : Int32) (p2 : Int32) (p3 : Int32) (p4 : Int32) (p5 : Int32) (ca : Int32) (cb : Int32) (cc : Int32) (cd : Int32) (r101 : Addr) (r102 : Addr) (o103 : Addr) (r108 : Addr) (o119 : Addr) : Array Slot := #[.val (.int p1), .val (.int p2), .val (.int p3), .val (.int p4), .val (.int p5), .val (.int (2 : Int32)), .val (.int (1 : Int32)), .val (.int ca), .val (.int cb), .val (.int cc), .val (.int cd), .val (.ref r101), .val (.ref r102), .val (.ref o103), .val (.ref r108), .val (.int (((2 : Int32) + (1 : Int32)) + (1 : Int32))), .val (.ref o119), .val (.int (2 : Int32))]
abbrev LA38 (p1 : Int32) (p2 : Int32) (p3 : Int32) (p4 : Int32) (p5 : Int32) (ca : Int32) (cb : Int32) (cc : Int32) (cd : Int32) (r101 : Addr) (r102 : Addr) (o103 : Addr) (r108 : Addr) (o119 : Addr) : Array Slot := #[.val (.int p1), .val (.int p2), .val (.int p3), .val (.int p4), .val (.int p5), .val (.int (2 : Int32)), .val (.int (1 : Int32)), .val (.int ca), .val (.int cb), .val (.int cc), .val (.int cd), .val (.ref r101), .val (.ref r102), .val (.ref o103), .val (.ref r108), .val (.int (((2 : Int32) + (1 : Int32)) + (1 : Int32))), .val (.ref o119), .val (.int (3 : Int32))]
abbrev LA39 (p1 : Int32) (p2 : Int32) (p3 : Int32) (p4 : Int32) (p5 : Int32) (ca : Int32) (cb : Int32) (cc : Int32) (cd : Int32) (r101 : Addr) (r102 : Addr) (o103 : Addr) (r108 : Addr) (o119 : Addr) : Array Slot := #[.val (.int p1), .val (.int p2), .val (.int p3), .val (.int p4), .val (.int p5), .val (.int (2 : Int32)), .val (.int (1 : Int32)), .val (.int ca), .val (.int cb), .val (.int cc), .val (.int cd), .val (.ref r101), .val (.ref r102), .val (.ref o103), .val (.ref r108), .val (.int (((2 : Int32) + (1 : Int32)) + (1 : Int32))), .val (.ref o119), .val (.int (4 : Int32))]
abbrev LA40 (p1 : Int32) (p2 : Int32) (p3 : Int32) (p4 : Int32) (p5 : Int32) (ca : Int32) (cb : Int32) (cc : Int32) (cd : Int32) (r101 : Addr) (r102 : Addr) (o103 : Addr) (r108 : Addr) (o119 : Addr) : Array Slot := #[.val (.int p1), .val (.int p2), .val (.int p3), .val (.int p4), .val (.int p5), .val (.int (2 : Int32)), .val (.int (2 : Int32)), .val (.int ca), .val (.int cb), .val (.int cc), .val (.int cd), .val (.ref r101), .val (.ref r102), .val (.ref o103), .val (.ref r108), .val (.int (((2 : Int32) + (1 : Int32)) + (2 : Int32))), .val (.ref o119), .val (.int (0 : Int32))]
abbrev LA41 (p1 : Int32) (p2 : Int32) (p3 : Int32) (p4 : Int32) (p5 : Int32) (ca : Int32) (cb : Int32) (cc : Int32) (cd : Int32) (r101 : Addr) (r102 : Addr) (o103 : Addr) (r108 : Addr) (o119 : Addr) : Array Slot := #[.val (.int p1), .val (.int p2), .val (.int p3), .val (.int p4), .val (.int p5), .val (.int (2 : Int32)), .val (.int (2 : Int32)), .val (.int ca), .val (.int cb), .val (.int cc), .val (.int cd), .val (.ref r101), .val (.ref r102), .val (.ref o103), .val (.ref r108), .val (.int (((2 : Int32) + (1 : Int32)) + (2 : Int32))), .val (.ref o119), .val (.int (1 : Int32))]
abbrev LA42 (p1 : Int32) (p2 : Int32) (p3 : Int32) (p4 : Int32) (p5 : Int32) (ca : Int32) (cb : Int32) (cc : Int32) (cd : Int32) (r101 : Addr) (r102 : Addr) (o103 : Addr) (r108 : Addr) (o119 : Addr) : Array Slot := #[.val (.int p1), .val (.int p2), .val (.int p3), .val (.int p4), .val (.int p5), .val (.int (2 : Int32)), .val (.int (2 : Int32)), .val (.int ca), .val (.int cb), .val (.int cc), .val (.int cd), .val (.ref r101), .val (.ref r102), .val (.ref o103), .val (.ref r108), .val (.int (((2 : Int32) + (1 : Int32)) + (2 : Int32))), .val (.ref o119), .val (.int (2 : Int32))]
abbrev LA43 (p1 : Int32) (p2 : Int32) (p3 : Int32) (p4 : Int32) (p5 : Int32) (ca : Int32) (cb : Int32) (cc : Int32) (cd : Int32) (r101 : Addr) (r102 : Addr) (o103 : Addr) (r108 : Addr) (o119 : Addr) : Array Slot := #[.val (.int p1), .val (.int p2), .val (.int p3), .val (.int p4), .val (.int p5), .val (.int (2 : Int32)), .val (.int (2 : Int32)), .val (.int ca), .val (.int cb), .val (.int cc), .val (.int cd), .val (.ref r101), .val (.ref r102), .val (.ref o103), .val (.ref r108), .val (.int (((2 : Int32) + (1 : Int32)) + (2 : Int32))), .val (.ref o119), .val (.int (3 : Int32))]
abbrev LA44 (p1 : Int32) (p2 : Int32) (p3 : Int32) (p4 : Int32) (p5 : Int32) (ca : Int32) (cb : Int32) (cc : Int32) (cd : Int32) (r101 : Addr) (r102 : Addr) (o103 : Addr) (r108 : Addr) (o119 : Addr) : Array Slot := #[.val (.int p1), .val (.int p2), .val (.int p3), .val (.int p4), .val (.int p5), .val (.int (2 : Int32)), .val (.int (2 : Int32)), .val (.int ca), .val (.int cb), .val (.int cc), .val (.int cd), .val (.ref r101), .val (.ref r102), .val (.ref o103), .val (.ref r108), .val (.int (((2 : Int32) + (1 : Int32)) + (2 : Int32))), .val (.ref o119), .val (.int (4 : Int32))]
theorem pd30 : parseMethodDescriptor "(ICC)Ljava/lang/String;" = some ⟨[.int, .char, .char], some (.object "java/lang/String")⟩ := by decide +kernel
theorem pd31 : parseMethodDescriptor "()Ljava/util/Map;" = some ⟨[], some (.object "java/util/Map")⟩ := by decide +kernel
theorem pd32 : parseMethodDescriptor "(Ljava/lang/String;Ljava/lang/String;Ljava/util/Map;)V" = some ⟨[(.object "java/lang/String"), (.object "java/lang/String"), (.object "java/util/Map")], none⟩ := by decide +kernel
set_option maxRecDepth 65536 in
set_option maxHeartbeats 40000000 in
theorem rm0 (l : Launch) (Z : State) (a0 : Array Value) (hw : ∀ d ∈ tables_1, d.before a0 Z = true) (ws : List Jvm.Cond) (p1 p2 p3 p4 p5 : Int32) (zc : Int32) (ms : List Addr) (h0 : Heap) (n0 : Nat) (O0 : Old Z n0 h0) (nb : Nat) (hb0 : n0 ≤ nb) (hnb : nb ≤ h0.size) (fs : Value) (hfs : fs = .null ∨ ∃ a, fs = .ref a) (S_F : Sta Z Z.heap "jdk/internal/util/Preconditions" "SIOOBE_FORMATTER" "Ljava/util/function/BiFunction;" fs) (wm : Addr) (S_M : Sta Z Z.heap "java/util/ImmutableCollections" "EMPTY_MAP" "Ljava/util/ImmutableCollections$MapN;" (.ref wm)) (E_M : Exa Z Z.heap wm "java/util/ImmutableCollections$MapN") (S_C : Sta Z Z.heap "java/lang/String" "COMPACT_STRINGS" "Z" (.int zc)) (hzc : ¬ zc = 0) :
    Con l Z ms x code maxLocals ret ws room_1 #[(.int p1), (.int p2), (.int p3), (.int p4), (.int p5)] h0 (fun v vm h L => v = some (.int 1) ∧ Fr nb L) := by
  refine Con.mk (plainFor_of_name pn7) ?_
  intro p e s m below meth c s₁ Cc X0 e0 eb J0 B0 M0
  replace Cc : Cx Z p s m meth c "com/example/measured_flow/measuredflow/HttpRequestToStringPinLaw" code 18 "law" ret := Cc
  obtain ⟨hx, hZ, hown, hby, hml, hnm, hret, hlk⟩ := id Cc
  have N0 := Fr.nil h0.size
  have K0 := Keep.refl h0 []
  refine own_go0 (show argsToLocals #[(.int p1), (.int p2), (.int p3), (.int p4), (.int p5)] 18 = (LA0 p1 p2 p3 p4 p5) from by simp [argsToLocals, Value.category, Array.replicate, List.replicate]) ?_
  show Go p e s below _ _ _ _ s₁ (mkF m 0 (LA0 p1 p2 p3 p4 p5) [])
  refine Go.of (fun _ hr => XS.iload X0.here hx rfl (hb hby at_0) rfl  hr) ?_
  show Go p e s below _ _ _ _ s₁ (mkF m 2 (LA0 p1 p2 p3 p4 p5) [(.int p5)])
  refine Go.of (fun _ hr => XS.iconst X0.here hx rfl (hb hby at_2) hr) ?_
  show Go p e s below _ _ _ _ s₁ (mkF m 3 (LA0 p1 p2 p3 p4 p5) [(.int (3 : Int32)), (.int p5)])
  refine Go.of (fun _ hr => XS.iand X0.here hx rfl (hb hby at_3) rfl hr) ?_
  show Go p e s below _ _ _ _ s₁ (mkF m 4 (LA0 p1 p2 p3 p4 p5) [(.int (p5 &&& (3 : Int32)))])
  refine Go.of (fun _ hr => XS.iconst X0.here hx rfl (hb hby at_4) hr) ?_
  show Go p e s below _ _ _ _ s₁ (mkF m 5 (LA0 p1 p2 p3 p4 p5) [(.int (3 : Int32)), (.int (p5 &&& (3 : Int32)))])
  refine Go.of (fun _ hr => iremM X0 hx rfl (hb hby at_5) rfl (by decide) hr) ?_
  show Go p e s below _ _ _ _ s₁ (mkF m 6 (LA0 p1 p2 p3 p4 p5) [(.int ((p5 &&& (3 : Int32)) % (3 : Int32)))])
  have hr_ml := rem3 p5
  generalize ((p5 &&& (3 : Int32)) % (3 : Int32)) = ml at hr_ml ⊢
  show Go p e s below _ _ _ _ s₁ (mkF m 6 (LA0 p1 p2 p3 p4 p5) [(.int ml)])
  refine Go.of (fun _ hr => XS.istore X0.here hx rfl (hb hby at_6) rfl (l' := (LA1 p1 p2 p3 p4 p5 ml)) rfl hr) ?_
  show Go p e s below _ _ _ _ s₁ (mkF m 8 (LA1 p1 p2 p3 p4 p5 ml) [])
  refine Go.of (fun _ hr => XS.iload X0.here hx rfl (hb hby at_8) rfl  hr) ?_
  show Go p e s below _ _ _ _ s₁ (mkF m 10 (LA1 p1 p2 p3 p4 p5 ml) [(.int p5)])
  refine Go.of (fun _ hr => XS.iconst X0.here hx rfl (hb hby at_10) hr) ?_
  show Go p e s below _ _ _ _ s₁ (mkF m 11 (LA1 p1 p2 p3 p4 p5 ml) [(.int (2 : Int32)), (.int p5)])
  refine Go.of (fun _ hr => XS.iushr X0.here hx rfl (hb hby at_11) rfl hr) ?_
  show Go p e s below _ _ _ _ s₁ (mkF m 12 (LA1 p1 p2 p3 p4 p5 ml) [(.int ((p5.toUInt32 >>> ((2 : Int32) &&& 31).toUInt32).toInt32))])
  refine Go.of (fun _ hr => XS.iconst X0.here hx rfl (hb hby at_12) hr) ?_
  show Go p e s below _ _ _ _ s₁ (mkF m 13 (LA1 p1 p2 p3 p4 p5 ml) [(.int (3 : Int32)), (.int ((p5.toUInt32 >>> ((2 : Int32) &&& 31).toUInt32).toInt32))])
  refine Go.of (fun _ hr => XS.iand X0.here hx rfl (hb hby at_13) rfl hr) ?_
  show Go p e s below _ _ _ _ s₁ (mkF m 14 (LA1 p1 p2 p3 p4 p5 ml) [(.int (((p5.toUInt32 >>> ((2 : Int32) &&& 31).toUInt32).toInt32) &&& (3 : Int32)))])
  refine Go.of (fun _ hr => XS.iconst X0.here hx rfl (hb hby at_14) hr) ?_
  show Go p e s below _ _ _ _ s₁ (mkF m 15 (LA1 p1 p2 p3 p4 p5 ml) [(.int (3 : Int32)), (.int (((p5.toUInt32 >>> ((2 : Int32) &&& 31).toUInt32).toInt32) &&& (3 : Int32)))])
  refine Go.of (fun _ hr => iremM X0 hx rfl (hb hby at_15) rfl (by decide) hr) ?_
  show Go p e s below _ _ _ _ s₁ (mkF m 16 (LA1 p1 p2 p3 p4 p5 ml) [(.int ((((p5.toUInt32 >>> ((2 : Int32) &&& 31).toUInt32).toInt32) &&& (3 : Int32)) % (3 : Int32)))])
  have hr_pl := rem3 ((p5.toUInt32 >>> ((2 : Int32) &&& 31).toUInt32).toInt32)
  generalize ((((p5.toUInt32 >>> ((2 : Int32) &&& 31).toUInt32).toInt32) &&& (3 : Int32)) % (3 : Int32)) = pl at hr_pl ⊢
  show Go p e s below _ _ _ _ s₁ (mkF m 16 (LA1 p1 p2 p3 p4 p5 ml) [(.int pl)])
  refine Go.of (fun _ hr => XS.istore X0.here hx rfl (hb hby at_16) rfl (l' := (LA2 p1 p2 p3 p4 p5 ml pl)) rfl hr) ?_
  show Go p e s below _ _ _ _ s₁ (mkF m 18 (LA2 p1 p2 p3 p4 p5 ml pl) [])
  refine Go.of (fun _ hr => XS.iloadN X0.here hx rfl (hb hby at_18) rfl  hr) ?_
  show Go p e s below _ _ _ _ s₁ (mkF m 19 (LA2 p1 p2 p3 p4 p5 ml pl) [(.int p1)])
  refine Go.of (fun _ hr => XS.sipush X0.here hx rfl (hb hby at_19) hr) ?_
  show Go p e s below _ _ _ _ s₁ (mkF m 22 (LA2 p1 p2 p3 p4 p5 ml pl) [(.int (255 : Int32)), (.int p1)])
  refine Go.of (fun _ hr => XS.iand X0.here hx rfl (hb hby at_22) rfl hr) ?_
  show Go p e s below _ _ _ _ s₁ (mkF m 23 (LA2 p1 p2 p3 p4 p5 ml pl) [(.int (p1 &&& (255 : Int32)))])
  refine Go.of (fun _ hr => XS.i2c X0.here hx rfl (hb hby at_23) rfl hr) ?_
  show Go p e s below _ _ _ _ s₁ (mkF m 24 (LA2 p1 p2 p3 p4 p5 ml pl) [(.int ((p1 &&& (255 : Int32)).toUInt32.toUInt16.toUInt32.toInt32))])
  have hq_ca := chr8 p1
  generalize ((p1 &&& (255 : Int32)).toUInt32.toUInt16.toUInt32.toInt32) = ca at hq_ca ⊢
  show Go p e s below _ _ _ _ s₁ (mkF m 24 (LA2 p1 p2 p3 p4 p5 ml pl) [(.int ca)])
  refine Go.of (fun _ hr => XS.istore X0.here hx rfl (hb hby at_24) rfl (l' := (LA3 p1 p2 p3 p4 p5 ml pl ca)) rfl hr) ?_
  show Go p e s below _ _ _ _ s₁ (mkF m 26 (LA3 p1 p2 p3 p4 p5 ml pl ca) [])
  refine Go.of (fun _ hr => XS.iloadN X0.here hx rfl (hb hby at_26) rfl  hr) ?_
  show Go p e s below _ _ _ _ s₁ (mkF m 27 (LA3 p1 p2 p3 p4 p5 ml pl ca) [(.int p2)])
  refine Go.of (fun _ hr => XS.sipush X0.here hx rfl (hb hby at_27) hr) ?_
  show Go p e s below _ _ _ _ s₁ (mkF m 30 (LA3 p1 p2 p3 p4 p5 ml pl ca) [(.int (255 : Int32)), (.int p2)])
  refine Go.of (fun _ hr => XS.iand X0.here hx rfl (hb hby at_30) rfl hr) ?_
  show Go p e s below _ _ _ _ s₁ (mkF m 31 (LA3 p1 p2 p3 p4 p5 ml pl ca) [(.int (p2 &&& (255 : Int32)))])
  refine Go.of (fun _ hr => XS.i2c X0.here hx rfl (hb hby at_31) rfl hr) ?_
  show Go p e s below _ _ _ _ s₁ (mkF m 32 (LA3 p1 p2 p3 p4 p5 ml pl ca) [(.int ((p2 &&& (255 : Int32)).toUInt32.toUInt16.toUInt32.toInt32))])
  have hq_cb := chr8 p2
  generalize ((p2 &&& (255 : Int32)).toUInt32.toUInt16.toUInt32.toInt32) = cb at hq_cb ⊢
  show Go p e s below _ _ _ _ s₁ (mkF m 32 (LA3 p1 p2 p3 p4 p5 ml pl ca) [(.int cb)])
  refine Go.of (fun _ hr => XS.istore X0.here hx rfl (hb hby at_32) rfl (l' := (LA4 p1 p2 p3 p4 p5 ml pl ca cb)) rfl hr) ?_
  show Go p e s below _ _ _ _ s₁ (mkF m 34 (LA4 p1 p2 p3 p4 p5 ml pl ca cb) [])
  refine Go.of (fun _ hr => XS.iloadN X0.here hx rfl (hb hby at_34) rfl  hr) ?_
  show Go p e s below _ _ _ _ s₁ (mkF m 35 (LA4 p1 p2 p3 p4 p5 ml pl ca cb) [(.int p3)])
  refine Go.of (fun _ hr => XS.sipush X0.here hx rfl (hb hby at_35) hr) ?_
  show Go p e s below _ _ _ _ s₁ (mkF m 38 (LA4 p1 p2 p3 p4 p5 ml pl ca cb) [(.int (255 : Int32)), (.int p3)])
  refine Go.of (fun _ hr => XS.iand X0.here hx rfl (hb hby at_38) rfl hr) ?_
  show Go p e s below _ _ _ _ s₁ (mkF m 39 (LA4 p1 p2 p3 p4 p5 ml pl ca cb) [(.int (p3 &&& (255 : Int32)))])
  refine Go.of (fun _ hr => XS.i2c X0.here hx rfl (hb hby at_39) rfl hr) ?_
  show Go p e s below _ _ _ _ s₁ (mkF m 40 (LA4 p1 p2 p3 p4 p5 ml pl ca cb) [(.int ((p3 &&& (255 : Int32)).toUInt32.toUInt16.toUInt32.toInt32))])
  have hq_cc := chr8 p3
  generalize ((p3 &&& (255 : Int32)).toUInt32.toUInt16.toUInt32.toInt32) = cc at hq_cc ⊢
  show Go p e s below _ _ _ _ s₁ (mkF m 40 (LA4 p1 p2 p3 p4 p5 ml pl ca cb) [(.int cc)])
  refine Go.of (fun _ hr => XS.istore X0.here hx rfl (hb hby at_40) rfl (l' := (LA5 p1 p2 p3 p4 p5 ml pl ca cb cc)) rfl hr) ?_
  show Go p e s below _ _ _ _ s₁ (mkF m 42 (LA5 p1 p2 p3 p4 p5 ml pl ca cb cc) [])
  refine Go.of (fun _ hr => XS.iloadN X0.here hx rfl (hb hby at_42) rfl  hr) ?_
  show Go p e s below _ _ _ _ s₁ (mkF m 43 (LA5 p1 p2 p3 p4 p5 ml pl ca cb cc) [(.int p4)])
  refine Go.of (fun _ hr => XS.sipush X0.here hx rfl (hb hby at_43) hr) ?_
  show Go p e s below _ _ _ _ s₁ (mkF m 46 (LA5 p1 p2 p3 p4 p5 ml pl ca cb cc) [(.int (255 : Int32)), (.int p4)])
  refine Go.of (fun _ hr => XS.iand X0.here hx rfl (hb hby at_46) rfl hr) ?_
  show Go p e s below _ _ _ _ s₁ (mkF m 47 (LA5 p1 p2 p3 p4 p5 ml pl ca cb cc) [(.int (p4 &&& (255 : Int32)))])
  refine Go.of (fun _ hr => XS.i2c X0.here hx rfl (hb hby at_47) rfl hr) ?_
  show Go p e s below _ _ _ _ s₁ (mkF m 48 (LA5 p1 p2 p3 p4 p5 ml pl ca cb cc) [(.int ((p4 &&& (255 : Int32)).toUInt32.toUInt16.toUInt32.toInt32))])
  have hq_cd := chr8 p4
  generalize ((p4 &&& (255 : Int32)).toUInt32.toUInt16.toUInt32.toInt32) = cd at hq_cd ⊢
  show Go p e s below _ _ _ _ s₁ (mkF m 48 (LA5 p1 p2 p3 p4 p5 ml pl ca cb cc) [(.int cd)])
  refine Go.of (fun _ hr => XS.istore X0.here hx rfl (hb hby at_48) rfl (l' := (LA6 p1 p2 p3 p4 p5 ml pl ca cb cc cd)) rfl hr) ?_
  show Go p e s below _ _ _ _ s₁ (mkF m 50 (LA6 p1 p2 p3 p4 p5 ml pl ca cb cc cd) [])
  refine Go.of (fun _ hr => XS.iload X0.here hx rfl (hb hby at_50) rfl  hr) ?_
  show Go p e s below _ _ _ _ s₁ (mkF m 52 (LA6 p1 p2 p3 p4 p5 ml pl ca cb cc cd) [(.int ml)])
  refine Go.of (fun _ hr => XS.iload X0.here hx rfl (hb hby at_52) rfl  hr) ?_
  show Go p e s below _ _ _ _ s₁ (mkF m 54 (LA6 p1 p2 p3 p4 p5 ml pl ca cb cc cd) [(.int ca), (.int ml)])
  refine Go.of (fun _ hr => XS.iload X0.here hx rfl (hb hby at_54) rfl  hr) ?_
  show Go p e s below _ _ _ _ s₁ (mkF m 56 (LA6 p1 p2 p3 p4 p5 ml pl ca cb cc cd) [(.int cb), (.int ca), (.int ml)])
  obtain ⟨_, b101, T101, h101, L101, e101, Cc101, X101, B101, J101, g101, hQ101, st101⟩ := own_callS Cc B0 J0 X0 (hw _ (List.mem_of_getElem? (i := 0) rfl)) (hw _ (List.mem_of_getElem? (i := 1) rfl)) (hw _ (List.mem_of_getElem? (i := 2) rfl)) (hw _ (List.mem_of_getElem? (i := 3) rfl)) (by decide) (rm1 l Z a0 hw [] ml ca cb zc _ h0 n0 O0 h0.size (own_ole O0) K0.1 hq_ca hq_cb S_C hzc) e0 (g := (mkF m 56 (LA6 p1 p2 p3 p4 p5 ml pl ca cb cc cd) [(.int cb), (.int ca), (.int ml)])) rfl (by rw [hml]; rfl) (argsL := [(.int ml), (.int ca), (.int cb)]) (rest := []) (lenOf pd30 rfl) rfl (W := 0) (by show 2 * 0 + _ ≤ _; exact Nat.le_of_eq rfl) (hb hby at_56) (by decide) (by decide) (by decide) (by decide)
  obtain ⟨r101, t101, kt101, rfl, Nq101, Eq101, R_r101, nt101, Er101, Fv101, Fc101, Vt101⟩ := hQ101
  have N101 := Fr.app N0 Nq101
  obtain ⟨hx, hZ, hown, hby, hml, hnm, hret, hlk⟩ := id Cc101
  have sz_r101 : h0.size ≤ r101 := Nat.le_trans K0.1 R_r101
  have fr_r101 : h0.size ≤ r101 := sz_r101
  have K101 := K0.ext Eq101
  have O101 := O0.ext Eq101
  refine Go.of st101 ?_
  show Go p e s below _ _ _ _ T101 (mkF m 59 (LA6 p1 p2 p3 p4 p5 ml pl ca cb cc cd) [(.ref r101)])
  refine Go.of (fun _ hr => XS.astore X101.here hx rfl (hb hby at_59) rfl rfl (l' := (LA7 p1 p2 p3 p4 p5 ml pl ca cb cc cd r101)) rfl hr) ?_
  show Go p e s below _ _ _ _ T101 (mkF m 61 (LA7 p1 p2 p3 p4 p5 ml pl ca cb cc cd r101) [])
  refine Go.of (fun _ hr => XS.iload X101.here hx rfl (hb hby at_61) rfl  hr) ?_
  show Go p e s below _ _ _ _ T101 (mkF m 63 (LA7 p1 p2 p3 p4 p5 ml pl ca cb cc cd r101) [(.int pl)])
  refine Go.of (fun _ hr => XS.iload X101.here hx rfl (hb hby at_63) rfl  hr) ?_
  show Go p e s below _ _ _ _ T101 (mkF m 65 (LA7 p1 p2 p3 p4 p5 ml pl ca cb cc cd r101) [(.int cc), (.int pl)])
  refine Go.of (fun _ hr => XS.iload X101.here hx rfl (hb hby at_65) rfl  hr) ?_
  show Go p e s below _ _ _ _ T101 (mkF m 67 (LA7 p1 p2 p3 p4 p5 ml pl ca cb cc cd r101) [(.int cd), (.int cc), (.int pl)])
  obtain ⟨_, b102, T102, h102, L102, e102, Cc102, X102, B102, J102, g102, hQ102, st102⟩ := own_callS Cc101 B101 J101 X101 (hw _ (List.mem_of_getElem? (i := 0) rfl)) (hw _ (List.mem_of_getElem? (i := 1) rfl)) (hw _ (List.mem_of_getElem? (i := 2) rfl)) (hw _ (List.mem_of_getElem? (i := 3) rfl)) (by decide) (rm1 l Z a0 hw [] pl cc cd zc _ h101 n0 O101 h0.size (own_ole O0) K101.1 hq_cc hq_cd S_C hzc) e101 (g := (mkF m 67 (LA7 p1 p2 p3 p4 p5 ml pl ca cb cc cd r101) [(.int cd), (.int cc), (.int pl)])) rfl (by rw [hml]; rfl) (argsL := [(.int pl), (.int cc), (.int cd)]) (rest := []) (lenOf pd30 rfl) rfl (W := 0) (by show 2 * 0 + _ ≤ _; exact Nat.le_of_eq rfl) (hb hby at_67) (by decide) (by decide) (by decide) (by decide)
  obtain ⟨r102, t102, kt102, rfl, Nq102, Eq102, R_r102, nt102, Er102, Fv102, Fc102, Vt102⟩ := hQ102
  have N102 := Fr.app N101 Nq102
  obtain ⟨hx, hZ, hown, hby, hml, hnm, hret, hlk⟩ := id Cc102
  have sz_r102 : h0.size ≤ r102 := Nat.le_trans K101.1 R_r102
  have fr_r102 : h0.size ≤ r102 := sz_r102
  have ne_r101_r102 : r101 ≠ r102 := Nat.ne_of_lt (Nat.lt_of_lt_of_le Er101.lt R_r102)
  have ne_t101_r102 : t101 ≠ r102 := Nat.ne_of_lt (Nat.lt_of_lt_of_le Vt101.lt R_r102)
  have K102 := K101.ext Eq102
  have O102 := O101.ext Eq102
  refine Go.of st102 ?_
  show Go p e s below _ _ _ _ T102 (mkF m 70 (LA7 p1 p2 p3 p4 p5 ml pl ca cb cc cd r101) [(.ref r102)])
  refine Go.of (fun _ hr => XS.astore X102.here hx rfl (hb hby at_70) rfl rfl (l' := (LA8 p1 p2 p3 p4 p5 ml pl ca cb cc cd r101 r102)) rfl hr) ?_
  show Go p e s below _ _ _ _ T102 (mkF m 72 (LA8 p1 p2 p3 p4 p5 ml pl ca cb cc cd r101 r102) [])
  obtain ⟨T103, h103, X103, e103, E103, A103, D103, -, st103⟩ := newO X102 hx hZ hown (hw _ (List.mem_of_getElem? (i := 26) rfl)) (hw _ (List.mem_of_getElem? (i := 27) rfl)) (hw _ (List.mem_of_getElem? (i := 28) rfl)) e102 (g := (mkF m 72 (LA8 p1 p2 p3 p4 p5 ml pl ca cb cc cd r101 r102) [])) rfl (hb hby at_72) (by decide) (by decide)
  obtain ⟨o103, g103⟩ : ∃ z, z = h102.size := ⟨_, rfl⟩
  rw [← g103] at A103 D103 st103
  have f104 := (Er101.ext Eq102)
  have ne_r101_o103 : r101 ≠ o103 := Nat.ne_of_lt (Nat.lt_of_lt_of_le f104.lt (Nat.le_of_eq g103.symm))
  have f105 := (Vt101.ext Eq102)
  have ne_t101_o103 : t101 ≠ o103 := Nat.ne_of_lt (Nat.lt_of_lt_of_le f105.lt (Nat.le_of_eq g103.symm))
  have ne_r102_o103 : r102 ≠ o103 := Nat.ne_of_lt (Nat.lt_of_lt_of_le Er102.lt (Nat.le_of_eq g103.symm))
  have ne_t102_o103 : t102 ≠ o103 := Nat.ne_of_lt (Nat.lt_of_lt_of_le Vt102.lt (Nat.le_of_eq g103.symm))
  have lt103 : o103 < h103.size := A103.lt
  have J103 := J102.add E103 g103 lt103
  have B103 := B102.mono E103.1
  have O103 := O102.ext E103
  have sz103 : h0.size ≤ o103 := Nat.le_trans K102.1 (Nat.le_of_eq g103.symm)
  have fr103 : h0.size ≤ o103 := sz103
  have K103 := K102.ext E103
  have F103_method : Fld Z h103 o103 "com/example/measured_flow/measuredflow/HttpRequest" "method" "Ljava/lang/String;" .null := D103 (Or.inr (hw _ (List.mem_of_getElem? (i := 40) rfl))) (ty := (.object "java/lang/String")) (by decide)
  have F103_path : Fld Z h103 o103 "com/example/measured_flow/measuredflow/HttpRequest" "path" "Ljava/lang/String;" .null := D103 (Or.inr (hw _ (List.mem_of_getElem? (i := 42) rfl))) (ty := (.object "java/lang/String")) (by decide)
  have F103_parameters : Fld Z h103 o103 "com/example/measured_flow/measuredflow/HttpRequest" "parameters" "Ljava/util/Map;" .null := D103 (Or.inr (hw _ (List.mem_of_getElem? (i := 49) rfl))) (ty := (.object "java/util/Map")) (by decide)
  refine Go.of (fun _ hr => st103 _ hr) ?_
  show Go p e s below _ _ _ _ T103 (mkF m 75 (LA8 p1 p2 p3 p4 p5 ml pl ca cb cc cd r101 r102) [(.ref o103)])
  refine Go.of (fun _ hr => XS.dup X103.here hx rfl (hb hby at_75) rfl rfl hr) ?_
  show Go p e s below _ _ _ _ T103 (mkF m 76 (LA8 p1 p2 p3 p4 p5 ml pl ca cb cc cd r101 r102) [(.ref o103), (.ref o103)])
  refine Go.of (fun _ hr => XS.aload X103.here hx rfl (hb hby at_76) rfl rfl hr) ?_
  show Go p e s below _ _ _ _ T103 (mkF m 78 (LA8 p1 p2 p3 p4 p5 ml pl ca cb cc cd r101 r102) [(.ref r101), (.ref o103), (.ref o103)])
  refine Go.of (fun _ hr => XS.aload X103.here hx rfl (hb hby at_78) rfl rfl hr) ?_
  show Go p e s below _ _ _ _ T103 (mkF m 80 (LA8 p1 p2 p3 p4 p5 ml pl ca cb cc cd r101 r102) [(.ref r102), (.ref r101), (.ref o103), (.ref o103)])
  obtain ⟨_, b106, T106, h106, L106, e106, Cc106, X106, B106, J106, g106, hQ106, st106⟩ := own_callS Cc102 B103 J103 X103 (hw _ (List.mem_of_getElem? (i := 29) rfl)) (hw _ (List.mem_of_getElem? (i := 30) rfl)) (hw _ (List.mem_of_getElem? (i := 31) rfl)) (hw _ (List.mem_of_getElem? (i := 32) rfl)) (by decide) (rm5 l Z a0 hw [] _ h103 n0 O103 h0.size (own_ole O0) K103.1 wm S_M E_M) e103 (g := (mkF m 80 (LA8 p1 p2 p3 p4 p5 ml pl ca cb cc cd r101 r102) [(.ref r102), (.ref r101), (.ref o103), (.ref o103)])) rfl (by rw [hml]; rfl) (argsL := []) (rest := [(.ref r102), (.ref r101), (.ref o103), (.ref o103)]) (lenOf pd31 rfl) rfl (W := 4) (by show 2 * 0 + _ ≤ _; exact Nat.le_of_eq rfl) (hb hby at_80) (by decide) (by decide) (by decide) (by decide)
  obtain ⟨rfl, Nq106, hh106⟩ := hQ106
  have N106 := Fr.app N102 Nq106
  obtain ⟨hx, hZ, hown, hby, hml, hnm, hret, hlk⟩ := id Cc106
  rw [hh106] at e106 B106 J106
  refine Go.of st106 ?_
  show Go p e s below _ _ _ _ T106 (mkF m 83 (LA8 p1 p2 p3 p4 p5 ml pl ca cb cc cd r101 r102) [(.ref wm), (.ref r102), (.ref r101), (.ref o103), (.ref o103)])
  obtain ⟨_, b107, T107, h107, L107, e107, Cc107, X107, B107, J107, g107, hQ107, st107⟩ := own_callI Cc106 B106 J106 X106 rfl (hw _ (List.mem_of_getElem? (i := 35) rfl)) (hw _ (List.mem_of_getElem? (i := 36) rfl)) (hw _ (List.mem_of_getElem? (i := 28) rfl)) (hw _ (List.mem_of_getElem? (i := 37) rfl)) (by decide) (rm6 l Z a0 hw [] o103 r101 r102 _ _ _ _ h103 n0 O103 h0.size (own_ole O0) K103.1 fr103 (List.mem_cons_self ..) wm S_M E_M A103 F103_method F103_path F103_parameters) e106 (g := (mkF m 83 (LA8 p1 p2 p3 p4 p5 ml pl ca cb cc cd r101 r102) [(.ref wm), (.ref r102), (.ref r101), (.ref o103), (.ref o103)])) rfl (by rw [hml]; rfl) (argsL := [(.ref r101), (.ref r102), (.ref wm)]) (rest := [(.ref o103)]) (lenOf pd32 rfl) rfl (W := 1) (by show 2 * 0 + _ ≤ _; exact Nat.le_of_eq rfl) (hb hby at_83) (by decide) (by decide) (by decide) (by decide)
  obtain ⟨rfl, Nq107, Kq107, Fm107, Fp107⟩ := hQ107
  have N107 := Fr.app N106 Nq107
  obtain ⟨hx, hZ, hown, hby, hml, hnm, hret, hlk⟩ := id Cc107
  have K107 := K103.trans Kq107 (allS (Or.inr sz103) all0)
  have O107 := O103.keep Kq107 (allS (Nat.le_trans (own_ole O0) fr103) all0)
  refine Go.of st107 ?_
  show Go p e s below _ _ _ _ T107 (mkF m 86 (LA8 p1 p2 p3 p4 p5 ml pl ca cb cc cd r101 r102) [(.ref o103)])
  refine Go.of (fun _ hr => XS.astore X107.here hx rfl (hb hby at_86) rfl rfl (l' := (LA9 p1 p2 p3 p4 p5 ml pl ca cb cc cd r101 r102 o103)) rfl hr) ?_
  show Go p e s below _ _ _ _ T107 (mkF m 88 (LA9 p1 p2 p3 p4 p5 ml pl ca cb cc cd r101 r102 o103) [])
  refine Go.of (fun _ hr => XS.aload X107.here hx rfl (hb hby at_88) rfl rfl hr) ?_
  show Go p e s below _ _ _ _ T107 (mkF m 90 (LA9 p1 p2 p3 p4 p5 ml pl ca cb cc cd r101 r102 o103) [(.ref o103)])
  have f109 := ((f104.ext E103).keep Kq107)
  have f110 := (((Fv101.ext Eq102).ext E103).keep Kq107 (ninS ne_r101_o103 nin0))
  have f111 := (((Fc101.ext Eq102).ext E103).keep Kq107 (ninS ne_r101_o103 nin0))
  have f112 := ((f105.ext E103).keep Kq107 (ninS ne_t101_o103 nin0))
  have f113 := ((Er102.ext E103).keep Kq107)
  have f114 := ((Fv102.ext E103).keep Kq107 (ninS ne_r102_o103 nin0))
  have f115 := ((Fc102.ext E103).keep Kq107 (ninS ne_r102_o103 nin0))
  have f116 := ((Vt102.ext E103).keep Kq107 (ninS ne_t102_o103 nin0))
  have f117 := (A103.keep Kq107)
  obtain ⟨_, b108, T108, h108, L108, e108, Cc108, X108, B108, J108, g108, hQ108, st108⟩ := own_callV Cc107 B107 J107 X107 (hw _ (List.mem_of_getElem? (i := 50) rfl)) (hw _ (List.mem_of_getElem? (i := 51) rfl)) (notFace_of_selects (args := #[]) (mvT hZ (hw _ (List.mem_of_getElem? (i := 53) rfl)))) (hw _ (List.mem_of_getElem? (i := 53) rfl)) (hw _ (List.mem_of_getElem? (i := 52) rfl)) (hw _ (List.mem_of_getElem? (i := 28) rfl)) (hw _ (List.mem_of_getElem? (i := 54) rfl)) (by decide) f117 (rm8 l Z a0 hw [] o103 r101 t101 _ ((mkL ml ca cb).map lo8) r102 t102 _ ((mkL pl cc cd).map lo8) zc _ h107 n0 O107 h0.size (own_ole O0) K107.1 Fm107 Fp107 f109 f110 f111 f112 (Nat.le_trans (mkL_le ..) (by decide)) f113 f114 f115 f116 (Nat.le_trans (mkL_le ..) (by decide)) (Nat.le_trans (Nat.add_le_add (mkL_le ..) (mkL_le ..)) (by decide)) S_C hzc) e107 (g := (mkF m 90 (LA9 p1 p2 p3 p4 p5 ml pl ca cb cc cd r101 r102 o103) [(.ref o103)])) rfl (by rw [hml]; rfl) (argsL := []) (rest := []) (lenOf pd28 rfl) rfl (W := 0) (by show 2 * 0 + _ ≤ _; exact Nat.le_of_eq rfl) (hb hby at_90) (by decide) (by decide) (by decide) (by decide)
  obtain ⟨r108, t108, kt108, rfl, Nq108, Eq108, R_r108, R_t108, Er108, Fv108, Fc108, Vt108⟩ := hQ108
  have N108 := Fr.app N107 Nq108
  obtain ⟨hx, hZ, hown, hby, hml, hnm, hret, hlk⟩ := id Cc108
  have sz_r108 : h0.size ≤ r108 := Nat.le_trans K107.1 R_r108
  have fr_r108 : h0.size ≤ r108 := sz_r108
  have ne_r101_r108 : r101 ≠ r108 := Nat.ne_of_lt (Nat.lt_of_lt_of_le f109.lt R_r108)
  have ne_t101_r108 : t101 ≠ r108 := Nat.ne_of_lt (Nat.lt_of_lt_of_le f112.lt R_r108)
  have ne_r102_r108 : r102 ≠ r108 := Nat.ne_of_lt (Nat.lt_of_lt_of_le f113.lt R_r108)
  have ne_t102_r108 : t102 ≠ r108 := Nat.ne_of_lt (Nat.lt_of_lt_of_le f116.lt R_r108)
  have ne_o103_r108 : o103 ≠ r108 := Nat.ne_of_lt (Nat.lt_of_lt_of_le f117.lt R_r108)
  have sz_t108 : h0.size ≤ t108 := Nat.le_trans K107.1 R_t108
  have fr_t108 : h0.size ≤ t108 := sz_t108
  have ne_r101_t108 : r101 ≠ t108 := Nat.ne_of_lt (Nat.lt_of_lt_of_le f109.lt R_t108)
  have ne_t101_t108 : t101 ≠ t108 := Nat.ne_of_lt (Nat.lt_of_lt_of_le f112.lt R_t108)
  have ne_r102_t108 : r102 ≠ t108 := Nat.ne_of_lt (Nat.lt_of_lt_of_le f113.lt R_t108)
  have ne_t102_t108 : t102 ≠ t108 := Nat.ne_of_lt (Nat.lt_of_lt_of_le f116.lt R_t108)
  have ne_o103_t108 : o103 ≠ t108 := Nat.ne_of_lt (Nat.lt_of_lt_of_le f117.lt R_t108)
  have K108 := K107.ext Eq108
  have O108 := O107.ext Eq108
  refine Go.of st108 ?_
  show Go p e s below _ _ _ _ T108 (mkF m 93 (LA9 p1 p2 p3 p4 p5 ml pl ca cb cc cd r101 r102 o103) [(.ref r108)])
  refine Go.of (fun _ hr => XS.astore X108.here hx rfl (hb hby at_93) rfl rfl (l' := (LA10 p1 p2 p3 p4 p5 ml pl ca cb cc cd r101 r102 o103 r108)) rfl hr) ?_
  show Go p e s below _ _ _ _ T108 (mkF m 95 (LA10 p1 p2 p3 p4 p5 ml pl ca cb cc cd r101 r102 o103 r108) [])
  have hB1000 : (((mkL ml ca cb).map lo8) ++ litI " " ++ ((mkL pl cc cd).map lo8)).length ≤ 1000 := by rw [mkL_n3]; have := mkL_le ml ca cb; have := mkL_le pl cc cd; omega
  refine Go.of (fun _ hr => XS.iload X108.here hx rfl (hb hby at_95) rfl  hr) ?_
  show Go p e s below _ _ _ _ T108 (mkF m 97 (LA10 p1 p2 p3 p4 p5 ml pl ca cb cc cd r101 r102 o103 r108) [(.int ml)])
  refine Go.of (fun _ hr => XS.iconst X108.here hx rfl (hb hby at_97) hr) ?_
  show Go p e s below _ _ _ _ T108 (mkF m 98 (LA10 p1 p2 p3 p4 p5 ml pl ca cb cc cd r101 r102 o103 r108) [(.int (1 : Int32)), (.int ml)])
  refine Go.of (fun _ hr => XS.iadd X108.here hx rfl (hb hby at_98) rfl hr) ?_
  show Go p e s below _ _ _ _ T108 (mkF m 99 (LA10 p1 p2 p3 p4 p5 ml pl ca cb cc cd r101 r102 o103 r108) [(.int (ml + (1 : Int32)))])
  refine Go.of (fun _ hr => XS.iload X108.here hx rfl (hb hby at_99) rfl  hr) ?_
  show Go p e s below _ _ _ _ T108 (mkF m 101 (LA10 p1 p2 p3 p4 p5 ml pl ca cb cc cd r101 r102 o103 r108) [(.int pl), (.int (ml + (1 : Int32)))])
  refine Go.of (fun _ hr => XS.iadd X108.here hx rfl (hb hby at_101) rfl hr) ?_
  show Go p e s below _ _ _ _ T108 (mkF m 102 (LA10 p1 p2 p3 p4 p5 ml pl ca cb cc cd r101 r102 o103 r108) [(.int ((ml + (1 : Int32)) + pl))])
  refine Go.of (fun _ hr => XS.istore X108.here hx rfl (hb hby at_102) rfl (l' := (LA11 p1 p2 p3 p4 p5 ml pl ca cb cc cd r101 r102 o103 r108)) rfl hr) ?_
  show Go p e s below _ _ _ _ T108 (mkF m 104 (LA11 p1 p2 p3 p4 p5 ml pl ca cb cc cd r101 r102 o103 r108) [])
  refine Go.of (fun _ hr => XS.aload X108.here hx rfl (hb hby at_104) rfl rfl hr) ?_
  show Go p e s below _ _ _ _ T108 (mkF m 106 (LA11 p1 p2 p3 p4 p5 ml pl ca cb cc cd r101 r102 o103 r108) [(.ref r108)])
  refine Go.of (fun _ hr => XS.ifnullNo X108.here hx rfl (hb hby at_106) rfl hr) ?_
  show Go p e s below _ _ _ _ T108 (mkF m 109 (LA11 p1 p2 p3 p4 p5 ml pl ca cb cc cd r101 r102 o103 r108) [])
  refine Go.of (fun _ hr => XS.aload X108.here hx rfl (hb hby at_109) rfl rfl hr) ?_
  show Go p e s below _ _ _ _ T108 (mkF m 111 (LA11 p1 p2 p3 p4 p5 ml pl ca cb cc cd r101 r102 o103 r108) [(.ref r108)])
  obtain ⟨_, b118, T118, h118, L118, e118, Cc118, X118, B118, J118, g118, hQ118, st118⟩ := own_callV Cc108 B108 J108 X108 (hw _ (List.mem_of_getElem? (i := 167) rfl)) (hw _ (List.mem_of_getElem? (i := 84) rfl)) (notFace_of_selects (args := #[]) (mvT hZ (hw _ (List.mem_of_getElem? (i := 86) rfl)))) (hw _ (List.mem_of_getElem? (i := 86) rfl)) (hw _ (List.mem_of_getElem? (i := 85) rfl)) (hw _ (List.mem_of_getElem? (i := 6) rfl)) (hw _ (List.mem_of_getElem? (i := 87) rfl)) (by decide) Er108 (rm13 l Z a0 hw [] r108 t108 _ (((mkL ml ca cb).map lo8) ++ litI " " ++ ((mkL pl cc cd).map lo8)) zc _ h108 n0 O108 h0.size (own_ole O0) K108.1 Er108 Fv108 Fc108 Vt108 hB1000 S_C hzc) e108 (g := (mkF m 111 (LA11 p1 p2 p3 p4 p5 ml pl ca cb cc cd r101 r102 o103 r108) [(.ref r108)])) rfl (by rw [hml]; rfl) (argsL := []) (rest := []) (lenOf pd15 rfl) rfl (W := 0) (by show 2 * 0 + _ ≤ _; exact Nat.le_of_eq rfl) (hb hby at_111) (by decide) (by decide) (by decide) (by decide)
  obtain ⟨rfl, Nq118, hh118⟩ := hQ118
  have N118 := Fr.app N108 Nq118
  obtain ⟨hx, hZ, hown, hby, hml, hnm, hret, hlk⟩ := id Cc118
  rw [hh118] at e118 B118 J118
  refine Go.of st118 ?_
  show Go p e s below _ _ _ _ T118 (mkF m 114 (LA11 p1 p2 p3 p4 p5 ml pl ca cb cc cd r101 r102 o103 r108) [(.int (Int32.ofNat (((mkL ml ca cb).map lo8) ++ litI " " ++ ((mkL pl cc cd).map lo8)).length))])
  refine Go.of (fun _ hr => XS.iload X118.here hx rfl (hb hby at_114) rfl  hr) ?_
  show Go p e s below _ _ _ _ T118 (mkF m 116 (LA11 p1 p2 p3 p4 p5 ml pl ca cb cc cd r101 r102 o103 r108) [(.int ((ml + (1 : Int32)) + pl)), (.int (Int32.ofNat (((mkL ml ca cb).map lo8) ++ litI " " ++ ((mkL pl cc cd).map lo8)).length))])
  refine Go.of (fun _ hr => XS.icmpYes X118.here hx rfl (pc0 := 116) (pc' := 121) rfl (hb hby at_116) rfl (teq (mkL_sum hr_ml hr_pl)).1 (by decide) (by decide) hr) ?_
  show Go p e s below _ _ _ _ T118 (mkF m 121 (LA11 p1 p2 p3 p4 p5 ml pl ca cb cc cd r101 r102 o103 r108) [])
  refine Go.of (fun _ hr => XS.iconst X118.here hx rfl (hb hby at_121) hr) ?_
  show Go p e s below _ _ _ _ T118 (mkF m 122 (LA11 p1 p2 p3 p4 p5 ml pl ca cb cc cd r101 r102 o103 r108) [(.int (5 : Int32))])
  obtain ⟨T119, h119, k119, X119, e119, E119, A119, st119⟩ := newP X118 hx hZ (hw _ (List.mem_of_getElem? (i := 7) rfl)) e118 (g := (mkF m 122 (LA11 p1 p2 p3 p4 p5 ml pl ca cb cc cd r101 r102 o103 r108) [(.int (5 : Int32))])) rfl (hb hby at_122) rfl (by decide) (cap := 5) (by decide) (by decide) (by decide) (by decide)
  obtain ⟨o119, g119⟩ : ∃ z, z = h108.size := ⟨_, rfl⟩
  rw [← g119] at A119 st119
  have f120 := (f109.ext Eq108)
  have ne_r101_o119 : r101 ≠ o119 := Nat.ne_of_lt (Nat.lt_of_lt_of_le f120.lt (Nat.le_of_eq g119.symm))
  have f121 := (f112.ext Eq108)
  have ne_t101_o119 : t101 ≠ o119 := Nat.ne_of_lt (Nat.lt_of_lt_of_le f121.lt (Nat.le_of_eq g119.symm))
  have f122 := (f113.ext Eq108)
  have ne_r102_o119 : r102 ≠ o119 := Nat.ne_of_lt (Nat.lt_of_lt_of_le f122.lt (Nat.le_of_eq g119.symm))
  have f123 := (f116.ext Eq108)
  have ne_t102_o119 : t102 ≠ o119 := Nat.ne_of_lt (Nat.lt_of_lt_of_le f123.lt (Nat.le_of_eq g119.symm))
  have f124 := (f117.ext Eq108)
  have ne_o103_o119 : o103 ≠ o119 := Nat.ne_of_lt (Nat.lt_of_lt_of_le f124.lt (Nat.le_of_eq g119.symm))
  have ne_r108_o119 : r108 ≠ o119 := Nat.ne_of_lt (Nat.lt_of_lt_of_le Er108.lt (Nat.le_of_eq g119.symm))
  have ne_t108_o119 : t108 ≠ o119 := Nat.ne_of_lt (Nat.lt_of_lt_of_le Vt108.lt (Nat.le_of_eq g119.symm))
  have V119 : Arv Z h119 o119 k119 .char (5 : Int32) [(.int (0 : Int32)), (.int (0 : Int32)), (.int (0 : Int32)), (.int (0 : Int32)), (.int (0 : Int32))] (.int (0 : Int32)) := (Arv.new A119 (by decide)).pad (pad_rep [] (.int (0 : Int32)) 5)
  have lt119 : o119 < h119.size := A119.lt
  have J119 := J118.add E119 g119 lt119
  have B119 := B118.mono E119.1
  have O119 := O108.ext E119
  have sz119 : h0.size ≤ o119 := Nat.le_trans K108.1 (Nat.le_of_eq g119.symm)
  have fr119 : h0.size ≤ o119 := sz119
  have K119 := K108.ext E119
  refine Go.of (fun _ hr => st119 _ hr) ?_
  show Go p e s below _ _ _ _ T119 (mkF m 124 (LA11 p1 p2 p3 p4 p5 ml pl ca cb cc cd r101 r102 o103 r108) [(.ref o119)])
  refine Go.of (fun _ hr => XS.astore X119.here hx rfl (hb hby at_124) rfl rfl (l' := #[.val (.int p1), .val (.int p2), .val (.int p3), .val (.int p4), .val (.int p5), .val (.int ml), .val (.int pl), .val (.int ca), .val (.int cb), .val (.int cc), .val (.int cd), .val (.ref r101), .val (.ref r102), .val (.ref o103), .val (.ref r108), .val (.int ((ml + (1 : Int32)) + pl)), .val (.ref o119), .unset]) rfl hr) ?_
  show Go p e s below _ _ _ _ T119 (mkF m 126 #[.val (.int p1), .val (.int p2), .val (.int p3), .val (.int p4), .val (.int p5), .val (.int ml), .val (.int pl), .val (.int ca), .val (.int cb), .val (.int cc), .val (.int cd), .val (.ref r101), .val (.ref r102), .val (.ref o103), .val (.ref r108), .val (.int ((ml + (1 : Int32)) + pl)), .val (.ref o119), .unset] [])
  have hnn : ml + (1 : Int32) + pl = Int32.ofNat (((mkL ml ca cb).map lo8) ++ litI " " ++ ((mkL pl cc cd).map lo8)).length := (mkL_sum hr_ml hr_pl).symm
  rcases hr_ml with rfl | rfl | rfl <;> rcases hr_pl with rfl | rfl | rfl
  · show Go p e s below _ _ _ _ T119 (mkF m 126 #[.val (.int p1), .val (.int p2), .val (.int p3), .val (.int p4), .val (.int p5), .val (.int (0 : Int32)), .val (.int (0 : Int32)), .val (.int ca), .val (.int cb), .val (.int cc), .val (.int cd), .val (.ref r101), .val (.ref r102), .val (.ref o103), .val (.ref r108), .val (.int (((0 : Int32) + (1 : Int32)) + (0 : Int32))), .val (.ref o119), .unset] [])
    refine Go.of (fun _ hr => XS.iconst X119.here hx rfl (hb hby at_126) hr) ?_
    show Go p e s below _ _ _ _ T119 (mkF m 127 #[.val (.int p1), .val (.int p2), .val (.int p3), .val (.int p4), .val (.int p5), .val (.int (0 : Int32)), .val (.int (0 : Int32)), .val (.int ca), .val (.int cb), .val (.int cc), .val (.int cd), .val (.ref r101), .val (.ref r102), .val (.ref o103), .val (.ref r108), .val (.int (((0 : Int32) + (1 : Int32)) + (0 : Int32))), .val (.ref o119), .unset] [(.int (0 : Int32))])
    refine Go.of (fun _ hr => XS.istore X119.here hx rfl (hb hby at_127) rfl (l' := (LA12 p1 p2 p3 p4 p5 ca cb cc cd r101 r102 o103 r108 o119)) rfl hr) ?_
    show Go p e s below _ _ _ _ T119 (mkF m 129 (LA12 p1 p2 p3 p4 p5 ca cb cc cd r101 r102 o103 r108 o119) [])
    refine Go.of (fun _ hr => XS.iload X119.here hx rfl (hb hby at_129) rfl  hr) ?_
    show Go p e s below _ _ _ _ T119 (mkF m 131 (LA12 p1 p2 p3 p4 p5 ca cb cc cd r101 r102 o103 r108 o119) [(.int (0 : Int32))])
    refine Go.of (fun _ hr => XS.iconst X119.here hx rfl (hb hby at_131) hr) ?_
    show Go p e s below _ _ _ _ T119 (mkF m 132 (LA12 p1 p2 p3 p4 p5 ca cb cc cd r101 r102 o103 r108 o119) [(.int (1 : Int32)), (.int (0 : Int32))])
    refine Go.of (fun _ hr => XS.icmpYes X119.here hx rfl (pc0 := 132) (pc' := 145) rfl (hb hby at_132) rfl (tlt (by decide : ((0 : Int32) < (1 : Int32)))).1 (by decide) (by decide) hr) ?_
    show Go p e s below _ _ _ _ T119 (mkF m 145 (LA12 p1 p2 p3 p4 p5 ca cb cc cd r101 r102 o103 r108 o119) [])
    refine Go.of (fun _ hr => XS.iload X119.here hx rfl (hb hby at_145) rfl  hr) ?_
    show Go p e s below _ _ _ _ T119 (mkF m 147 (LA12 p1 p2 p3 p4 p5 ca cb cc cd r101 r102 o103 r108 o119) [(.int (0 : Int32))])
    refine Go.of (fun _ hr => XS.iconst X119.here hx rfl (hb hby at_147) hr) ?_
    show Go p e s below _ _ _ _ T119 (mkF m 148 (LA12 p1 p2 p3 p4 p5 ca cb cc cd r101 r102 o103 r108 o119) [(.int (2 : Int32)), (.int (0 : Int32))])
    refine Go.of (fun _ hr => XS.icmpYes X119.here hx rfl (pc0 := 148) (pc' := 161) rfl (hb hby at_148) rfl (tlt (by decide : ((0 : Int32) < (2 : Int32)))).1 (by decide) (by decide) hr) ?_
    show Go p e s below _ _ _ _ T119 (mkF m 161 (LA12 p1 p2 p3 p4 p5 ca cb cc cd r101 r102 o103 r108 o119) [])
    refine Go.of (fun _ hr => XS.aload X119.here hx rfl (hb hby at_161) rfl rfl hr) ?_
    show Go p e s below _ _ _ _ T119 (mkF m 163 (LA12 p1 p2 p3 p4 p5 ca cb cc cd r101 r102 o103 r108 o119) [(.ref o119)])
    refine Go.of (fun _ hr => XS.iload X119.here hx rfl (hb hby at_163) rfl  hr) ?_
    show Go p e s below _ _ _ _ T119 (mkF m 165 (LA12 p1 p2 p3 p4 p5 ca cb cc cd r101 r102 o103 r108 o119) [(.int (0 : Int32)), (.ref o119)])
    refine Go.of (fun _ hr => XS.bipush X119.here hx rfl (hb hby at_165) hr) ?_
    show Go p e s below _ _ _ _ T119 (mkF m 167 (LA12 p1 p2 p3 p4 p5 ca cb cc cd r101 r102 o103 r108 o119) [(.int (32 : Int32)), (.int (0 : Int32)), (.ref o119)])
    obtain ⟨cl125, Ar125, q125, S125, N125_, H125, G125⟩ := id V119
    have hin125 : ¬ ((0 : Int32) < 0 ∨ cl125.slots.size ≤ ((0 : Int32)).toNatClampNeg) := inb_of S125 ⟨by decide, by decide⟩
    obtain ⟨T125, h125, X125, e125, W125, st125⟩ := stC X119 hx hZ e119 Ar125 (j := (0 : Int32)) hin125 (g := (mkF m 167 (LA12 p1 p2 p3 p4 p5 ca cb cc cd r101 r102 o103 r108 o119) [(.int (32 : Int32)), (.int (0 : Int32)), (.ref o119)])) rfl rfl (hb hby at_167)
    have W125' := W125
    rw [show nar .char (32 : Int32) = (32 : Int32) from rfl] at W125'
    have V125 : Arv Z h125 o119 k119 .char (5 : Int32) [(.int (32 : Int32)), (.int (0 : Int32)), (.int (0 : Int32)), (.int (0 : Int32)), (.int (0 : Int32))] (.int (0 : Int32)) := Arv.set Ar125 q125 S125 N125_ H125 G125 rfl W125' 0 rfl (by simp)
    have N125 := Fr.snoc X125 N118 fr119
    have J125 := J119.wr W125 (List.mem_cons_self ..)
    have B125 := B119.mono (Nat.le_of_eq W125.size.symm)
    have O125 := O119.wr W125 (Nat.le_trans (own_ole O0) fr119)
    have K125 := K119.wr W125 (Or.inr sz119)
    refine Go.of (fun _ hr => st125 _ hr) ?_
    show Go p e s below _ _ _ _ T125 (mkF m 168 (LA12 p1 p2 p3 p4 p5 ca cb cc cd r101 r102 o103 r108 o119) [])
    refine Go.of (fun _ hr => XS.iinc X125.here hx rfl (hb hby at_168) rfl (l' := (LA13 p1 p2 p3 p4 p5 ca cb cc cd r101 r102 o103 r108 o119)) rfl hr) ?_
    show Go p e s below _ _ _ _ T125 (mkF m 171 (LA13 p1 p2 p3 p4 p5 ca cb cc cd r101 r102 o103 r108 o119) [])
    refine Go.of (fun _ hr => XS.iload X125.here hx rfl (hb hby at_171) rfl  hr) ?_
    show Go p e s below _ _ _ _ T125 (mkF m 173 (LA13 p1 p2 p3 p4 p5 ca cb cc cd r101 r102 o103 r108 o119) [(.int (0 : Int32))])
    refine Go.of (fun _ hr => XS.iconst X125.here hx rfl (hb hby at_173) hr) ?_
    show Go p e s below _ _ _ _ T125 (mkF m 174 (LA13 p1 p2 p3 p4 p5 ca cb cc cd r101 r102 o103 r108 o119) [(.int (1 : Int32)), (.int (0 : Int32))])
    refine Go.of (fun _ hr => XS.icmpYes X125.here hx rfl (pc0 := 174) (pc' := 187) rfl (hb hby at_174) rfl (tlt (by decide : ((0 : Int32) < (1 : Int32)))).1 (by decide) (by decide) hr) ?_
    show Go p e s below _ _ _ _ T125 (mkF m 187 (LA13 p1 p2 p3 p4 p5 ca cb cc cd r101 r102 o103 r108 o119) [])
    refine Go.of (fun _ hr => XS.iload X125.here hx rfl (hb hby at_187) rfl  hr) ?_
    show Go p e s below _ _ _ _ T125 (mkF m 189 (LA13 p1 p2 p3 p4 p5 ca cb cc cd r101 r102 o103 r108 o119) [(.int (0 : Int32))])
    refine Go.of (fun _ hr => XS.iconst X125.here hx rfl (hb hby at_189) hr) ?_
    show Go p e s below _ _ _ _ T125 (mkF m 190 (LA13 p1 p2 p3 p4 p5 ca cb cc cd r101 r102 o103 r108 o119) [(.int (2 : Int32)), (.int (0 : Int32))])
    refine Go.of (fun _ hr => XS.icmpYes X125.here hx rfl (pc0 := 190) (pc' := 203) rfl (hb hby at_190) rfl (tlt (by decide : ((0 : Int32) < (2 : Int32)))).1 (by decide) (by decide) hr) ?_
    show Go p e s below _ _ _ _ T125 (mkF m 203 (LA13 p1 p2 p3 p4 p5 ca cb cc cd r101 r102 o103 r108 o119) [])
    have f126 := ((Er108.ext E119).wr W125)
    have f127 := ((Fv108.ext E119).other W125 (Or.inl ne_r108_o119))
    have f128 := ((Fc108.ext E119).other W125 (Or.inl ne_r108_o119))
    have f129 := ((Vt108.ext E119).other W125 ne_t108_o119)
    exact law_tail l Z a0 hw p1 p2 p3 p4 p5 (0 : Int32) (0 : Int32) ca cb cc cd r101 r102 o103 (((0 : Int32) + (1 : Int32)) + (0 : Int32)) (1 : Int32) r108 t108 _ (((mkL (0 : Int32) ca cb).map lo8) ++ litI " " ++ ((mkL (0 : Int32) cc cd).map lo8)) o119  _ [(32 : Int32), (0 : Int32), (0 : Int32), (0 : Int32), (0 : Int32)] zc h125 n0 O125 nb hb0 (Nat.le_trans hnb K125.1) fs hfs S_F f126 f127 f128 f129 hB1000 V125 hnn (fun _ => (by rw [litI_sp]; show _ = (32 : Int32); exact chV32 rfl)) (fun q => absurd q (by decide)) (fun q => absurd q (by decide)) (fun q => absurd q (by decide)) (fun q => absurd q (by decide)) S_C hzc Cc118 X125 e125 (fun y hy => Nat.le_trans hnb (N125 y hy)) (J125.sub (fun x hx => (List.mem_cons_of_mem _ (List.mem_cons_of_mem _ hx)))) B125
  · show Go p e s below _ _ _ _ T119 (mkF m 126 #[.val (.int p1), .val (.int p2), .val (.int p3), .val (.int p4), .val (.int p5), .val (.int (0 : Int32)), .val (.int (1 : Int32)), .val (.int ca), .val (.int cb), .val (.int cc), .val (.int cd), .val (.ref r101), .val (.ref r102), .val (.ref o103), .val (.ref r108), .val (.int (((0 : Int32) + (1 : Int32)) + (1 : Int32))), .val (.ref o119), .unset] [])
    refine Go.of (fun _ hr => XS.iconst X119.here hx rfl (hb hby at_126) hr) ?_
    show Go p e s below _ _ _ _ T119 (mkF m 127 #[.val (.int p1), .val (.int p2), .val (.int p3), .val (.int p4), .val (.int p5), .val (.int (0 : Int32)), .val (.int (1 : Int32)), .val (.int ca), .val (.int cb), .val (.int cc), .val (.int cd), .val (.ref r101), .val (.ref r102), .val (.ref o103), .val (.ref r108), .val (.int (((0 : Int32) + (1 : Int32)) + (1 : Int32))), .val (.ref o119), .unset] [(.int (0 : Int32))])
    refine Go.of (fun _ hr => XS.istore X119.here hx rfl (hb hby at_127) rfl (l' := (LA14 p1 p2 p3 p4 p5 ca cb cc cd r101 r102 o103 r108 o119)) rfl hr) ?_
    show Go p e s below _ _ _ _ T119 (mkF m 129 (LA14 p1 p2 p3 p4 p5 ca cb cc cd r101 r102 o103 r108 o119) [])
    refine Go.of (fun _ hr => XS.iload X119.here hx rfl (hb hby at_129) rfl  hr) ?_
    show Go p e s below _ _ _ _ T119 (mkF m 131 (LA14 p1 p2 p3 p4 p5 ca cb cc cd r101 r102 o103 r108 o119) [(.int (0 : Int32))])
    refine Go.of (fun _ hr => XS.iconst X119.here hx rfl (hb hby at_131) hr) ?_
    show Go p e s below _ _ _ _ T119 (mkF m 132 (LA14 p1 p2 p3 p4 p5 ca cb cc cd r101 r102 o103 r108 o119) [(.int (1 : Int32)), (.int (0 : Int32))])
    refine Go.of (fun _ hr => XS.icmpYes X119.here hx rfl (pc0 := 132) (pc' := 145) rfl (hb hby at_132) rfl (tlt (by decide : ((0 : Int32) < (1 : Int32)))).1 (by decide) (by decide) hr) ?_
    show Go p e s below _ _ _ _ T119 (mkF m 145 (LA14 p1 p2 p3 p4 p5 ca cb cc cd r101 r102 o103 r108 o119) [])
    refine Go.of (fun _ hr => XS.iload X119.here hx rfl (hb hby at_145) rfl  hr) ?_
    show Go p e s below _ _ _ _ T119 (mkF m 147 (LA14 p1 p2 p3 p4 p5 ca cb cc cd r101 r102 o103 r108 o119) [(.int (0 : Int32))])
    refine Go.of (fun _ hr => XS.iconst X119.here hx rfl (hb hby at_147) hr) ?_
    show Go p e s below _ _ _ _ T119 (mkF m 148 (LA14 p1 p2 p3 p4 p5 ca cb cc cd r101 r102 o103 r108 o119) [(.int (2 : Int32)), (.int (0 : Int32))])
    refine Go.of (fun _ hr => XS.icmpYes X119.here hx rfl (pc0 := 148) (pc' := 161) rfl (hb hby at_148) rfl (tlt (by decide : ((0 : Int32) < (2 : Int32)))).1 (by decide) (by decide) hr) ?_
    show Go p e s below _ _ _ _ T119 (mkF m 161 (LA14 p1 p2 p3 p4 p5 ca cb cc cd r101 r102 o103 r108 o119) [])
    refine Go.of (fun _ hr => XS.aload X119.here hx rfl (hb hby at_161) rfl rfl hr) ?_
    show Go p e s below _ _ _ _ T119 (mkF m 163 (LA14 p1 p2 p3 p4 p5 ca cb cc cd r101 r102 o103 r108 o119) [(.ref o119)])
    refine Go.of (fun _ hr => XS.iload X119.here hx rfl (hb hby at_163) rfl  hr) ?_
    show Go p e s below _ _ _ _ T119 (mkF m 165 (LA14 p1 p2 p3 p4 p5 ca cb cc cd r101 r102 o103 r108 o119) [(.int (0 : Int32)), (.ref o119)])
    refine Go.of (fun _ hr => XS.bipush X119.here hx rfl (hb hby at_165) hr) ?_
    show Go p e s below _ _ _ _ T119 (mkF m 167 (LA14 p1 p2 p3 p4 p5 ca cb cc cd r101 r102 o103 r108 o119) [(.int (32 : Int32)), (.int (0 : Int32)), (.ref o119)])
    obtain ⟨cl130, Ar130, q130, S130, N130_, H130, G130⟩ := id V119
    have hin130 : ¬ ((0 : Int32) < 0 ∨ cl130.slots.size ≤ ((0 : Int32)).toNatClampNeg) := inb_of S130 ⟨by decide, by decide⟩
    obtain ⟨T130, h130, X130, e130, W130, st130⟩ := stC X119 hx hZ e119 Ar130 (j := (0 : Int32)) hin130 (g := (mkF m 167 (LA14 p1 p2 p3 p4 p5 ca cb cc cd r101 r102 o103 r108 o119) [(.int (32 : Int32)), (.int (0 : Int32)), (.ref o119)])) rfl rfl (hb hby at_167)
    have W130' := W130
    rw [show nar .char (32 : Int32) = (32 : Int32) from rfl] at W130'
    have V130 : Arv Z h130 o119 k119 .char (5 : Int32) [(.int (32 : Int32)), (.int (0 : Int32)), (.int (0 : Int32)), (.int (0 : Int32)), (.int (0 : Int32))] (.int (0 : Int32)) := Arv.set Ar130 q130 S130 N130_ H130 G130 rfl W130' 0 rfl (by simp)
    have N130 := Fr.snoc X130 N118 fr119
    have J130 := J119.wr W130 (List.mem_cons_self ..)
    have B130 := B119.mono (Nat.le_of_eq W130.size.symm)
    have O130 := O119.wr W130 (Nat.le_trans (own_ole O0) fr119)
    have K130 := K119.wr W130 (Or.inr sz119)
    refine Go.of (fun _ hr => st130 _ hr) ?_
    show Go p e s below _ _ _ _ T130 (mkF m 168 (LA14 p1 p2 p3 p4 p5 ca cb cc cd r101 r102 o103 r108 o119) [])
    refine Go.of (fun _ hr => XS.iinc X130.here hx rfl (hb hby at_168) rfl (l' := (LA15 p1 p2 p3 p4 p5 ca cb cc cd r101 r102 o103 r108 o119)) rfl hr) ?_
    show Go p e s below _ _ _ _ T130 (mkF m 171 (LA15 p1 p2 p3 p4 p5 ca cb cc cd r101 r102 o103 r108 o119) [])
    refine Go.of (fun _ hr => XS.iload X130.here hx rfl (hb hby at_171) rfl  hr) ?_
    show Go p e s below _ _ _ _ T130 (mkF m 173 (LA15 p1 p2 p3 p4 p5 ca cb cc cd r101 r102 o103 r108 o119) [(.int (1 : Int32))])
    refine Go.of (fun _ hr => XS.iconst X130.here hx rfl (hb hby at_173) hr) ?_
    show Go p e s below _ _ _ _ T130 (mkF m 174 (LA15 p1 p2 p3 p4 p5 ca cb cc cd r101 r102 o103 r108 o119) [(.int (1 : Int32)), (.int (1 : Int32))])
    refine Go.of (fun _ hr => XS.icmpNo X130.here hx rfl (hb hby at_174) rfl (flt (by decide : ¬ ((1 : Int32) < (1 : Int32)))).1 hr) ?_
    show Go p e s below _ _ _ _ T130 (mkF m 177 (LA15 p1 p2 p3 p4 p5 ca cb cc cd r101 r102 o103 r108 o119) [])
    refine Go.of (fun _ hr => XS.aload X130.here hx rfl (hb hby at_177) rfl rfl hr) ?_
    show Go p e s below _ _ _ _ T130 (mkF m 179 (LA15 p1 p2 p3 p4 p5 ca cb cc cd r101 r102 o103 r108 o119) [(.ref o119)])
    refine Go.of (fun _ hr => XS.iload X130.here hx rfl (hb hby at_179) rfl  hr) ?_
    show Go p e s below _ _ _ _ T130 (mkF m 181 (LA15 p1 p2 p3 p4 p5 ca cb cc cd r101 r102 o103 r108 o119) [(.int (1 : Int32)), (.ref o119)])
    refine Go.of (fun _ hr => XS.iload X130.here hx rfl (hb hby at_181) rfl  hr) ?_
    show Go p e s below _ _ _ _ T130 (mkF m 183 (LA15 p1 p2 p3 p4 p5 ca cb cc cd r101 r102 o103 r108 o119) [(.int cc), (.int (1 : Int32)), (.ref o119)])
    obtain ⟨cl131, Ar131, q131, S131, N131_, H131, G131⟩ := id V130
    have hin131 : ¬ ((1 : Int32) < 0 ∨ cl131.slots.size ≤ ((1 : Int32)).toNatClampNeg) := inb_of S131 ⟨by decide, by decide⟩
    obtain ⟨T131, h131, X131, e131, W131, st131⟩ := stC X130 hx hZ e130 Ar131 (j := (1 : Int32)) hin131 (g := (mkF m 183 (LA15 p1 p2 p3 p4 p5 ca cb cc cd r101 r102 o103 r108 o119) [(.int cc), (.int (1 : Int32)), (.ref o119)])) rfl rfl (hb hby at_183)
    have W131' := W131
    rw [show nar .char cc = cc from (nar_c hq_cc.1 (le255 hq_cc.2))] at W131'
    have V131 : Arv Z h131 o119 k119 .char (5 : Int32) [(.int (32 : Int32)), (.int cc), (.int (0 : Int32)), (.int (0 : Int32)), (.int (0 : Int32))] (.int (0 : Int32)) := Arv.set Ar131 q131 S131 N131_ H131 G131 (fits_c hq_cc.1 (le255 hq_cc.2)) W131' 1 rfl (by simp)
    have N131 := Fr.snoc X131 N130 fr119
    have J131 := J130.wr W131 (List.mem_cons_self ..)
    have B131 := B130.mono (Nat.le_of_eq W131.size.symm)
    have O131 := O130.wr W131 (Nat.le_trans (own_ole O0) fr119)
    have K131 := K130.wr W131 (Or.inr sz119)
    refine Go.of (fun _ hr => st131 _ hr) ?_
    show Go p e s below _ _ _ _ T131 (mkF m 184 (LA15 p1 p2 p3 p4 p5 ca cb cc cd r101 r102 o103 r108 o119) [])
    refine Go.of (fun _ hr => XS.iinc X131.here hx rfl (hb hby at_184) rfl (l' := (LA16 p1 p2 p3 p4 p5 ca cb cc cd r101 r102 o103 r108 o119)) rfl hr) ?_
    show Go p e s below _ _ _ _ T131 (mkF m 187 (LA16 p1 p2 p3 p4 p5 ca cb cc cd r101 r102 o103 r108 o119) [])
    refine Go.of (fun _ hr => XS.iload X131.here hx rfl (hb hby at_187) rfl  hr) ?_
    show Go p e s below _ _ _ _ T131 (mkF m 189 (LA16 p1 p2 p3 p4 p5 ca cb cc cd r101 r102 o103 r108 o119) [(.int (1 : Int32))])
    refine Go.of (fun _ hr => XS.iconst X131.here hx rfl (hb hby at_189) hr) ?_
    show Go p e s below _ _ _ _ T131 (mkF m 190 (LA16 p1 p2 p3 p4 p5 ca cb cc cd r101 r102 o103 r108 o119) [(.int (2 : Int32)), (.int (1 : Int32))])
    refine Go.of (fun _ hr => XS.icmpYes X131.here hx rfl (pc0 := 190) (pc' := 203) rfl (hb hby at_190) rfl (tlt (by decide : ((1 : Int32) < (2 : Int32)))).1 (by decide) (by decide) hr) ?_
    show Go p e s below _ _ _ _ T131 (mkF m 203 (LA16 p1 p2 p3 p4 p5 ca cb cc cd r101 r102 o103 r108 o119) [])
    have f132 := (((Er108.ext E119).wr W130).wr W131)
    have f133 := (((Fv108.ext E119).other W130 (Or.inl ne_r108_o119)).other W131 (Or.inl ne_r108_o119))
    have f134 := (((Fc108.ext E119).other W130 (Or.inl ne_r108_o119)).other W131 (Or.inl ne_r108_o119))
    have f135 := (((Vt108.ext E119).other W130 ne_t108_o119).other W131 ne_t108_o119)
    exact law_tail l Z a0 hw p1 p2 p3 p4 p5 (0 : Int32) (1 : Int32) ca cb cc cd r101 r102 o103 (((0 : Int32) + (1 : Int32)) + (1 : Int32)) (2 : Int32) r108 t108 _ (((mkL (0 : Int32) ca cb).map lo8) ++ litI " " ++ ((mkL (1 : Int32) cc cd).map lo8)) o119  _ [(32 : Int32), cc, (0 : Int32), (0 : Int32), (0 : Int32)] zc h131 n0 O131 nb hb0 (Nat.le_trans hnb K131.1) fs hfs S_F f132 f133 f134 f135 hB1000 V131 hnn (fun _ => (by rw [litI_sp]; show _ = (32 : Int32); exact chV32 rfl)) (fun _ => (by rw [litI_sp]; exact chr_lo8 hq_cc)) (fun q => absurd q (by decide)) (fun q => absurd q (by decide)) (fun q => absurd q (by decide)) S_C hzc Cc118 X131 e131 (fun y hy => Nat.le_trans hnb (N131 y hy)) (J131.sub (fun x hx => (List.mem_cons_of_mem _ (List.mem_cons_of_mem _ hx)))) B131
  · show Go p e s below _ _ _ _ T119 (mkF m 126 #[.val (.int p1), .val (.int p2), .val (.int p3), .val (.int p4), .val (.int p5), .val (.int (0 : Int32)), .val (.int (2 : Int32)), .val (.int ca), .val (.int cb), .val (.int cc), .val (.int cd), .val (.ref r101), .val (.ref r102), .val (.ref o103), .val (.ref r108), .val (.int (((0 : Int32) + (1 : Int32)) + (2 : Int32))), .val (.ref o119), .unset] [])
    refine Go.of (fun _ hr => XS.iconst X119.here hx rfl (hb hby at_126) hr) ?_
    show Go p e s below _ _ _ _ T119 (mkF m 127 #[.val (.int p1), .val (.int p2), .val (.int p3), .val (.int p4), .val (.int p5), .val (.int (0 : Int32)), .val (.int (2 : Int32)), .val (.int ca), .val (.int cb), .val (.int cc), .val (.int cd), .val (.ref r101), .val (.ref r102), .val (.ref o103), .val (.ref r108), .val (.int (((0 : Int32) + (1 : Int32)) + (2 : Int32))), .val (.ref o119), .unset] [(.int (0 : Int32))])
    refine Go.of (fun _ hr => XS.istore X119.here hx rfl (hb hby at_127) rfl (l' := (LA17 p1 p2 p3 p4 p5 ca cb cc cd r101 r102 o103 r108 o119)) rfl hr) ?_
    show Go p e s below _ _ _ _ T119 (mkF m 129 (LA17 p1 p2 p3 p4 p5 ca cb cc cd r101 r102 o103 r108 o119) [])
    refine Go.of (fun _ hr => XS.iload X119.here hx rfl (hb hby at_129) rfl  hr) ?_
    show Go p e s below _ _ _ _ T119 (mkF m 131 (LA17 p1 p2 p3 p4 p5 ca cb cc cd r101 r102 o103 r108 o119) [(.int (0 : Int32))])
    refine Go.of (fun _ hr => XS.iconst X119.here hx rfl (hb hby at_131) hr) ?_
    show Go p e s below _ _ _ _ T119 (mkF m 132 (LA17 p1 p2 p3 p4 p5 ca cb cc cd r101 r102 o103 r108 o119) [(.int (1 : Int32)), (.int (0 : Int32))])
    refine Go.of (fun _ hr => XS.icmpYes X119.here hx rfl (pc0 := 132) (pc' := 145) rfl (hb hby at_132) rfl (tlt (by decide : ((0 : Int32) < (1 : Int32)))).1 (by decide) (by decide) hr) ?_
    show Go p e s below _ _ _ _ T119 (mkF m 145 (LA17 p1 p2 p3 p4 p5 ca cb cc cd r101 r102 o103 r108 o119) [])
    refine Go.of (fun _ hr => XS.iload X119.here hx rfl (hb hby at_145) rfl  hr) ?_
    show Go p e s below _ _ _ _ T119 (mkF m 147 (LA17 p1 p2 p3 p4 p5 ca cb cc cd r101 r102 o103 r108 o119) [(.int (0 : Int32))])
    refine Go.of (fun _ hr => XS.iconst X119.here hx rfl (hb hby at_147) hr) ?_
    show Go p e s below _ _ _ _ T119 (mkF m 148 (LA17 p1 p2 p3 p4 p5 ca cb cc cd r101 r102 o103 r108 o119) [(.int (2 : Int32)), (.int (0 : Int32))])
    refine Go.of (fun _ hr => XS.icmpYes X119.here hx rfl (pc0 := 148) (pc' := 161) rfl (hb hby at_148) rfl (tlt (by decide : ((0 : Int32) < (2 : Int32)))).1 (by decide) (by decide) hr) ?_
    show Go p e s below _ _ _ _ T119 (mkF m 161 (LA17 p1 p2 p3 p4 p5 ca cb cc cd r101 r102 o103 r108 o119) [])
    refine Go.of (fun _ hr => XS.aload X119.here hx rfl (hb hby at_161) rfl rfl hr) ?_
    show Go p e s below _ _ _ _ T119 (mkF m 163 (LA17 p1 p2 p3 p4 p5 ca cb cc cd r101 r102 o103 r108 o119) [(.ref o119)])
    refine Go.of (fun _ hr => XS.iload X119.here hx rfl (hb hby at_163) rfl  hr) ?_
    show Go p e s below _ _ _ _ T119 (mkF m 165 (LA17 p1 p2 p3 p4 p5 ca cb cc cd r101 r102 o103 r108 o119) [(.int (0 : Int32)), (.ref o119)])
    refine Go.of (fun _ hr => XS.bipush X119.here hx rfl (hb hby at_165) hr) ?_
    show Go p e s below _ _ _ _ T119 (mkF m 167 (LA17 p1 p2 p3 p4 p5 ca cb cc cd r101 r102 o103 r108 o119) [(.int (32 : Int32)), (.int (0 : Int32)), (.ref o119)])
    obtain ⟨cl136, Ar136, q136, S136, N136_, H136, G136⟩ := id V119
    have hin136 : ¬ ((0 : Int32) < 0 ∨ cl136.slots.size ≤ ((0 : Int32)).toNatClampNeg) := inb_of S136 ⟨by decide, by decide⟩
    obtain ⟨T136, h136, X136, e136, W136, st136⟩ := stC X119 hx hZ e119 Ar136 (j := (0 : Int32)) hin136 (g := (mkF m 167 (LA17 p1 p2 p3 p4 p5 ca cb cc cd r101 r102 o103 r108 o119) [(.int (32 : Int32)), (.int (0 : Int32)), (.ref o119)])) rfl rfl (hb hby at_167)
    have W136' := W136
    rw [show nar .char (32 : Int32) = (32 : Int32) from rfl] at W136'
    have V136 : Arv Z h136 o119 k119 .char (5 : Int32) [(.int (32 : Int32)), (.int (0 : Int32)), (.int (0 : Int32)), (.int (0 : Int32)), (.int (0 : Int32))] (.int (0 : Int32)) := Arv.set Ar136 q136 S136 N136_ H136 G136 rfl W136' 0 rfl (by simp)
    have N136 := Fr.snoc X136 N118 fr119
    have J136 := J119.wr W136 (List.mem_cons_self ..)
    have B136 := B119.mono (Nat.le_of_eq W136.size.symm)
    have O136 := O119.wr W136 (Nat.le_trans (own_ole O0) fr119)
    have K136 := K119.wr W136 (Or.inr sz119)
    refine Go.of (fun _ hr => st136 _ hr) ?_
    show Go p e s below _ _ _ _ T136 (mkF m 168 (LA17 p1 p2 p3 p4 p5 ca cb cc cd r101 r102 o103 r108 o119) [])
    refine Go.of (fun _ hr => XS.iinc X136.here hx rfl (hb hby at_168) rfl (l' := (LA18 p1 p2 p3 p4 p5 ca cb cc cd r101 r102 o103 r108 o119)) rfl hr) ?_
    show Go p e s below _ _ _ _ T136 (mkF m 171 (LA18 p1 p2 p3 p4 p5 ca cb cc cd r101 r102 o103 r108 o119) [])
    refine Go.of (fun _ hr => XS.iload X136.here hx rfl (hb hby at_171) rfl  hr) ?_
    show Go p e s below _ _ _ _ T136 (mkF m 173 (LA18 p1 p2 p3 p4 p5 ca cb cc cd r101 r102 o103 r108 o119) [(.int (2 : Int32))])
    refine Go.of (fun _ hr => XS.iconst X136.here hx rfl (hb hby at_173) hr) ?_
    show Go p e s below _ _ _ _ T136 (mkF m 174 (LA18 p1 p2 p3 p4 p5 ca cb cc cd r101 r102 o103 r108 o119) [(.int (1 : Int32)), (.int (2 : Int32))])
    refine Go.of (fun _ hr => XS.icmpNo X136.here hx rfl (hb hby at_174) rfl (flt (by decide : ¬ ((2 : Int32) < (1 : Int32)))).1 hr) ?_
    show Go p e s below _ _ _ _ T136 (mkF m 177 (LA18 p1 p2 p3 p4 p5 ca cb cc cd r101 r102 o103 r108 o119) [])
    refine Go.of (fun _ hr => XS.aload X136.here hx rfl (hb hby at_177) rfl rfl hr) ?_
    show Go p e s below _ _ _ _ T136 (mkF m 179 (LA18 p1 p2 p3 p4 p5 ca cb cc cd r101 r102 o103 r108 o119) [(.ref o119)])
    refine Go.of (fun _ hr => XS.iload X136.here hx rfl (hb hby at_179) rfl  hr) ?_
    show Go p e s below _ _ _ _ T136 (mkF m 181 (LA18 p1 p2 p3 p4 p5 ca cb cc cd r101 r102 o103 r108 o119) [(.int (1 : Int32)), (.ref o119)])
    refine Go.of (fun _ hr => XS.iload X136.here hx rfl (hb hby at_181) rfl  hr) ?_
    show Go p e s below _ _ _ _ T136 (mkF m 183 (LA18 p1 p2 p3 p4 p5 ca cb cc cd r101 r102 o103 r108 o119) [(.int cc), (.int (1 : Int32)), (.ref o119)])
    obtain ⟨cl137, Ar137, q137, S137, N137_, H137, G137⟩ := id V136
    have hin137 : ¬ ((1 : Int32) < 0 ∨ cl137.slots.size ≤ ((1 : Int32)).toNatClampNeg) := inb_of S137 ⟨by decide, by decide⟩
    obtain ⟨T137, h137, X137, e137, W137, st137⟩ := stC X136 hx hZ e136 Ar137 (j := (1 : Int32)) hin137 (g := (mkF m 183 (LA18 p1 p2 p3 p4 p5 ca cb cc cd r101 r102 o103 r108 o119) [(.int cc), (.int (1 : Int32)), (.ref o119)])) rfl rfl (hb hby at_183)
    have W137' := W137
    rw [show nar .char cc = cc from (nar_c hq_cc.1 (le255 hq_cc.2))] at W137'
    have V137 : Arv Z h137 o119 k119 .char (5 : Int32) [(.int (32 : Int32)), (.int cc), (.int (0 : Int32)), (.int (0 : Int32)), (.int (0 : Int32))] (.int (0 : Int32)) := Arv.set Ar137 q137 S137 N137_ H137 G137 (fits_c hq_cc.1 (le255 hq_cc.2)) W137' 1 rfl (by simp)
    have N137 := Fr.snoc X137 N136 fr119
    have J137 := J136.wr W137 (List.mem_cons_self ..)
    have B137 := B136.mono (Nat.le_of_eq W137.size.symm)
    have O137 := O136.wr W137 (Nat.le_trans (own_ole O0) fr119)
    have K137 := K136.wr W137 (Or.inr sz119)
    refine Go.of (fun _ hr => st137 _ hr) ?_
    show Go p e s below _ _ _ _ T137 (mkF m 184 (LA18 p1 p2 p3 p4 p5 ca cb cc cd r101 r102 o103 r108 o119) [])
    refine Go.of (fun _ hr => XS.iinc X137.here hx rfl (hb hby at_184) rfl (l' := (LA19 p1 p2 p3 p4 p5 ca cb cc cd r101 r102 o103 r108 o119)) rfl hr) ?_
    show Go p e s below _ _ _ _ T137 (mkF m 187 (LA19 p1 p2 p3 p4 p5 ca cb cc cd r101 r102 o103 r108 o119) [])
    refine Go.of (fun _ hr => XS.iload X137.here hx rfl (hb hby at_187) rfl  hr) ?_
    show Go p e s below _ _ _ _ T137 (mkF m 189 (LA19 p1 p2 p3 p4 p5 ca cb cc cd r101 r102 o103 r108 o119) [(.int (2 : Int32))])
    refine Go.of (fun _ hr => XS.iconst X137.here hx rfl (hb hby at_189) hr) ?_
    show Go p e s below _ _ _ _ T137 (mkF m 190 (LA19 p1 p2 p3 p4 p5 ca cb cc cd r101 r102 o103 r108 o119) [(.int (2 : Int32)), (.int (2 : Int32))])
    refine Go.of (fun _ hr => XS.icmpNo X137.here hx rfl (hb hby at_190) rfl (flt (by decide : ¬ ((2 : Int32) < (2 : Int32)))).1 hr) ?_
    show Go p e s below _ _ _ _ T137 (mkF m 193 (LA19 p1 p2 p3 p4 p5 ca cb cc cd r101 r102 o103 r108 o119) [])
    refine Go.of (fun _ hr => XS.aload X137.here hx rfl (hb hby at_193) rfl rfl hr) ?_
    show Go p e s below _ _ _ _ T137 (mkF m 195 (LA19 p1 p2 p3 p4 p5 ca cb cc cd r101 r102 o103 r108 o119) [(.ref o119)])
    refine Go.of (fun _ hr => XS.iload X137.here hx rfl (hb hby at_195) rfl  hr) ?_
    show Go p e s below _ _ _ _ T137 (mkF m 197 (LA19 p1 p2 p3 p4 p5 ca cb cc cd r101 r102 o103 r108 o119) [(.int (2 : Int32)), (.ref o119)])
    refine Go.of (fun _ hr => XS.iload X137.here hx rfl (hb hby at_197) rfl  hr) ?_
    show Go p e s below _ _ _ _ T137 (mkF m 199 (LA19 p1 p2 p3 p4 p5 ca cb cc cd r101 r102 o103 r108 o119) [(.int cd), (.int (2 : Int32)), (.ref o119)])
    obtain ⟨cl138, Ar138, q138, S138, N138_, H138, G138⟩ := id V137
    have hin138 : ¬ ((2 : Int32) < 0 ∨ cl138.slots.size ≤ ((2 : Int32)).toNatClampNeg) := inb_of S138 ⟨by decide, by decide⟩
    obtain ⟨T138, h138, X138, e138, W138, st138⟩ := stC X137 hx hZ e137 Ar138 (j := (2 : Int32)) hin138 (g := (mkF m 199 (LA19 p1 p2 p3 p4 p5 ca cb cc cd r101 r102 o103 r108 o119) [(.int cd), (.int (2 : Int32)), (.ref o119)])) rfl rfl (hb hby at_199)
    have W138' := W138
    rw [show nar .char cd = cd from (nar_c hq_cd.1 (le255 hq_cd.2))] at W138'
    have V138 : Arv Z h138 o119 k119 .char (5 : Int32) [(.int (32 : Int32)), (.int cc), (.int cd), (.int (0 : Int32)), (.int (0 : Int32))] (.int (0 : Int32)) := Arv.set Ar138 q138 S138 N138_ H138 G138 (fits_c hq_cd.1 (le255 hq_cd.2)) W138' 2 rfl (by simp)
    have N138 := Fr.snoc X138 N137 fr119
    have J138 := J137.wr W138 (List.mem_cons_self ..)
    have B138 := B137.mono (Nat.le_of_eq W138.size.symm)
    have O138 := O137.wr W138 (Nat.le_trans (own_ole O0) fr119)
    have K138 := K137.wr W138 (Or.inr sz119)
    refine Go.of (fun _ hr => st138 _ hr) ?_
    show Go p e s below _ _ _ _ T138 (mkF m 200 (LA19 p1 p2 p3 p4 p5 ca cb cc cd r101 r102 o103 r108 o119) [])
    refine Go.of (fun _ hr => XS.iinc X138.here hx rfl (hb hby at_200) rfl (l' := #[.val (.int p1), .val (.int p2), .val (.int p3), .val (.int p4), .val (.int p5), .val (.int (0 : Int32)), .val (.int (2 : Int32)), .val (.int ca), .val (.int cb), .val (.int cc), .val (.int cd), .val (.ref r101), .val (.ref r102), .val (.ref o103), .val (.ref r108), .val (.int (((0 : Int32) + (1 : Int32)) + (2 : Int32))), .val (.ref o119), .val (.int (3 : Int32))]) rfl hr) ?_
    show Go p e s below _ _ _ _ T138 (mkF m 203 #[.val (.int p1), .val (.int p2), .val (.int p3), .val (.int p4), .val (.int p5), .val (.int (0 : Int32)), .val (.int (2 : Int32)), .val (.int ca), .val (.int cb), .val (.int cc), .val (.int cd), .val (.ref r101), .val (.ref r102), .val (.ref o103), .val (.ref r108), .val (.int (((0 : Int32) + (1 : Int32)) + (2 : Int32))), .val (.ref o119), .val (.int (3 : Int32))] [])
    have f139 := ((((Er108.ext E119).wr W136).wr W137).wr W138)
    have f140 := ((((Fv108.ext E119).other W136 (Or.inl ne_r108_o119)).other W137 (Or.inl ne_r108_o119)).other W138 (Or.inl ne_r108_o119))
    have f141 := ((((Fc108.ext E119).other W136 (Or.inl ne_r108_o119)).other W137 (Or.inl ne_r108_o119)).other W138 (Or.inl ne_r108_o119))
    have f142 := ((((Vt108.ext E119).other W136 ne_t108_o119).other W137 ne_t108_o119).other W138 ne_t108_o119)
    exact law_tail l Z a0 hw p1 p2 p3 p4 p5 (0 : Int32) (2 : Int32) ca cb cc cd r101 r102 o103 (((0 : Int32) + (1 : Int32)) + (2 : Int32)) (3 : Int32) r108 t108 _ (((mkL (0 : Int32) ca cb).map lo8) ++ litI " " ++ ((mkL (2 : Int32) cc cd).map lo8)) o119  _ [(32 : Int32), cc, cd, (0 : Int32), (0 : Int32)] zc h138 n0 O138 nb hb0 (Nat.le_trans hnb K138.1) fs hfs S_F f139 f140 f141 f142 hB1000 V138 hnn (fun _ => (by rw [litI_sp]; show _ = (32 : Int32); exact chV32 rfl)) (fun _ => (by rw [litI_sp]; exact chr_lo8 hq_cc)) (fun _ => (by rw [litI_sp]; exact chr_lo8 hq_cd)) (fun q => absurd q (by decide)) (fun q => absurd q (by decide)) S_C hzc Cc118 X138 e138 (fun y hy => Nat.le_trans hnb (N138 y hy)) (J138.sub (fun x hx => (List.mem_cons_of_mem _ (List.mem_cons_of_mem _ hx)))) B138
  · show Go p e s below _ _ _ _ T119 (mkF m 126 #[.val (.int p1), .val (.int p2), .val (.int p3), .val (.int p4), .val (.int p5), .val (.int (1 : Int32)), .val (.int (0 : Int32)), .val (.int ca), .val (.int cb), .val (.int cc), .val (.int cd), .val (.ref r101), .val (.ref r102), .val (.ref o103), .val (.ref r108), .val (.int (((1 : Int32) + (1 : Int32)) + (0 : Int32))), .val (.ref o119), .unset] [])
    refine Go.of (fun _ hr => XS.iconst X119.here hx rfl (hb hby at_126) hr) ?_
    show Go p e s below _ _ _ _ T119 (mkF m 127 #[.val (.int p1), .val (.int p2), .val (.int p3), .val (.int p4), .val (.int p5), .val (.int (1 : Int32)), .val (.int (0 : Int32)), .val (.int ca), .val (.int cb), .val (.int cc), .val (.int cd), .val (.ref r101), .val (.ref r102), .val (.ref o103), .val (.ref r108), .val (.int (((1 : Int32) + (1 : Int32)) + (0 : Int32))), .val (.ref o119), .unset] [(.int (0 : Int32))])
    refine Go.of (fun _ hr => XS.istore X119.here hx rfl (hb hby at_127) rfl (l' := (LA20 p1 p2 p3 p4 p5 ca cb cc cd r101 r102 o103 r108 o119)) rfl hr) ?_
    show Go p e s below _ _ _ _ T119 (mkF m 129 (LA20 p1 p2 p3 p4 p5 ca cb cc cd r101 r102 o103 r108 o119) [])
    refine Go.of (fun _ hr => XS.iload X119.here hx rfl (hb hby at_129) rfl  hr) ?_
    show Go p e s below _ _ _ _ T119 (mkF m 131 (LA20 p1 p2 p3 p4 p5 ca cb cc cd r101 r102 o103 r108 o119) [(.int (1 : Int32))])
    refine Go.of (fun _ hr => XS.iconst X119.here hx rfl (hb hby at_131) hr) ?_
    show Go p e s below _ _ _ _ T119 (mkF m 132 (LA20 p1 p2 p3 p4 p5 ca cb cc cd r101 r102 o103 r108 o119) [(.int (1 : Int32)), (.int (1 : Int32))])
    refine Go.of (fun _ hr => XS.icmpNo X119.here hx rfl (hb hby at_132) rfl (flt (by decide : ¬ ((1 : Int32) < (1 : Int32)))).1 hr) ?_
    show Go p e s below _ _ _ _ T119 (mkF m 135 (LA20 p1 p2 p3 p4 p5 ca cb cc cd r101 r102 o103 r108 o119) [])
    refine Go.of (fun _ hr => XS.aload X119.here hx rfl (hb hby at_135) rfl rfl hr) ?_
    show Go p e s below _ _ _ _ T119 (mkF m 137 (LA20 p1 p2 p3 p4 p5 ca cb cc cd r101 r102 o103 r108 o119) [(.ref o119)])
    refine Go.of (fun _ hr => XS.iload X119.here hx rfl (hb hby at_137) rfl  hr) ?_
    show Go p e s below _ _ _ _ T119 (mkF m 139 (LA20 p1 p2 p3 p4 p5 ca cb cc cd r101 r102 o103 r108 o119) [(.int (0 : Int32)), (.ref o119)])
    refine Go.of (fun _ hr => XS.iload X119.here hx rfl (hb hby at_139) rfl  hr) ?_
    show Go p e s below _ _ _ _ T119 (mkF m 141 (LA20 p1 p2 p3 p4 p5 ca cb cc cd r101 r102 o103 r108 o119) [(.int ca), (.int (0 : Int32)), (.ref o119)])
    obtain ⟨cl143, Ar143, q143, S143, N143_, H143, G143⟩ := id V119
    have hin143 : ¬ ((0 : Int32) < 0 ∨ cl143.slots.size ≤ ((0 : Int32)).toNatClampNeg) := inb_of S143 ⟨by decide, by decide⟩
    obtain ⟨T143, h143, X143, e143, W143, st143⟩ := stC X119 hx hZ e119 Ar143 (j := (0 : Int32)) hin143 (g := (mkF m 141 (LA20 p1 p2 p3 p4 p5 ca cb cc cd r101 r102 o103 r108 o119) [(.int ca), (.int (0 : Int32)), (.ref o119)])) rfl rfl (hb hby at_141)
    have W143' := W143
    rw [show nar .char ca = ca from (nar_c hq_ca.1 (le255 hq_ca.2))] at W143'
    have V143 : Arv Z h143 o119 k119 .char (5 : Int32) [(.int ca), (.int (0 : Int32)), (.int (0 : Int32)), (.int (0 : Int32)), (.int (0 : Int32))] (.int (0 : Int32)) := Arv.set Ar143 q143 S143 N143_ H143 G143 (fits_c hq_ca.1 (le255 hq_ca.2)) W143' 0 rfl (by simp)
    have N143 := Fr.snoc X143 N118 fr119
    have J143 := J119.wr W143 (List.mem_cons_self ..)
    have B143 := B119.mono (Nat.le_of_eq W143.size.symm)
    have O143 := O119.wr W143 (Nat.le_trans (own_ole O0) fr119)
    have K143 := K119.wr W143 (Or.inr sz119)
    refine Go.of (fun _ hr => st143 _ hr) ?_
    show Go p e s below _ _ _ _ T143 (mkF m 142 (LA20 p1 p2 p3 p4 p5 ca cb cc cd r101 r102 o103 r108 o119) [])
    refine Go.of (fun _ hr => XS.iinc X143.here hx rfl (hb hby at_142) rfl (l' := (LA21 p1 p2 p3 p4 p5 ca cb cc cd r101 r102 o103 r108 o119)) rfl hr) ?_
    show Go p e s below _ _ _ _ T143 (mkF m 145 (LA21 p1 p2 p3 p4 p5 ca cb cc cd r101 r102 o103 r108 o119) [])
    refine Go.of (fun _ hr => XS.iload X143.here hx rfl (hb hby at_145) rfl  hr) ?_
    show Go p e s below _ _ _ _ T143 (mkF m 147 (LA21 p1 p2 p3 p4 p5 ca cb cc cd r101 r102 o103 r108 o119) [(.int (1 : Int32))])
    refine Go.of (fun _ hr => XS.iconst X143.here hx rfl (hb hby at_147) hr) ?_
    show Go p e s below _ _ _ _ T143 (mkF m 148 (LA21 p1 p2 p3 p4 p5 ca cb cc cd r101 r102 o103 r108 o119) [(.int (2 : Int32)), (.int (1 : Int32))])
    refine Go.of (fun _ hr => XS.icmpYes X143.here hx rfl (pc0 := 148) (pc' := 161) rfl (hb hby at_148) rfl (tlt (by decide : ((1 : Int32) < (2 : Int32)))).1 (by decide) (by decide) hr) ?_
    show Go p e s below _ _ _ _ T143 (mkF m 161 (LA21 p1 p2 p3 p4 p5 ca cb cc cd r101 r102 o103 r108 o119) [])
    refine Go.of (fun _ hr => XS.aload X143.here hx rfl (hb hby at_161) rfl rfl hr) ?_
    show Go p e s below _ _ _ _ T143 (mkF m 163 (LA21 p1 p2 p3 p4 p5 ca cb cc cd r101 r102 o103 r108 o119) [(.ref o119)])
    refine Go.of (fun _ hr => XS.iload X143.here hx rfl (hb hby at_163) rfl  hr) ?_
    show Go p e s below _ _ _ _ T143 (mkF m 165 (LA21 p1 p2 p3 p4 p5 ca cb cc cd r101 r102 o103 r108 o119) [(.int (1 : Int32)), (.ref o119)])
    refine Go.of (fun _ hr => XS.bipush X143.here hx rfl (hb hby at_165) hr) ?_
    show Go p e s below _ _ _ _ T143 (mkF m 167 (LA21 p1 p2 p3 p4 p5 ca cb cc cd r101 r102 o103 r108 o119) [(.int (32 : Int32)), (.int (1 : Int32)), (.ref o119)])
    obtain ⟨cl144, Ar144, q144, S144, N144_, H144, G144⟩ := id V143
    have hin144 : ¬ ((1 : Int32) < 0 ∨ cl144.slots.size ≤ ((1 : Int32)).toNatClampNeg) := inb_of S144 ⟨by decide, by decide⟩
    obtain ⟨T144, h144, X144, e144, W144, st144⟩ := stC X143 hx hZ e143 Ar144 (j := (1 : Int32)) hin144 (g := (mkF m 167 (LA21 p1 p2 p3 p4 p5 ca cb cc cd r101 r102 o103 r108 o119) [(.int (32 : Int32)), (.int (1 : Int32)), (.ref o119)])) rfl rfl (hb hby at_167)
    have W144' := W144
    rw [show nar .char (32 : Int32) = (32 : Int32) from rfl] at W144'
    have V144 : Arv Z h144 o119 k119 .char (5 : Int32) [(.int ca), (.int (32 : Int32)), (.int (0 : Int32)), (.int (0 : Int32)), (.int (0 : Int32))] (.int (0 : Int32)) := Arv.set Ar144 q144 S144 N144_ H144 G144 rfl W144' 1 rfl (by simp)
    have N144 := Fr.snoc X144 N143 fr119
    have J144 := J143.wr W144 (List.mem_cons_self ..)
    have B144 := B143.mono (Nat.le_of_eq W144.size.symm)
    have O144 := O143.wr W144 (Nat.le_trans (own_ole O0) fr119)
    have K144 := K143.wr W144 (Or.inr sz119)
    refine Go.of (fun _ hr => st144 _ hr) ?_
    show Go p e s below _ _ _ _ T144 (mkF m 168 (LA21 p1 p2 p3 p4 p5 ca cb cc cd r101 r102 o103 r108 o119) [])
    refine Go.of (fun _ hr => XS.iinc X144.here hx rfl (hb hby at_168) rfl (l' := (LA22 p1 p2 p3 p4 p5 ca cb cc cd r101 r102 o103 r108 o119)) rfl hr) ?_
    show Go p e s below _ _ _ _ T144 (mkF m 171 (LA22 p1 p2 p3 p4 p5 ca cb cc cd r101 r102 o103 r108 o119) [])
    refine Go.of (fun _ hr => XS.iload X144.here hx rfl (hb hby at_171) rfl  hr) ?_
    show Go p e s below _ _ _ _ T144 (mkF m 173 (LA22 p1 p2 p3 p4 p5 ca cb cc cd r101 r102 o103 r108 o119) [(.int (0 : Int32))])
    refine Go.of (fun _ hr => XS.iconst X144.here hx rfl (hb hby at_173) hr) ?_
    show Go p e s below _ _ _ _ T144 (mkF m 174 (LA22 p1 p2 p3 p4 p5 ca cb cc cd r101 r102 o103 r108 o119) [(.int (1 : Int32)), (.int (0 : Int32))])
    refine Go.of (fun _ hr => XS.icmpYes X144.here hx rfl (pc0 := 174) (pc' := 187) rfl (hb hby at_174) rfl (tlt (by decide : ((0 : Int32) < (1 : Int32)))).1 (by decide) (by decide) hr) ?_
    show Go p e s below _ _ _ _ T144 (mkF m 187 (LA22 p1 p2 p3 p4 p5 ca cb cc cd r101 r102 o103 r108 o119) [])
    refine Go.of (fun _ hr => XS.iload X144.here hx rfl (hb hby at_187) rfl  hr) ?_
    show Go p e s below _ _ _ _ T144 (mkF m 189 (LA22 p1 p2 p3 p4 p5 ca cb cc cd r101 r102 o103 r108 o119) [(.int (0 : Int32))])
    refine Go.of (fun _ hr => XS.iconst X144.here hx rfl (hb hby at_189) hr) ?_
    show Go p e s below _ _ _ _ T144 (mkF m 190 (LA22 p1 p2 p3 p4 p5 ca cb cc cd r101 r102 o103 r108 o119) [(.int (2 : Int32)), (.int (0 : Int32))])
    refine Go.of (fun _ hr => XS.icmpYes X144.here hx rfl (pc0 := 190) (pc' := 203) rfl (hb hby at_190) rfl (tlt (by decide : ((0 : Int32) < (2 : Int32)))).1 (by decide) (by decide) hr) ?_
    show Go p e s below _ _ _ _ T144 (mkF m 203 (LA22 p1 p2 p3 p4 p5 ca cb cc cd r101 r102 o103 r108 o119) [])
    have f145 := (((Er108.ext E119).wr W143).wr W144)
    have f146 := (((Fv108.ext E119).other W143 (Or.inl ne_r108_o119)).other W144 (Or.inl ne_r108_o119))
    have f147 := (((Fc108.ext E119).other W143 (Or.inl ne_r108_o119)).other W144 (Or.inl ne_r108_o119))
    have f148 := (((Vt108.ext E119).other W143 ne_t108_o119).other W144 ne_t108_o119)
    exact law_tail l Z a0 hw p1 p2 p3 p4 p5 (1 : Int32) (0 : Int32) ca cb cc cd r101 r102 o103 (((1 : Int32) + (1 : Int32)) + (0 : Int32)) (2 : Int32) r108 t108 _ (((mkL (1 : Int32) ca cb).map lo8) ++ litI " " ++ ((mkL (0 : Int32) cc cd).map lo8)) o119  _ [ca, (32 : Int32), (0 : Int32), (0 : Int32), (0 : Int32)] zc h144 n0 O144 nb hb0 (Nat.le_trans hnb K144.1) fs hfs S_F f145 f146 f147 f148 hB1000 V144 hnn (fun _ => (by rw [litI_sp]; exact chr_lo8 hq_ca)) (fun _ => (by rw [litI_sp]; show _ = (32 : Int32); exact chV32 rfl)) (fun q => absurd q (by decide)) (fun q => absurd q (by decide)) (fun q => absurd q (by decide)) S_C hzc Cc118 X144 e144 (fun y hy => Nat.le_trans hnb (N144 y hy)) (J144.sub (fun x hx => (List.mem_cons_of_mem _ (List.mem_cons_of_mem _ hx)))) B144
  · show Go p e s below _ _ _ _ T119 (mkF m 126 #[.val (.int p1), .val (.int p2), .val (.int p3), .val (.int p4), .val (.int p5), .val (.int (1 : Int32)), .val (.int (1 : Int32)), .val (.int ca), .val (.int cb), .val (.int cc), .val (.int cd), .val (.ref r101), .val (.ref r102), .val (.ref o103), .val (.ref r108), .val (.int (((1 : Int32) + (1 : Int32)) + (1 : Int32))), .val (.ref o119), .unset] [])
    refine Go.of (fun _ hr => XS.iconst X119.here hx rfl (hb hby at_126) hr) ?_
    show Go p e s below _ _ _ _ T119 (mkF m 127 #[.val (.int p1), .val (.int p2), .val (.int p3), .val (.int p4), .val (.int p5), .val (.int (1 : Int32)), .val (.int (1 : Int32)), .val (.int ca), .val (.int cb), .val (.int cc), .val (.int cd), .val (.ref r101), .val (.ref r102), .val (.ref o103), .val (.ref r108), .val (.int (((1 : Int32) + (1 : Int32)) + (1 : Int32))), .val (.ref o119), .unset] [(.int (0 : Int32))])
    refine Go.of (fun _ hr => XS.istore X119.here hx rfl (hb hby at_127) rfl (l' := (LA23 p1 p2 p3 p4 p5 ca cb cc cd r101 r102 o103 r108 o119)) rfl hr) ?_
    show Go p e s below _ _ _ _ T119 (mkF m 129 (LA23 p1 p2 p3 p4 p5 ca cb cc cd r101 r102 o103 r108 o119) [])
    refine Go.of (fun _ hr => XS.iload X119.here hx rfl (hb hby at_129) rfl  hr) ?_
    show Go p e s below _ _ _ _ T119 (mkF m 131 (LA23 p1 p2 p3 p4 p5 ca cb cc cd r101 r102 o103 r108 o119) [(.int (1 : Int32))])
    refine Go.of (fun _ hr => XS.iconst X119.here hx rfl (hb hby at_131) hr) ?_
    show Go p e s below _ _ _ _ T119 (mkF m 132 (LA23 p1 p2 p3 p4 p5 ca cb cc cd r101 r102 o103 r108 o119) [(.int (1 : Int32)), (.int (1 : Int32))])
    refine Go.of (fun _ hr => XS.icmpNo X119.here hx rfl (hb hby at_132) rfl (flt (by decide : ¬ ((1 : Int32) < (1 : Int32)))).1 hr) ?_
    show Go p e s below _ _ _ _ T119 (mkF m 135 (LA23 p1 p2 p3 p4 p5 ca cb cc cd r101 r102 o103 r108 o119) [])
    refine Go.of (fun _ hr => XS.aload X119.here hx rfl (hb hby at_135) rfl rfl hr) ?_
    show Go p e s below _ _ _ _ T119 (mkF m 137 (LA23 p1 p2 p3 p4 p5 ca cb cc cd r101 r102 o103 r108 o119) [(.ref o119)])
    refine Go.of (fun _ hr => XS.iload X119.here hx rfl (hb hby at_137) rfl  hr) ?_
    show Go p e s below _ _ _ _ T119 (mkF m 139 (LA23 p1 p2 p3 p4 p5 ca cb cc cd r101 r102 o103 r108 o119) [(.int (0 : Int32)), (.ref o119)])
    refine Go.of (fun _ hr => XS.iload X119.here hx rfl (hb hby at_139) rfl  hr) ?_
    show Go p e s below _ _ _ _ T119 (mkF m 141 (LA23 p1 p2 p3 p4 p5 ca cb cc cd r101 r102 o103 r108 o119) [(.int ca), (.int (0 : Int32)), (.ref o119)])
    obtain ⟨cl149, Ar149, q149, S149, N149_, H149, G149⟩ := id V119
    have hin149 : ¬ ((0 : Int32) < 0 ∨ cl149.slots.size ≤ ((0 : Int32)).toNatClampNeg) := inb_of S149 ⟨by decide, by decide⟩
    obtain ⟨T149, h149, X149, e149, W149, st149⟩ := stC X119 hx hZ e119 Ar149 (j := (0 : Int32)) hin149 (g := (mkF m 141 (LA23 p1 p2 p3 p4 p5 ca cb cc cd r101 r102 o103 r108 o119) [(.int ca), (.int (0 : Int32)), (.ref o119)])) rfl rfl (hb hby at_141)
    have W149' := W149
    rw [show nar .char ca = ca from (nar_c hq_ca.1 (le255 hq_ca.2))] at W149'
    have V149 : Arv Z h149 o119 k119 .char (5 : Int32) [(.int ca), (.int (0 : Int32)), (.int (0 : Int32)), (.int (0 : Int32)), (.int (0 : Int32))] (.int (0 : Int32)) := Arv.set Ar149 q149 S149 N149_ H149 G149 (fits_c hq_ca.1 (le255 hq_ca.2)) W149' 0 rfl (by simp)
    have N149 := Fr.snoc X149 N118 fr119
    have J149 := J119.wr W149 (List.mem_cons_self ..)
    have B149 := B119.mono (Nat.le_of_eq W149.size.symm)
    have O149 := O119.wr W149 (Nat.le_trans (own_ole O0) fr119)
    have K149 := K119.wr W149 (Or.inr sz119)
    refine Go.of (fun _ hr => st149 _ hr) ?_
    show Go p e s below _ _ _ _ T149 (mkF m 142 (LA23 p1 p2 p3 p4 p5 ca cb cc cd r101 r102 o103 r108 o119) [])
    refine Go.of (fun _ hr => XS.iinc X149.here hx rfl (hb hby at_142) rfl (l' := (LA24 p1 p2 p3 p4 p5 ca cb cc cd r101 r102 o103 r108 o119)) rfl hr) ?_
    show Go p e s below _ _ _ _ T149 (mkF m 145 (LA24 p1 p2 p3 p4 p5 ca cb cc cd r101 r102 o103 r108 o119) [])
    refine Go.of (fun _ hr => XS.iload X149.here hx rfl (hb hby at_145) rfl  hr) ?_
    show Go p e s below _ _ _ _ T149 (mkF m 147 (LA24 p1 p2 p3 p4 p5 ca cb cc cd r101 r102 o103 r108 o119) [(.int (1 : Int32))])
    refine Go.of (fun _ hr => XS.iconst X149.here hx rfl (hb hby at_147) hr) ?_
    show Go p e s below _ _ _ _ T149 (mkF m 148 (LA24 p1 p2 p3 p4 p5 ca cb cc cd r101 r102 o103 r108 o119) [(.int (2 : Int32)), (.int (1 : Int32))])
    refine Go.of (fun _ hr => XS.icmpYes X149.here hx rfl (pc0 := 148) (pc' := 161) rfl (hb hby at_148) rfl (tlt (by decide : ((1 : Int32) < (2 : Int32)))).1 (by decide) (by decide) hr) ?_
    show Go p e s below _ _ _ _ T149 (mkF m 161 (LA24 p1 p2 p3 p4 p5 ca cb cc cd r101 r102 o103 r108 o119) [])
    refine Go.of (fun _ hr => XS.aload X149.here hx rfl (hb hby at_161) rfl rfl hr) ?_
    show Go p e s below _ _ _ _ T149 (mkF m 163 (LA24 p1 p2 p3 p4 p5 ca cb cc cd r101 r102 o103 r108 o119) [(.ref o119)])
    refine Go.of (fun _ hr => XS.iload X149.here hx rfl (hb hby at_163) rfl  hr) ?_
    show Go p e s below _ _ _ _ T149 (mkF m 165 (LA24 p1 p2 p3 p4 p5 ca cb cc cd r101 r102 o103 r108 o119) [(.int (1 : Int32)), (.ref o119)])
    refine Go.of (fun _ hr => XS.bipush X149.here hx rfl (hb hby at_165) hr) ?_
    show Go p e s below _ _ _ _ T149 (mkF m 167 (LA24 p1 p2 p3 p4 p5 ca cb cc cd r101 r102 o103 r108 o119) [(.int (32 : Int32)), (.int (1 : Int32)), (.ref o119)])
    obtain ⟨cl150, Ar150, q150, S150, N150_, H150, G150⟩ := id V149
    have hin150 : ¬ ((1 : Int32) < 0 ∨ cl150.slots.size ≤ ((1 : Int32)).toNatClampNeg) := inb_of S150 ⟨by decide, by decide⟩
    obtain ⟨T150, h150, X150, e150, W150, st150⟩ := stC X149 hx hZ e149 Ar150 (j := (1 : Int32)) hin150 (g := (mkF m 167 (LA24 p1 p2 p3 p4 p5 ca cb cc cd r101 r102 o103 r108 o119) [(.int (32 : Int32)), (.int (1 : Int32)), (.ref o119)])) rfl rfl (hb hby at_167)
    have W150' := W150
    rw [show nar .char (32 : Int32) = (32 : Int32) from rfl] at W150'
    have V150 : Arv Z h150 o119 k119 .char (5 : Int32) [(.int ca), (.int (32 : Int32)), (.int (0 : Int32)), (.int (0 : Int32)), (.int (0 : Int32))] (.int (0 : Int32)) := Arv.set Ar150 q150 S150 N150_ H150 G150 rfl W150' 1 rfl (by simp)
    have N150 := Fr.snoc X150 N149 fr119
    have J150 := J149.wr W150 (List.mem_cons_self ..)
    have B150 := B149.mono (Nat.le_of_eq W150.size.symm)
    have O150 := O149.wr W150 (Nat.le_trans (own_ole O0) fr119)
    have K150 := K149.wr W150 (Or.inr sz119)
    refine Go.of (fun _ hr => st150 _ hr) ?_
    show Go p e s below _ _ _ _ T150 (mkF m 168 (LA24 p1 p2 p3 p4 p5 ca cb cc cd r101 r102 o103 r108 o119) [])
    refine Go.of (fun _ hr => XS.iinc X150.here hx rfl (hb hby at_168) rfl (l' := (LA25 p1 p2 p3 p4 p5 ca cb cc cd r101 r102 o103 r108 o119)) rfl hr) ?_
    show Go p e s below _ _ _ _ T150 (mkF m 171 (LA25 p1 p2 p3 p4 p5 ca cb cc cd r101 r102 o103 r108 o119) [])
    refine Go.of (fun _ hr => XS.iload X150.here hx rfl (hb hby at_171) rfl  hr) ?_
    show Go p e s below _ _ _ _ T150 (mkF m 173 (LA25 p1 p2 p3 p4 p5 ca cb cc cd r101 r102 o103 r108 o119) [(.int (1 : Int32))])
    refine Go.of (fun _ hr => XS.iconst X150.here hx rfl (hb hby at_173) hr) ?_
    show Go p e s below _ _ _ _ T150 (mkF m 174 (LA25 p1 p2 p3 p4 p5 ca cb cc cd r101 r102 o103 r108 o119) [(.int (1 : Int32)), (.int (1 : Int32))])
    refine Go.of (fun _ hr => XS.icmpNo X150.here hx rfl (hb hby at_174) rfl (flt (by decide : ¬ ((1 : Int32) < (1 : Int32)))).1 hr) ?_
    show Go p e s below _ _ _ _ T150 (mkF m 177 (LA25 p1 p2 p3 p4 p5 ca cb cc cd r101 r102 o103 r108 o119) [])
    refine Go.of (fun _ hr => XS.aload X150.here hx rfl (hb hby at_177) rfl rfl hr) ?_
    show Go p e s below _ _ _ _ T150 (mkF m 179 (LA25 p1 p2 p3 p4 p5 ca cb cc cd r101 r102 o103 r108 o119) [(.ref o119)])
    refine Go.of (fun _ hr => XS.iload X150.here hx rfl (hb hby at_179) rfl  hr) ?_
    show Go p e s below _ _ _ _ T150 (mkF m 181 (LA25 p1 p2 p3 p4 p5 ca cb cc cd r101 r102 o103 r108 o119) [(.int (2 : Int32)), (.ref o119)])
    refine Go.of (fun _ hr => XS.iload X150.here hx rfl (hb hby at_181) rfl  hr) ?_
    show Go p e s below _ _ _ _ T150 (mkF m 183 (LA25 p1 p2 p3 p4 p5 ca cb cc cd r101 r102 o103 r108 o119) [(.int cc), (.int (2 : Int32)), (.ref o119)])
    obtain ⟨cl151, Ar151, q151, S151, N151_, H151, G151⟩ := id V150
    have hin151 : ¬ ((2 : Int32) < 0 ∨ cl151.slots.size ≤ ((2 : Int32)).toNatClampNeg) := inb_of S151 ⟨by decide, by decide⟩
    obtain ⟨T151, h151, X151, e151, W151, st151⟩ := stC X150 hx hZ e150 Ar151 (j := (2 : Int32)) hin151 (g := (mkF m 183 (LA25 p1 p2 p3 p4 p5 ca cb cc cd r101 r102 o103 r108 o119) [(.int cc), (.int (2 : Int32)), (.ref o119)])) rfl rfl (hb hby at_183)
    have W151' := W151
    rw [show nar .char cc = cc from (nar_c hq_cc.1 (le255 hq_cc.2))] at W151'
    have V151 : Arv Z h151 o119 k119 .char (5 : Int32) [(.int ca), (.int (32 : Int32)), (.int cc), (.int (0 : Int32)), (.int (0 : Int32))] (.int (0 : Int32)) := Arv.set Ar151 q151 S151 N151_ H151 G151 (fits_c hq_cc.1 (le255 hq_cc.2)) W151' 2 rfl (by simp)
    have N151 := Fr.snoc X151 N150 fr119
    have J151 := J150.wr W151 (List.mem_cons_self ..)
    have B151 := B150.mono (Nat.le_of_eq W151.size.symm)
    have O151 := O150.wr W151 (Nat.le_trans (own_ole O0) fr119)
    have K151 := K150.wr W151 (Or.inr sz119)
    refine Go.of (fun _ hr => st151 _ hr) ?_
    show Go p e s below _ _ _ _ T151 (mkF m 184 (LA25 p1 p2 p3 p4 p5 ca cb cc cd r101 r102 o103 r108 o119) [])
    refine Go.of (fun _ hr => XS.iinc X151.here hx rfl (hb hby at_184) rfl (l' := (LA26 p1 p2 p3 p4 p5 ca cb cc cd r101 r102 o103 r108 o119)) rfl hr) ?_
    show Go p e s below _ _ _ _ T151 (mkF m 187 (LA26 p1 p2 p3 p4 p5 ca cb cc cd r101 r102 o103 r108 o119) [])
    refine Go.of (fun _ hr => XS.iload X151.here hx rfl (hb hby at_187) rfl  hr) ?_
    show Go p e s below _ _ _ _ T151 (mkF m 189 (LA26 p1 p2 p3 p4 p5 ca cb cc cd r101 r102 o103 r108 o119) [(.int (1 : Int32))])
    refine Go.of (fun _ hr => XS.iconst X151.here hx rfl (hb hby at_189) hr) ?_
    show Go p e s below _ _ _ _ T151 (mkF m 190 (LA26 p1 p2 p3 p4 p5 ca cb cc cd r101 r102 o103 r108 o119) [(.int (2 : Int32)), (.int (1 : Int32))])
    refine Go.of (fun _ hr => XS.icmpYes X151.here hx rfl (pc0 := 190) (pc' := 203) rfl (hb hby at_190) rfl (tlt (by decide : ((1 : Int32) < (2 : Int32)))).1 (by decide) (by decide) hr) ?_
    show Go p e s below _ _ _ _ T151 (mkF m 203 (LA26 p1 p2 p3 p4 p5 ca cb cc cd r101 r102 o103 r108 o119) [])
    have f152 := ((((Er108.ext E119).wr W149).wr W150).wr W151)
    have f153 := ((((Fv108.ext E119).other W149 (Or.inl ne_r108_o119)).other W150 (Or.inl ne_r108_o119)).other W151 (Or.inl ne_r108_o119))
    have f154 := ((((Fc108.ext E119).other W149 (Or.inl ne_r108_o119)).other W150 (Or.inl ne_r108_o119)).other W151 (Or.inl ne_r108_o119))
    have f155 := ((((Vt108.ext E119).other W149 ne_t108_o119).other W150 ne_t108_o119).other W151 ne_t108_o119)
    exact law_tail l Z a0 hw p1 p2 p3 p4 p5 (1 : Int32) (1 : Int32) ca cb cc cd r101 r102 o103 (((1 : Int32) + (1 : Int32)) + (1 : Int32)) (3 : Int32) r108 t108 _ (((mkL (1 : Int32) ca cb).map lo8) ++ litI " " ++ ((mkL (1 : Int32) cc cd).map lo8)) o119  _ [ca, (32 : Int32), cc, (0 : Int32), (0 : Int32)] zc h151 n0 O151 nb hb0 (Nat.le_trans hnb K151.1) fs hfs S_F f152 f153 f154 f155 hB1000 V151 hnn (fun _ => (by rw [litI_sp]; exact chr_lo8 hq_ca)) (fun _ => (by rw [litI_sp]; show _ = (32 : Int32); exact chV32 rfl)) (fun _ => (by rw [litI_sp]; exact chr_lo8 hq_cc)) (fun q => absurd q (by decide)) (fun q => absurd q (by decide)) S_C hzc Cc118 X151 e151 (fun y hy => Nat.le_trans hnb (N151 y hy)) (J151.sub (fun x hx => (List.mem_cons_of_mem _ (List.mem_cons_of_mem _ hx)))) B151
  · show Go p e s below _ _ _ _ T119 (mkF m 126 #[.val (.int p1), .val (.int p2), .val (.int p3), .val (.int p4), .val (.int p5), .val (.int (1 : Int32)), .val (.int (2 : Int32)), .val (.int ca), .val (.int cb), .val (.int cc), .val (.int cd), .val (.ref r101), .val (.ref r102), .val (.ref o103), .val (.ref r108), .val (.int (((1 : Int32) + (1 : Int32)) + (2 : Int32))), .val (.ref o119), .unset] [])
    refine Go.of (fun _ hr => XS.iconst X119.here hx rfl (hb hby at_126) hr) ?_
    show Go p e s below _ _ _ _ T119 (mkF m 127 #[.val (.int p1), .val (.int p2), .val (.int p3), .val (.int p4), .val (.int p5), .val (.int (1 : Int32)), .val (.int (2 : Int32)), .val (.int ca), .val (.int cb), .val (.int cc), .val (.int cd), .val (.ref r101), .val (.ref r102), .val (.ref o103), .val (.ref r108), .val (.int (((1 : Int32) + (1 : Int32)) + (2 : Int32))), .val (.ref o119), .unset] [(.int (0 : Int32))])
    refine Go.of (fun _ hr => XS.istore X119.here hx rfl (hb hby at_127) rfl (l' := (LA27 p1 p2 p3 p4 p5 ca cb cc cd r101 r102 o103 r108 o119)) rfl hr) ?_
    show Go p e s below _ _ _ _ T119 (mkF m 129 (LA27 p1 p2 p3 p4 p5 ca cb cc cd r101 r102 o103 r108 o119) [])
    refine Go.of (fun _ hr => XS.iload X119.here hx rfl (hb hby at_129) rfl  hr) ?_
    show Go p e s below _ _ _ _ T119 (mkF m 131 (LA27 p1 p2 p3 p4 p5 ca cb cc cd r101 r102 o103 r108 o119) [(.int (1 : Int32))])
    refine Go.of (fun _ hr => XS.iconst X119.here hx rfl (hb hby at_131) hr) ?_
    show Go p e s below _ _ _ _ T119 (mkF m 132 (LA27 p1 p2 p3 p4 p5 ca cb cc cd r101 r102 o103 r108 o119) [(.int (1 : Int32)), (.int (1 : Int32))])
    refine Go.of (fun _ hr => XS.icmpNo X119.here hx rfl (hb hby at_132) rfl (flt (by decide : ¬ ((1 : Int32) < (1 : Int32)))).1 hr) ?_
    show Go p e s below _ _ _ _ T119 (mkF m 135 (LA27 p1 p2 p3 p4 p5 ca cb cc cd r101 r102 o103 r108 o119) [])
    refine Go.of (fun _ hr => XS.aload X119.here hx rfl (hb hby at_135) rfl rfl hr) ?_
    show Go p e s below _ _ _ _ T119 (mkF m 137 (LA27 p1 p2 p3 p4 p5 ca cb cc cd r101 r102 o103 r108 o119) [(.ref o119)])
    refine Go.of (fun _ hr => XS.iload X119.here hx rfl (hb hby at_137) rfl  hr) ?_
    show Go p e s below _ _ _ _ T119 (mkF m 139 (LA27 p1 p2 p3 p4 p5 ca cb cc cd r101 r102 o103 r108 o119) [(.int (0 : Int32)), (.ref o119)])
    refine Go.of (fun _ hr => XS.iload X119.here hx rfl (hb hby at_139) rfl  hr) ?_
    show Go p e s below _ _ _ _ T119 (mkF m 141 (LA27 p1 p2 p3 p4 p5 ca cb cc cd r101 r102 o103 r108 o119) [(.int ca), (.int (0 : Int32)), (.ref o119)])
    obtain ⟨cl156, Ar156, q156, S156, N156_, H156, G156⟩ := id V119
    have hin156 : ¬ ((0 : Int32) < 0 ∨ cl156.slots.size ≤ ((0 : Int32)).toNatClampNeg) := inb_of S156 ⟨by decide, by decide⟩
    obtain ⟨T156, h156, X156, e156, W156, st156⟩ := stC X119 hx hZ e119 Ar156 (j := (0 : Int32)) hin156 (g := (mkF m 141 (LA27 p1 p2 p3 p4 p5 ca cb cc cd r101 r102 o103 r108 o119) [(.int ca), (.int (0 : Int32)), (.ref o119)])) rfl rfl (hb hby at_141)
    have W156' := W156
    rw [show nar .char ca = ca from (nar_c hq_ca.1 (le255 hq_ca.2))] at W156'
    have V156 : Arv Z h156 o119 k119 .char (5 : Int32) [(.int ca), (.int (0 : Int32)), (.int (0 : Int32)), (.int (0 : Int32)), (.int (0 : Int32))] (.int (0 : Int32)) := Arv.set Ar156 q156 S156 N156_ H156 G156 (fits_c hq_ca.1 (le255 hq_ca.2)) W156' 0 rfl (by simp)
    have N156 := Fr.snoc X156 N118 fr119
    have J156 := J119.wr W156 (List.mem_cons_self ..)
    have B156 := B119.mono (Nat.le_of_eq W156.size.symm)
    have O156 := O119.wr W156 (Nat.le_trans (own_ole O0) fr119)
    have K156 := K119.wr W156 (Or.inr sz119)
    refine Go.of (fun _ hr => st156 _ hr) ?_
    show Go p e s below _ _ _ _ T156 (mkF m 142 (LA27 p1 p2 p3 p4 p5 ca cb cc cd r101 r102 o103 r108 o119) [])
    refine Go.of (fun _ hr => XS.iinc X156.here hx rfl (hb hby at_142) rfl (l' := (LA28 p1 p2 p3 p4 p5 ca cb cc cd r101 r102 o103 r108 o119)) rfl hr) ?_
    show Go p e s below _ _ _ _ T156 (mkF m 145 (LA28 p1 p2 p3 p4 p5 ca cb cc cd r101 r102 o103 r108 o119) [])
    refine Go.of (fun _ hr => XS.iload X156.here hx rfl (hb hby at_145) rfl  hr) ?_
    show Go p e s below _ _ _ _ T156 (mkF m 147 (LA28 p1 p2 p3 p4 p5 ca cb cc cd r101 r102 o103 r108 o119) [(.int (1 : Int32))])
    refine Go.of (fun _ hr => XS.iconst X156.here hx rfl (hb hby at_147) hr) ?_
    show Go p e s below _ _ _ _ T156 (mkF m 148 (LA28 p1 p2 p3 p4 p5 ca cb cc cd r101 r102 o103 r108 o119) [(.int (2 : Int32)), (.int (1 : Int32))])
    refine Go.of (fun _ hr => XS.icmpYes X156.here hx rfl (pc0 := 148) (pc' := 161) rfl (hb hby at_148) rfl (tlt (by decide : ((1 : Int32) < (2 : Int32)))).1 (by decide) (by decide) hr) ?_
    show Go p e s below _ _ _ _ T156 (mkF m 161 (LA28 p1 p2 p3 p4 p5 ca cb cc cd r101 r102 o103 r108 o119) [])
    refine Go.of (fun _ hr => XS.aload X156.here hx rfl (hb hby at_161) rfl rfl hr) ?_
    show Go p e s below _ _ _ _ T156 (mkF m 163 (LA28 p1 p2 p3 p4 p5 ca cb cc cd r101 r102 o103 r108 o119) [(.ref o119)])
    refine Go.of (fun _ hr => XS.iload X156.here hx rfl (hb hby at_163) rfl  hr) ?_
    show Go p e s below _ _ _ _ T156 (mkF m 165 (LA28 p1 p2 p3 p4 p5 ca cb cc cd r101 r102 o103 r108 o119) [(.int (1 : Int32)), (.ref o119)])
    refine Go.of (fun _ hr => XS.bipush X156.here hx rfl (hb hby at_165) hr) ?_
    show Go p e s below _ _ _ _ T156 (mkF m 167 (LA28 p1 p2 p3 p4 p5 ca cb cc cd r101 r102 o103 r108 o119) [(.int (32 : Int32)), (.int (1 : Int32)), (.ref o119)])
    obtain ⟨cl157, Ar157, q157, S157, N157_, H157, G157⟩ := id V156
    have hin157 : ¬ ((1 : Int32) < 0 ∨ cl157.slots.size ≤ ((1 : Int32)).toNatClampNeg) := inb_of S157 ⟨by decide, by decide⟩
    obtain ⟨T157, h157, X157, e157, W157, st157⟩ := stC X156 hx hZ e156 Ar157 (j := (1 : Int32)) hin157 (g := (mkF m 167 (LA28 p1 p2 p3 p4 p5 ca cb cc cd r101 r102 o103 r108 o119) [(.int (32 : Int32)), (.int (1 : Int32)), (.ref o119)])) rfl rfl (hb hby at_167)
    have W157' := W157
    rw [show nar .char (32 : Int32) = (32 : Int32) from rfl] at W157'
    have V157 : Arv Z h157 o119 k119 .char (5 : Int32) [(.int ca), (.int (32 : Int32)), (.int (0 : Int32)), (.int (0 : Int32)), (.int (0 : Int32))] (.int (0 : Int32)) := Arv.set Ar157 q157 S157 N157_ H157 G157 rfl W157' 1 rfl (by simp)
    have N157 := Fr.snoc X157 N156 fr119
    have J157 := J156.wr W157 (List.mem_cons_self ..)
    have B157 := B156.mono (Nat.le_of_eq W157.size.symm)
    have O157 := O156.wr W157 (Nat.le_trans (own_ole O0) fr119)
    have K157 := K156.wr W157 (Or.inr sz119)
    refine Go.of (fun _ hr => st157 _ hr) ?_
    show Go p e s below _ _ _ _ T157 (mkF m 168 (LA28 p1 p2 p3 p4 p5 ca cb cc cd r101 r102 o103 r108 o119) [])
    refine Go.of (fun _ hr => XS.iinc X157.here hx rfl (hb hby at_168) rfl (l' := (LA29 p1 p2 p3 p4 p5 ca cb cc cd r101 r102 o103 r108 o119)) rfl hr) ?_
    show Go p e s below _ _ _ _ T157 (mkF m 171 (LA29 p1 p2 p3 p4 p5 ca cb cc cd r101 r102 o103 r108 o119) [])
    refine Go.of (fun _ hr => XS.iload X157.here hx rfl (hb hby at_171) rfl  hr) ?_
    show Go p e s below _ _ _ _ T157 (mkF m 173 (LA29 p1 p2 p3 p4 p5 ca cb cc cd r101 r102 o103 r108 o119) [(.int (2 : Int32))])
    refine Go.of (fun _ hr => XS.iconst X157.here hx rfl (hb hby at_173) hr) ?_
    show Go p e s below _ _ _ _ T157 (mkF m 174 (LA29 p1 p2 p3 p4 p5 ca cb cc cd r101 r102 o103 r108 o119) [(.int (1 : Int32)), (.int (2 : Int32))])
    refine Go.of (fun _ hr => XS.icmpNo X157.here hx rfl (hb hby at_174) rfl (flt (by decide : ¬ ((2 : Int32) < (1 : Int32)))).1 hr) ?_
    show Go p e s below _ _ _ _ T157 (mkF m 177 (LA29 p1 p2 p3 p4 p5 ca cb cc cd r101 r102 o103 r108 o119) [])
    refine Go.of (fun _ hr => XS.aload X157.here hx rfl (hb hby at_177) rfl rfl hr) ?_
    show Go p e s below _ _ _ _ T157 (mkF m 179 (LA29 p1 p2 p3 p4 p5 ca cb cc cd r101 r102 o103 r108 o119) [(.ref o119)])
    refine Go.of (fun _ hr => XS.iload X157.here hx rfl (hb hby at_179) rfl  hr) ?_
    show Go p e s below _ _ _ _ T157 (mkF m 181 (LA29 p1 p2 p3 p4 p5 ca cb cc cd r101 r102 o103 r108 o119) [(.int (2 : Int32)), (.ref o119)])
    refine Go.of (fun _ hr => XS.iload X157.here hx rfl (hb hby at_181) rfl  hr) ?_
    show Go p e s below _ _ _ _ T157 (mkF m 183 (LA29 p1 p2 p3 p4 p5 ca cb cc cd r101 r102 o103 r108 o119) [(.int cc), (.int (2 : Int32)), (.ref o119)])
    obtain ⟨cl158, Ar158, q158, S158, N158_, H158, G158⟩ := id V157
    have hin158 : ¬ ((2 : Int32) < 0 ∨ cl158.slots.size ≤ ((2 : Int32)).toNatClampNeg) := inb_of S158 ⟨by decide, by decide⟩
    obtain ⟨T158, h158, X158, e158, W158, st158⟩ := stC X157 hx hZ e157 Ar158 (j := (2 : Int32)) hin158 (g := (mkF m 183 (LA29 p1 p2 p3 p4 p5 ca cb cc cd r101 r102 o103 r108 o119) [(.int cc), (.int (2 : Int32)), (.ref o119)])) rfl rfl (hb hby at_183)
    have W158' := W158
    rw [show nar .char cc = cc from (nar_c hq_cc.1 (le255 hq_cc.2))] at W158'
    have V158 : Arv Z h158 o119 k119 .char (5 : Int32) [(.int ca), (.int (32 : Int32)), (.int cc), (.int (0 : Int32)), (.int (0 : Int32))] (.int (0 : Int32)) := Arv.set Ar158 q158 S158 N158_ H158 G158 (fits_c hq_cc.1 (le255 hq_cc.2)) W158' 2 rfl (by simp)
    have N158 := Fr.snoc X158 N157 fr119
    have J158 := J157.wr W158 (List.mem_cons_self ..)
    have B158 := B157.mono (Nat.le_of_eq W158.size.symm)
    have O158 := O157.wr W158 (Nat.le_trans (own_ole O0) fr119)
    have K158 := K157.wr W158 (Or.inr sz119)
    refine Go.of (fun _ hr => st158 _ hr) ?_
    show Go p e s below _ _ _ _ T158 (mkF m 184 (LA29 p1 p2 p3 p4 p5 ca cb cc cd r101 r102 o103 r108 o119) [])
    refine Go.of (fun _ hr => XS.iinc X158.here hx rfl (hb hby at_184) rfl (l' := (LA30 p1 p2 p3 p4 p5 ca cb cc cd r101 r102 o103 r108 o119)) rfl hr) ?_
    show Go p e s below _ _ _ _ T158 (mkF m 187 (LA30 p1 p2 p3 p4 p5 ca cb cc cd r101 r102 o103 r108 o119) [])
    refine Go.of (fun _ hr => XS.iload X158.here hx rfl (hb hby at_187) rfl  hr) ?_
    show Go p e s below _ _ _ _ T158 (mkF m 189 (LA30 p1 p2 p3 p4 p5 ca cb cc cd r101 r102 o103 r108 o119) [(.int (2 : Int32))])
    refine Go.of (fun _ hr => XS.iconst X158.here hx rfl (hb hby at_189) hr) ?_
    show Go p e s below _ _ _ _ T158 (mkF m 190 (LA30 p1 p2 p3 p4 p5 ca cb cc cd r101 r102 o103 r108 o119) [(.int (2 : Int32)), (.int (2 : Int32))])
    refine Go.of (fun _ hr => XS.icmpNo X158.here hx rfl (hb hby at_190) rfl (flt (by decide : ¬ ((2 : Int32) < (2 : Int32)))).1 hr) ?_
    show Go p e s below _ _ _ _ T158 (mkF m 193 (LA30 p1 p2 p3 p4 p5 ca cb cc cd r101 r102 o103 r108 o119) [])
    refine Go.of (fun _ hr => XS.aload X158.here hx rfl (hb hby at_193) rfl rfl hr) ?_
    show Go p e s below _ _ _ _ T158 (mkF m 195 (LA30 p1 p2 p3 p4 p5 ca cb cc cd r101 r102 o103 r108 o119) [(.ref o119)])
    refine Go.of (fun _ hr => XS.iload X158.here hx rfl (hb hby at_195) rfl  hr) ?_
    show Go p e s below _ _ _ _ T158 (mkF m 197 (LA30 p1 p2 p3 p4 p5 ca cb cc cd r101 r102 o103 r108 o119) [(.int (3 : Int32)), (.ref o119)])
    refine Go.of (fun _ hr => XS.iload X158.here hx rfl (hb hby at_197) rfl  hr) ?_
    show Go p e s below _ _ _ _ T158 (mkF m 199 (LA30 p1 p2 p3 p4 p5 ca cb cc cd r101 r102 o103 r108 o119) [(.int cd), (.int (3 : Int32)), (.ref o119)])
    obtain ⟨cl159, Ar159, q159, S159, N159_, H159, G159⟩ := id V158
    have hin159 : ¬ ((3 : Int32) < 0 ∨ cl159.slots.size ≤ ((3 : Int32)).toNatClampNeg) := inb_of S159 ⟨by decide, by decide⟩
    obtain ⟨T159, h159, X159, e159, W159, st159⟩ := stC X158 hx hZ e158 Ar159 (j := (3 : Int32)) hin159 (g := (mkF m 199 (LA30 p1 p2 p3 p4 p5 ca cb cc cd r101 r102 o103 r108 o119) [(.int cd), (.int (3 : Int32)), (.ref o119)])) rfl rfl (hb hby at_199)
    have W159' := W159
    rw [show nar .char cd = cd from (nar_c hq_cd.1 (le255 hq_cd.2))] at W159'
    have V159 : Arv Z h159 o119 k119 .char (5 : Int32) [(.int ca), (.int (32 : Int32)), (.int cc), (.int cd), (.int (0 : Int32))] (.int (0 : Int32)) := Arv.set Ar159 q159 S159 N159_ H159 G159 (fits_c hq_cd.1 (le255 hq_cd.2)) W159' 3 rfl (by simp)
    have N159 := Fr.snoc X159 N158 fr119
    have J159 := J158.wr W159 (List.mem_cons_self ..)
    have B159 := B158.mono (Nat.le_of_eq W159.size.symm)
    have O159 := O158.wr W159 (Nat.le_trans (own_ole O0) fr119)
    have K159 := K158.wr W159 (Or.inr sz119)
    refine Go.of (fun _ hr => st159 _ hr) ?_
    show Go p e s below _ _ _ _ T159 (mkF m 200 (LA30 p1 p2 p3 p4 p5 ca cb cc cd r101 r102 o103 r108 o119) [])
    refine Go.of (fun _ hr => XS.iinc X159.here hx rfl (hb hby at_200) rfl (l' := #[.val (.int p1), .val (.int p2), .val (.int p3), .val (.int p4), .val (.int p5), .val (.int (1 : Int32)), .val (.int (2 : Int32)), .val (.int ca), .val (.int cb), .val (.int cc), .val (.int cd), .val (.ref r101), .val (.ref r102), .val (.ref o103), .val (.ref r108), .val (.int (((1 : Int32) + (1 : Int32)) + (2 : Int32))), .val (.ref o119), .val (.int (4 : Int32))]) rfl hr) ?_
    show Go p e s below _ _ _ _ T159 (mkF m 203 #[.val (.int p1), .val (.int p2), .val (.int p3), .val (.int p4), .val (.int p5), .val (.int (1 : Int32)), .val (.int (2 : Int32)), .val (.int ca), .val (.int cb), .val (.int cc), .val (.int cd), .val (.ref r101), .val (.ref r102), .val (.ref o103), .val (.ref r108), .val (.int (((1 : Int32) + (1 : Int32)) + (2 : Int32))), .val (.ref o119), .val (.int (4 : Int32))] [])
    have f160 := (((((Er108.ext E119).wr W156).wr W157).wr W158).wr W159)
    have f161 := (((((Fv108.ext E119).other W156 (Or.inl ne_r108_o119)).other W157 (Or.inl ne_r108_o119)).other W158 (Or.inl ne_r108_o119)).other W159 (Or.inl ne_r108_o119))
    have f162 := (((((Fc108.ext E119).other W156 (Or.inl ne_r108_o119)).other W157 (Or.inl ne_r108_o119)).other W158 (Or.inl ne_r108_o119)).other W159 (Or.inl ne_r108_o119))
    have f163 := (((((Vt108.ext E119).other W156 ne_t108_o119).other W157 ne_t108_o119).other W158 ne_t108_o119).other W159 ne_t108_o119)
    exact law_tail l Z a0 hw p1 p2 p3 p4 p5 (1 : Int32) (2 : Int32) ca cb cc cd r101 r102 o103 (((1 : Int32) + (1 : Int32)) + (2 : Int32)) (4 : Int32) r108 t108 _ (((mkL (1 : Int32) ca cb).map lo8) ++ litI " " ++ ((mkL (2 : Int32) cc cd).map lo8)) o119  _ [ca, (32 : Int32), cc, cd, (0 : Int32)] zc h159 n0 O159 nb hb0 (Nat.le_trans hnb K159.1) fs hfs S_F f160 f161 f162 f163 hB1000 V159 hnn (fun _ => (by rw [litI_sp]; exact chr_lo8 hq_ca)) (fun _ => (by rw [litI_sp]; show _ = (32 : Int32); exact chV32 rfl)) (fun _ => (by rw [litI_sp]; exact chr_lo8 hq_cc)) (fun _ => (by rw [litI_sp]; exact chr_lo8 hq_cd)) (fun q => absurd q (by decide)) S_C hzc Cc118 X159 e159 (fun y hy => Nat.le_trans hnb (N159 y hy)) (J159.sub (fun x hx => (List.mem_cons_of_mem _ (List.mem_cons_of_mem _ hx)))) B159
  · show Go p e s below _ _ _ _ T119 (mkF m 126 #[.val (.int p1), .val (.int p2), .val (.int p3), .val (.int p4), .val (.int p5), .val (.int (2 : Int32)), .val (.int (0 : Int32)), .val (.int ca), .val (.int cb), .val (.int cc), .val (.int cd), .val (.ref r101), .val (.ref r102), .val (.ref o103), .val (.ref r108), .val (.int (((2 : Int32) + (1 : Int32)) + (0 : Int32))), .val (.ref o119), .unset] [])
    refine Go.of (fun _ hr => XS.iconst X119.here hx rfl (hb hby at_126) hr) ?_
    show Go p e s below _ _ _ _ T119 (mkF m 127 #[.val (.int p1), .val (.int p2), .val (.int p3), .val (.int p4), .val (.int p5), .val (.int (2 : Int32)), .val (.int (0 : Int32)), .val (.int ca), .val (.int cb), .val (.int cc), .val (.int cd), .val (.ref r101), .val (.ref r102), .val (.ref o103), .val (.ref r108), .val (.int (((2 : Int32) + (1 : Int32)) + (0 : Int32))), .val (.ref o119), .unset] [(.int (0 : Int32))])
    refine Go.of (fun _ hr => XS.istore X119.here hx rfl (hb hby at_127) rfl (l' := (LA31 p1 p2 p3 p4 p5 ca cb cc cd r101 r102 o103 r108 o119)) rfl hr) ?_
    show Go p e s below _ _ _ _ T119 (mkF m 129 (LA31 p1 p2 p3 p4 p5 ca cb cc cd r101 r102 o103 r108 o119) [])
    refine Go.of (fun _ hr => XS.iload X119.here hx rfl (hb hby at_129) rfl  hr) ?_
    show Go p e s below _ _ _ _ T119 (mkF m 131 (LA31 p1 p2 p3 p4 p5 ca cb cc cd r101 r102 o103 r108 o119) [(.int (2 : Int32))])
    refine Go.of (fun _ hr => XS.iconst X119.here hx rfl (hb hby at_131) hr) ?_
    show Go p e s below _ _ _ _ T119 (mkF m 132 (LA31 p1 p2 p3 p4 p5 ca cb cc cd r101 r102 o103 r108 o119) [(.int (1 : Int32)), (.int (2 : Int32))])
    refine Go.of (fun _ hr => XS.icmpNo X119.here hx rfl (hb hby at_132) rfl (flt (by decide : ¬ ((2 : Int32) < (1 : Int32)))).1 hr) ?_
    show Go p e s below _ _ _ _ T119 (mkF m 135 (LA31 p1 p2 p3 p4 p5 ca cb cc cd r101 r102 o103 r108 o119) [])
    refine Go.of (fun _ hr => XS.aload X119.here hx rfl (hb hby at_135) rfl rfl hr) ?_
    show Go p e s below _ _ _ _ T119 (mkF m 137 (LA31 p1 p2 p3 p4 p5 ca cb cc cd r101 r102 o103 r108 o119) [(.ref o119)])
    refine Go.of (fun _ hr => XS.iload X119.here hx rfl (hb hby at_137) rfl  hr) ?_
    show Go p e s below _ _ _ _ T119 (mkF m 139 (LA31 p1 p2 p3 p4 p5 ca cb cc cd r101 r102 o103 r108 o119) [(.int (0 : Int32)), (.ref o119)])
    refine Go.of (fun _ hr => XS.iload X119.here hx rfl (hb hby at_139) rfl  hr) ?_
    show Go p e s below _ _ _ _ T119 (mkF m 141 (LA31 p1 p2 p3 p4 p5 ca cb cc cd r101 r102 o103 r108 o119) [(.int ca), (.int (0 : Int32)), (.ref o119)])
    obtain ⟨cl164, Ar164, q164, S164, N164_, H164, G164⟩ := id V119
    have hin164 : ¬ ((0 : Int32) < 0 ∨ cl164.slots.size ≤ ((0 : Int32)).toNatClampNeg) := inb_of S164 ⟨by decide, by decide⟩
    obtain ⟨T164, h164, X164, e164, W164, st164⟩ := stC X119 hx hZ e119 Ar164 (j := (0 : Int32)) hin164 (g := (mkF m 141 (LA31 p1 p2 p3 p4 p5 ca cb cc cd r101 r102 o103 r108 o119) [(.int ca), (.int (0 : Int32)), (.ref o119)])) rfl rfl (hb hby at_141)
    have W164' := W164
    rw [show nar .char ca = ca from (nar_c hq_ca.1 (le255 hq_ca.2))] at W164'
    have V164 : Arv Z h164 o119 k119 .char (5 : Int32) [(.int ca), (.int (0 : Int32)), (.int (0 : Int32)), (.int (0 : Int32)), (.int (0 : Int32))] (.int (0 : Int32)) := Arv.set Ar164 q164 S164 N164_ H164 G164 (fits_c hq_ca.1 (le255 hq_ca.2)) W164' 0 rfl (by simp)
    have N164 := Fr.snoc X164 N118 fr119
    have J164 := J119.wr W164 (List.mem_cons_self ..)
    have B164 := B119.mono (Nat.le_of_eq W164.size.symm)
    have O164 := O119.wr W164 (Nat.le_trans (own_ole O0) fr119)
    have K164 := K119.wr W164 (Or.inr sz119)
    refine Go.of (fun _ hr => st164 _ hr) ?_
    show Go p e s below _ _ _ _ T164 (mkF m 142 (LA31 p1 p2 p3 p4 p5 ca cb cc cd r101 r102 o103 r108 o119) [])
    refine Go.of (fun _ hr => XS.iinc X164.here hx rfl (hb hby at_142) rfl (l' := (LA32 p1 p2 p3 p4 p5 ca cb cc cd r101 r102 o103 r108 o119)) rfl hr) ?_
    show Go p e s below _ _ _ _ T164 (mkF m 145 (LA32 p1 p2 p3 p4 p5 ca cb cc cd r101 r102 o103 r108 o119) [])
    refine Go.of (fun _ hr => XS.iload X164.here hx rfl (hb hby at_145) rfl  hr) ?_
    show Go p e s below _ _ _ _ T164 (mkF m 147 (LA32 p1 p2 p3 p4 p5 ca cb cc cd r101 r102 o103 r108 o119) [(.int (2 : Int32))])
    refine Go.of (fun _ hr => XS.iconst X164.here hx rfl (hb hby at_147) hr) ?_
    show Go p e s below _ _ _ _ T164 (mkF m 148 (LA32 p1 p2 p3 p4 p5 ca cb cc cd r101 r102 o103 r108 o119) [(.int (2 : Int32)), (.int (2 : Int32))])
    refine Go.of (fun _ hr => XS.icmpNo X164.here hx rfl (hb hby at_148) rfl (flt (by decide : ¬ ((2 : Int32) < (2 : Int32)))).1 hr) ?_
    show Go p e s below _ _ _ _ T164 (mkF m 151 (LA32 p1 p2 p3 p4 p5 ca cb cc cd r101 r102 o103 r108 o119) [])
    refine Go.of (fun _ hr => XS.aload X164.here hx rfl (hb hby at_151) rfl rfl hr) ?_
    show Go p e s below _ _ _ _ T164 (mkF m 153 (LA32 p1 p2 p3 p4 p5 ca cb cc cd r101 r102 o103 r108 o119) [(.ref o119)])
    refine Go.of (fun _ hr => XS.iload X164.here hx rfl (hb hby at_153) rfl  hr) ?_
    show Go p e s below _ _ _ _ T164 (mkF m 155 (LA32 p1 p2 p3 p4 p5 ca cb cc cd r101 r102 o103 r108 o119) [(.int (1 : Int32)), (.ref o119)])
    refine Go.of (fun _ hr => XS.iload X164.here hx rfl (hb hby at_155) rfl  hr) ?_
    show Go p e s below _ _ _ _ T164 (mkF m 157 (LA32 p1 p2 p3 p4 p5 ca cb cc cd r101 r102 o103 r108 o119) [(.int cb), (.int (1 : Int32)), (.ref o119)])
    obtain ⟨cl165, Ar165, q165, S165, N165_, H165, G165⟩ := id V164
    have hin165 : ¬ ((1 : Int32) < 0 ∨ cl165.slots.size ≤ ((1 : Int32)).toNatClampNeg) := inb_of S165 ⟨by decide, by decide⟩
    obtain ⟨T165, h165, X165, e165, W165, st165⟩ := stC X164 hx hZ e164 Ar165 (j := (1 : Int32)) hin165 (g := (mkF m 157 (LA32 p1 p2 p3 p4 p5 ca cb cc cd r101 r102 o103 r108 o119) [(.int cb), (.int (1 : Int32)), (.ref o119)])) rfl rfl (hb hby at_157)
    have W165' := W165
    rw [show nar .char cb = cb from (nar_c hq_cb.1 (le255 hq_cb.2))] at W165'
    have V165 : Arv Z h165 o119 k119 .char (5 : Int32) [(.int ca), (.int cb), (.int (0 : Int32)), (.int (0 : Int32)), (.int (0 : Int32))] (.int (0 : Int32)) := Arv.set Ar165 q165 S165 N165_ H165 G165 (fits_c hq_cb.1 (le255 hq_cb.2)) W165' 1 rfl (by simp)
    have N165 := Fr.snoc X165 N164 fr119
    have J165 := J164.wr W165 (List.mem_cons_self ..)
    have B165 := B164.mono (Nat.le_of_eq W165.size.symm)
    have O165 := O164.wr W165 (Nat.le_trans (own_ole O0) fr119)
    have K165 := K164.wr W165 (Or.inr sz119)
    refine Go.of (fun _ hr => st165 _ hr) ?_
    show Go p e s below _ _ _ _ T165 (mkF m 158 (LA32 p1 p2 p3 p4 p5 ca cb cc cd r101 r102 o103 r108 o119) [])
    refine Go.of (fun _ hr => XS.iinc X165.here hx rfl (hb hby at_158) rfl (l' := (LA33 p1 p2 p3 p4 p5 ca cb cc cd r101 r102 o103 r108 o119)) rfl hr) ?_
    show Go p e s below _ _ _ _ T165 (mkF m 161 (LA33 p1 p2 p3 p4 p5 ca cb cc cd r101 r102 o103 r108 o119) [])
    refine Go.of (fun _ hr => XS.aload X165.here hx rfl (hb hby at_161) rfl rfl hr) ?_
    show Go p e s below _ _ _ _ T165 (mkF m 163 (LA33 p1 p2 p3 p4 p5 ca cb cc cd r101 r102 o103 r108 o119) [(.ref o119)])
    refine Go.of (fun _ hr => XS.iload X165.here hx rfl (hb hby at_163) rfl  hr) ?_
    show Go p e s below _ _ _ _ T165 (mkF m 165 (LA33 p1 p2 p3 p4 p5 ca cb cc cd r101 r102 o103 r108 o119) [(.int (2 : Int32)), (.ref o119)])
    refine Go.of (fun _ hr => XS.bipush X165.here hx rfl (hb hby at_165) hr) ?_
    show Go p e s below _ _ _ _ T165 (mkF m 167 (LA33 p1 p2 p3 p4 p5 ca cb cc cd r101 r102 o103 r108 o119) [(.int (32 : Int32)), (.int (2 : Int32)), (.ref o119)])
    obtain ⟨cl166, Ar166, q166, S166, N166_, H166, G166⟩ := id V165
    have hin166 : ¬ ((2 : Int32) < 0 ∨ cl166.slots.size ≤ ((2 : Int32)).toNatClampNeg) := inb_of S166 ⟨by decide, by decide⟩
    obtain ⟨T166, h166, X166, e166, W166, st166⟩ := stC X165 hx hZ e165 Ar166 (j := (2 : Int32)) hin166 (g := (mkF m 167 (LA33 p1 p2 p3 p4 p5 ca cb cc cd r101 r102 o103 r108 o119) [(.int (32 : Int32)), (.int (2 : Int32)), (.ref o119)])) rfl rfl (hb hby at_167)
    have W166' := W166
    rw [show nar .char (32 : Int32) = (32 : Int32) from rfl] at W166'
    have V166 : Arv Z h166 o119 k119 .char (5 : Int32) [(.int ca), (.int cb), (.int (32 : Int32)), (.int (0 : Int32)), (.int (0 : Int32))] (.int (0 : Int32)) := Arv.set Ar166 q166 S166 N166_ H166 G166 rfl W166' 2 rfl (by simp)
    have N166 := Fr.snoc X166 N165 fr119
    have J166 := J165.wr W166 (List.mem_cons_self ..)
    have B166 := B165.mono (Nat.le_of_eq W166.size.symm)
    have O166 := O165.wr W166 (Nat.le_trans (own_ole O0) fr119)
    have K166 := K165.wr W166 (Or.inr sz119)
    refine Go.of (fun _ hr => st166 _ hr) ?_
    show Go p e s below _ _ _ _ T166 (mkF m 168 (LA33 p1 p2 p3 p4 p5 ca cb cc cd r101 r102 o103 r108 o119) [])
    refine Go.of (fun _ hr => XS.iinc X166.here hx rfl (hb hby at_168) rfl (l' := (LA34 p1 p2 p3 p4 p5 ca cb cc cd r101 r102 o103 r108 o119)) rfl hr) ?_
    show Go p e s below _ _ _ _ T166 (mkF m 171 (LA34 p1 p2 p3 p4 p5 ca cb cc cd r101 r102 o103 r108 o119) [])
    refine Go.of (fun _ hr => XS.iload X166.here hx rfl (hb hby at_171) rfl  hr) ?_
    show Go p e s below _ _ _ _ T166 (mkF m 173 (LA34 p1 p2 p3 p4 p5 ca cb cc cd r101 r102 o103 r108 o119) [(.int (0 : Int32))])
    refine Go.of (fun _ hr => XS.iconst X166.here hx rfl (hb hby at_173) hr) ?_
    show Go p e s below _ _ _ _ T166 (mkF m 174 (LA34 p1 p2 p3 p4 p5 ca cb cc cd r101 r102 o103 r108 o119) [(.int (1 : Int32)), (.int (0 : Int32))])
    refine Go.of (fun _ hr => XS.icmpYes X166.here hx rfl (pc0 := 174) (pc' := 187) rfl (hb hby at_174) rfl (tlt (by decide : ((0 : Int32) < (1 : Int32)))).1 (by decide) (by decide) hr) ?_
    show Go p e s below _ _ _ _ T166 (mkF m 187 (LA34 p1 p2 p3 p4 p5 ca cb cc cd r101 r102 o103 r108 o119) [])
    refine Go.of (fun _ hr => XS.iload X166.here hx rfl (hb hby at_187) rfl  hr) ?_
    show Go p e s below _ _ _ _ T166 (mkF m 189 (LA34 p1 p2 p3 p4 p5 ca cb cc cd r101 r102 o103 r108 o119) [(.int (0 : Int32))])
    refine Go.of (fun _ hr => XS.iconst X166.here hx rfl (hb hby at_189) hr) ?_
    show Go p e s below _ _ _ _ T166 (mkF m 190 (LA34 p1 p2 p3 p4 p5 ca cb cc cd r101 r102 o103 r108 o119) [(.int (2 : Int32)), (.int (0 : Int32))])
    refine Go.of (fun _ hr => XS.icmpYes X166.here hx rfl (pc0 := 190) (pc' := 203) rfl (hb hby at_190) rfl (tlt (by decide : ((0 : Int32) < (2 : Int32)))).1 (by decide) (by decide) hr) ?_
    show Go p e s below _ _ _ _ T166 (mkF m 203 (LA34 p1 p2 p3 p4 p5 ca cb cc cd r101 r102 o103 r108 o119) [])
    have f167 := ((((Er108.ext E119).wr W164).wr W165).wr W166)
    have f168 := ((((Fv108.ext E119).other W164 (Or.inl ne_r108_o119)).other W165 (Or.inl ne_r108_o119)).other W166 (Or.inl ne_r108_o119))
    have f169 := ((((Fc108.ext E119).other W164 (Or.inl ne_r108_o119)).other W165 (Or.inl ne_r108_o119)).other W166 (Or.inl ne_r108_o119))
    have f170 := ((((Vt108.ext E119).other W164 ne_t108_o119).other W165 ne_t108_o119).other W166 ne_t108_o119)
    exact law_tail l Z a0 hw p1 p2 p3 p4 p5 (2 : Int32) (0 : Int32) ca cb cc cd r101 r102 o103 (((2 : Int32) + (1 : Int32)) + (0 : Int32)) (3 : Int32) r108 t108 _ (((mkL (2 : Int32) ca cb).map lo8) ++ litI " " ++ ((mkL (0 : Int32) cc cd).map lo8)) o119  _ [ca, cb, (32 : Int32), (0 : Int32), (0 : Int32)] zc h166 n0 O166 nb hb0 (Nat.le_trans hnb K166.1) fs hfs S_F f167 f168 f169 f170 hB1000 V166 hnn (fun _ => (by rw [litI_sp]; exact chr_lo8 hq_ca)) (fun _ => (by rw [litI_sp]; exact chr_lo8 hq_cb)) (fun _ => (by rw [litI_sp]; show _ = (32 : Int32); exact chV32 rfl)) (fun q => absurd q (by decide)) (fun q => absurd q (by decide)) S_C hzc Cc118 X166 e166 (fun y hy => Nat.le_trans hnb (N166 y hy)) (J166.sub (fun x hx => (List.mem_cons_of_mem _ (List.mem_cons_of_mem _ hx)))) B166
  · show Go p e s below _ _ _ _ T119 (mkF m 126 #[.val (.int p1), .val (.int p2), .val (.int p3), .val (.int p4), .val (.int p5), .val (.int (2 : Int32)), .val (.int (1 : Int32)), .val (.int ca), .val (.int cb), .val (.int cc), .val (.int cd), .val (.ref r101), .val (.ref r102), .val (.ref o103), .val (.ref r108), .val (.int (((2 : Int32) + (1 : Int32)) + (1 : Int32))), .val (.ref o119), .unset] [])
    refine Go.of (fun _ hr => XS.iconst X119.here hx rfl (hb hby at_126) hr) ?_
    show Go p e s below _ _ _ _ T119 (mkF m 127 #[.val (.int p1), .val (.int p2), .val (.int p3), .val (.int p4), .val (.int p5), .val (.int (2 : Int32)), .val (.int (1 : Int32)), .val (.int ca), .val (.int cb), .val (.int cc), .val (.int cd), .val (.ref r101), .val (.ref r102), .val (.ref o103), .val (.ref r108), .val (.int (((2 : Int32) + (1 : Int32)) + (1 : Int32))), .val (.ref o119), .unset] [(.int (0 : Int32))])
    refine Go.of (fun _ hr => XS.istore X119.here hx rfl (hb hby at_127) rfl (l' := (LA35 p1 p2 p3 p4 p5 ca cb cc cd r101 r102 o103 r108 o119)) rfl hr) ?_
    show Go p e s below _ _ _ _ T119 (mkF m 129 (LA35 p1 p2 p3 p4 p5 ca cb cc cd r101 r102 o103 r108 o119) [])
    refine Go.of (fun _ hr => XS.iload X119.here hx rfl (hb hby at_129) rfl  hr) ?_
    show Go p e s below _ _ _ _ T119 (mkF m 131 (LA35 p1 p2 p3 p4 p5 ca cb cc cd r101 r102 o103 r108 o119) [(.int (2 : Int32))])
    refine Go.of (fun _ hr => XS.iconst X119.here hx rfl (hb hby at_131) hr) ?_
    show Go p e s below _ _ _ _ T119 (mkF m 132 (LA35 p1 p2 p3 p4 p5 ca cb cc cd r101 r102 o103 r108 o119) [(.int (1 : Int32)), (.int (2 : Int32))])
    refine Go.of (fun _ hr => XS.icmpNo X119.here hx rfl (hb hby at_132) rfl (flt (by decide : ¬ ((2 : Int32) < (1 : Int32)))).1 hr) ?_
    show Go p e s below _ _ _ _ T119 (mkF m 135 (LA35 p1 p2 p3 p4 p5 ca cb cc cd r101 r102 o103 r108 o119) [])
    refine Go.of (fun _ hr => XS.aload X119.here hx rfl (hb hby at_135) rfl rfl hr) ?_
    show Go p e s below _ _ _ _ T119 (mkF m 137 (LA35 p1 p2 p3 p4 p5 ca cb cc cd r101 r102 o103 r108 o119) [(.ref o119)])
    refine Go.of (fun _ hr => XS.iload X119.here hx rfl (hb hby at_137) rfl  hr) ?_
    show Go p e s below _ _ _ _ T119 (mkF m 139 (LA35 p1 p2 p3 p4 p5 ca cb cc cd r101 r102 o103 r108 o119) [(.int (0 : Int32)), (.ref o119)])
    refine Go.of (fun _ hr => XS.iload X119.here hx rfl (hb hby at_139) rfl  hr) ?_
    show Go p e s below _ _ _ _ T119 (mkF m 141 (LA35 p1 p2 p3 p4 p5 ca cb cc cd r101 r102 o103 r108 o119) [(.int ca), (.int (0 : Int32)), (.ref o119)])
    obtain ⟨cl171, Ar171, q171, S171, N171_, H171, G171⟩ := id V119
    have hin171 : ¬ ((0 : Int32) < 0 ∨ cl171.slots.size ≤ ((0 : Int32)).toNatClampNeg) := inb_of S171 ⟨by decide, by decide⟩
    obtain ⟨T171, h171, X171, e171, W171, st171⟩ := stC X119 hx hZ e119 Ar171 (j := (0 : Int32)) hin171 (g := (mkF m 141 (LA35 p1 p2 p3 p4 p5 ca cb cc cd r101 r102 o103 r108 o119) [(.int ca), (.int (0 : Int32)), (.ref o119)])) rfl rfl (hb hby at_141)
    have W171' := W171
    rw [show nar .char ca = ca from (nar_c hq_ca.1 (le255 hq_ca.2))] at W171'
    have V171 : Arv Z h171 o119 k119 .char (5 : Int32) [(.int ca), (.int (0 : Int32)), (.int (0 : Int32)), (.int (0 : Int32)), (.int (0 : Int32))] (.int (0 : Int32)) := Arv.set Ar171 q171 S171 N171_ H171 G171 (fits_c hq_ca.1 (le255 hq_ca.2)) W171' 0 rfl (by simp)
    have N171 := Fr.snoc X171 N118 fr119
    have J171 := J119.wr W171 (List.mem_cons_self ..)
    have B171 := B119.mono (Nat.le_of_eq W171.size.symm)
    have O171 := O119.wr W171 (Nat.le_trans (own_ole O0) fr119)
    have K171 := K119.wr W171 (Or.inr sz119)
    refine Go.of (fun _ hr => st171 _ hr) ?_
    show Go p e s below _ _ _ _ T171 (mkF m 142 (LA35 p1 p2 p3 p4 p5 ca cb cc cd r101 r102 o103 r108 o119) [])
    refine Go.of (fun _ hr => XS.iinc X171.here hx rfl (hb hby at_142) rfl (l' := (LA36 p1 p2 p3 p4 p5 ca cb cc cd r101 r102 o103 r108 o119)) rfl hr) ?_
    show Go p e s below _ _ _ _ T171 (mkF m 145 (LA36 p1 p2 p3 p4 p5 ca cb cc cd r101 r102 o103 r108 o119) [])
    refine Go.of (fun _ hr => XS.iload X171.here hx rfl (hb hby at_145) rfl  hr) ?_
    show Go p e s below _ _ _ _ T171 (mkF m 147 (LA36 p1 p2 p3 p4 p5 ca cb cc cd r101 r102 o103 r108 o119) [(.int (2 : Int32))])
    refine Go.of (fun _ hr => XS.iconst X171.here hx rfl (hb hby at_147) hr) ?_
    show Go p e s below _ _ _ _ T171 (mkF m 148 (LA36 p1 p2 p3 p4 p5 ca cb cc cd r101 r102 o103 r108 o119) [(.int (2 : Int32)), (.int (2 : Int32))])
    refine Go.of (fun _ hr => XS.icmpNo X171.here hx rfl (hb hby at_148) rfl (flt (by decide : ¬ ((2 : Int32) < (2 : Int32)))).1 hr) ?_
    show Go p e s below _ _ _ _ T171 (mkF m 151 (LA36 p1 p2 p3 p4 p5 ca cb cc cd r101 r102 o103 r108 o119) [])
    refine Go.of (fun _ hr => XS.aload X171.here hx rfl (hb hby at_151) rfl rfl hr) ?_
    show Go p e s below _ _ _ _ T171 (mkF m 153 (LA36 p1 p2 p3 p4 p5 ca cb cc cd r101 r102 o103 r108 o119) [(.ref o119)])
    refine Go.of (fun _ hr => XS.iload X171.here hx rfl (hb hby at_153) rfl  hr) ?_
    show Go p e s below _ _ _ _ T171 (mkF m 155 (LA36 p1 p2 p3 p4 p5 ca cb cc cd r101 r102 o103 r108 o119) [(.int (1 : Int32)), (.ref o119)])
    refine Go.of (fun _ hr => XS.iload X171.here hx rfl (hb hby at_155) rfl  hr) ?_
    show Go p e s below _ _ _ _ T171 (mkF m 157 (LA36 p1 p2 p3 p4 p5 ca cb cc cd r101 r102 o103 r108 o119) [(.int cb), (.int (1 : Int32)), (.ref o119)])
    obtain ⟨cl172, Ar172, q172, S172, N172_, H172, G172⟩ := id V171
    have hin172 : ¬ ((1 : Int32) < 0 ∨ cl172.slots.size ≤ ((1 : Int32)).toNatClampNeg) := inb_of S172 ⟨by decide, by decide⟩
    obtain ⟨T172, h172, X172, e172, W172, st172⟩ := stC X171 hx hZ e171 Ar172 (j := (1 : Int32)) hin172 (g := (mkF m 157 (LA36 p1 p2 p3 p4 p5 ca cb cc cd r101 r102 o103 r108 o119) [(.int cb), (.int (1 : Int32)), (.ref o119)])) rfl rfl (hb hby at_157)
    have W172' := W172
    rw [show nar .char cb = cb from (nar_c hq_cb.1 (le255 hq_cb.2))] at W172'
    have V172 : Arv Z h172 o119 k119 .char (5 : Int32) [(.int ca), (.int cb), (.int (0 : Int32)), (.int (0 : Int32)), (.int (0 : Int32))] (.int (0 : Int32)) := Arv.set Ar172 q172 S172 N172_ H172 G172 (fits_c hq_cb.1 (le255 hq_cb.2)) W172' 1 rfl (by simp)
    have N172 := Fr.snoc X172 N171 fr119
    have J172 := J171.wr W172 (List.mem_cons_self ..)
    have B172 := B171.mono (Nat.le_of_eq W172.size.symm)
    have O172 := O171.wr W172 (Nat.le_trans (own_ole O0) fr119)
    have K172 := K171.wr W172 (Or.inr sz119)
    refine Go.of (fun _ hr => st172 _ hr) ?_
    show Go p e s below _ _ _ _ T172 (mkF m 158 (LA36 p1 p2 p3 p4 p5 ca cb cc cd r101 r102 o103 r108 o119) [])
    refine Go.of (fun _ hr => XS.iinc X172.here hx rfl (hb hby at_158) rfl (l' := (LA37 p1 p2 p3 p4 p5 ca cb cc cd r101 r102 o103 r108 o119)) rfl hr) ?_
    show Go p e s below _ _ _ _ T172 (mkF m 161 (LA37 p1 p2 p3 p4 p5 ca cb cc cd r101 r102 o103 r108 o119) [])
    refine Go.of (fun _ hr => XS.aload X172.here hx rfl (hb hby at_161) rfl rfl hr) ?_
    show Go p e s below _ _ _ _ T172 (mkF m 163 (LA37 p1 p2 p3 p4 p5 ca cb cc cd r101 r102 o103 r108 o119) [(.ref o119)])
    refine Go.of (fun _ hr => XS.iload X172.here hx rfl (hb hby at_163) rfl  hr) ?_
    show Go p e s below _ _ _ _ T172 (mkF m 165 (LA37 p1 p2 p3 p4 p5 ca cb cc cd r101 r102 o103 r108 o119) [(.int (2 : Int32)), (.ref o119)])
    refine Go.of (fun _ hr => XS.bipush X172.here hx rfl (hb hby at_165) hr) ?_
    show Go p e s below _ _ _ _ T172 (mkF m 167 (LA37 p1 p2 p3 p4 p5 ca cb cc cd r101 r102 o103 r108 o119) [(.int (32 : Int32)), (.int (2 : Int32)), (.ref o119)])
    obtain ⟨cl173, Ar173, q173, S173, N173_, H173, G173⟩ := id V172
    have hin173 : ¬ ((2 : Int32) < 0 ∨ cl173.slots.size ≤ ((2 : Int32)).toNatClampNeg) := inb_of S173 ⟨by decide, by decide⟩
    obtain ⟨T173, h173, X173, e173, W173, st173⟩ := stC X172 hx hZ e172 Ar173 (j := (2 : Int32)) hin173 (g := (mkF m 167 (LA37 p1 p2 p3 p4 p5 ca cb cc cd r101 r102 o103 r108 o119) [(.int (32 : Int32)), (.int (2 : Int32)), (.ref o119)])) rfl rfl (hb hby at_167)
    have W173' := W173
    rw [show nar .char (32 : Int32) = (32 : Int32) from rfl] at W173'
    have V173 : Arv Z h173 o119 k119 .char (5 : Int32) [(.int ca), (.int cb), (.int (32 : Int32)), (.int (0 : Int32)), (.int (0 : Int32))] (.int (0 : Int32)) := Arv.set Ar173 q173 S173 N173_ H173 G173 rfl W173' 2 rfl (by simp)
    have N173 := Fr.snoc X173 N172 fr119
    have J173 := J172.wr W173 (List.mem_cons_self ..)
    have B173 := B172.mono (Nat.le_of_eq W173.size.symm)
    have O173 := O172.wr W173 (Nat.le_trans (own_ole O0) fr119)
    have K173 := K172.wr W173 (Or.inr sz119)
    refine Go.of (fun _ hr => st173 _ hr) ?_
    show Go p e s below _ _ _ _ T173 (mkF m 168 (LA37 p1 p2 p3 p4 p5 ca cb cc cd r101 r102 o103 r108 o119) [])
    refine Go.of (fun _ hr => XS.iinc X173.here hx rfl (hb hby at_168) rfl (l' := (LA38 p1 p2 p3 p4 p5 ca cb cc cd r101 r102 o103 r108 o119)) rfl hr) ?_
    show Go p e s below _ _ _ _ T173 (mkF m 171 (LA38 p1 p2 p3 p4 p5 ca cb cc cd r101 r102 o103 r108 o119) [])
    refine Go.of (fun _ hr => XS.iload X173.here hx rfl (hb hby at_171) rfl  hr) ?_
    show Go p e s below _ _ _ _ T173 (mkF m 173 (LA38 p1 p2 p3 p4 p5 ca cb cc cd r101 r102 o103 r108 o119) [(.int (1 : Int32))])
    refine Go.of (fun _ hr => XS.iconst X173.here hx rfl (hb hby at_173) hr) ?_
    show Go p e s below _ _ _ _ T173 (mkF m 174 (LA38 p1 p2 p3 p4 p5 ca cb cc cd r101 r102 o103 r108 o119) [(.int (1 : Int32)), (.int (1 : Int32))])
    refine Go.of (fun _ hr => XS.icmpNo X173.here hx rfl (hb hby at_174) rfl (flt (by decide : ¬ ((1 : Int32) < (1 : Int32)))).1 hr) ?_
    show Go p e s below _ _ _ _ T173 (mkF m 177 (LA38 p1 p2 p3 p4 p5 ca cb cc cd r101 r102 o103 r108 o119) [])
    refine Go.of (fun _ hr => XS.aload X173.here hx rfl (hb hby at_177) rfl rfl hr) ?_
    show Go p e s below _ _ _ _ T173 (mkF m 179 (LA38 p1 p2 p3 p4 p5 ca cb cc cd r101 r102 o103 r108 o119) [(.ref o119)])
    refine Go.of (fun _ hr => XS.iload X173.here hx rfl (hb hby at_179) rfl  hr) ?_
    show Go p e s below _ _ _ _ T173 (mkF m 181 (LA38 p1 p2 p3 p4 p5 ca cb cc cd r101 r102 o103 r108 o119) [(.int (3 : Int32)), (.ref o119)])
    refine Go.of (fun _ hr => XS.iload X173.here hx rfl (hb hby at_181) rfl  hr) ?_
    show Go p e s below _ _ _ _ T173 (mkF m 183 (LA38 p1 p2 p3 p4 p5 ca cb cc cd r101 r102 o103 r108 o119) [(.int cc), (.int (3 : Int32)), (.ref o119)])
    obtain ⟨cl174, Ar174, q174, S174, N174_, H174, G174⟩ := id V173
    have hin174 : ¬ ((3 : Int32) < 0 ∨ cl174.slots.size ≤ ((3 : Int32)).toNatClampNeg) := inb_of S174 ⟨by decide, by decide⟩
    obtain ⟨T174, h174, X174, e174, W174, st174⟩ := stC X173 hx hZ e173 Ar174 (j := (3 : Int32)) hin174 (g := (mkF m 183 (LA38 p1 p2 p3 p4 p5 ca cb cc cd r101 r102 o103 r108 o119) [(.int cc), (.int (3 : Int32)), (.ref o119)])) rfl rfl (hb hby at_183)
    have W174' := W174
    rw [show nar .char cc = cc from (nar_c hq_cc.1 (le255 hq_cc.2))] at W174'
    have V174 : Arv Z h174 o119 k119 .char (5 : Int32) [(.int ca), (.int cb), (.int (32 : Int32)), (.int cc), (.int (0 : Int32))] (.int (0 : Int32)) := Arv.set Ar174 q174 S174 N174_ H174 G174 (fits_c hq_cc.1 (le255 hq_cc.2)) W174' 3 rfl (by simp)
    have N174 := Fr.snoc X174 N173 fr119
    have J174 := J173.wr W174 (List.mem_cons_self ..)
    have B174 := B173.mono (Nat.le_of_eq W174.size.symm)
    have O174 := O173.wr W174 (Nat.le_trans (own_ole O0) fr119)
    have K174 := K173.wr W174 (Or.inr sz119)
    refine Go.of (fun _ hr => st174 _ hr) ?_
    show Go p e s below _ _ _ _ T174 (mkF m 184 (LA38 p1 p2 p3 p4 p5 ca cb cc cd r101 r102 o103 r108 o119) [])
    refine Go.of (fun _ hr => XS.iinc X174.here hx rfl (hb hby at_184) rfl (l' := (LA39 p1 p2 p3 p4 p5 ca cb cc cd r101 r102 o103 r108 o119)) rfl hr) ?_
    show Go p e s below _ _ _ _ T174 (mkF m 187 (LA39 p1 p2 p3 p4 p5 ca cb cc cd r101 r102 o103 r108 o119) [])
    refine Go.of (fun _ hr => XS.iload X174.here hx rfl (hb hby at_187) rfl  hr) ?_
    show Go p e s below _ _ _ _ T174 (mkF m 189 (LA39 p1 p2 p3 p4 p5 ca cb cc cd r101 r102 o103 r108 o119) [(.int (1 : Int32))])
    refine Go.of (fun _ hr => XS.iconst X174.here hx rfl (hb hby at_189) hr) ?_
    show Go p e s below _ _ _ _ T174 (mkF m 190 (LA39 p1 p2 p3 p4 p5 ca cb cc cd r101 r102 o103 r108 o119) [(.int (2 : Int32)), (.int (1 : Int32))])
    refine Go.of (fun _ hr => XS.icmpYes X174.here hx rfl (pc0 := 190) (pc' := 203) rfl (hb hby at_190) rfl (tlt (by decide : ((1 : Int32) < (2 : Int32)))).1 (by decide) (by decide) hr) ?_
    show Go p e s below _ _ _ _ T174 (mkF m 203 (LA39 p1 p2 p3 p4 p5 ca cb cc cd r101 r102 o103 r108 o119) [])
    have f175 := (((((Er108.ext E119).wr W171).wr W172).wr W173).wr W174)
    have f176 := (((((Fv108.ext E119).other W171 (Or.inl ne_r108_o119)).other W172 (Or.inl ne_r108_o119)).other W173 (Or.inl ne_r108_o119)).other W174 (Or.inl ne_r108_o119))
    have f177 := (((((Fc108.ext E119).other W171 (Or.inl ne_r108_o119)).other W172 (Or.inl ne_r108_o119)).other W173 (Or.inl ne_r108_o119)).other W174 (Or.inl ne_r108_o119))
    have f178 := (((((Vt108.ext E119).other W171 ne_t108_o119).other W172 ne_t108_o119).other W173 ne_t108_o119).other W174 ne_t108_o119)
    exact law_tail l Z a0 hw p1 p2 p3 p4 p5 (2 : Int32) (1 : Int32) ca cb cc cd r101 r102 o103 (((2 : Int32) + (1 : Int32)) + (1 : Int32)) (4 : Int32) r108 t108 _ (((mkL (2 : Int32) ca cb).map lo8) ++ litI " " ++ ((mkL (1 : Int32) cc cd).map lo8)) o119  _ [ca, cb, (32 : Int32), cc, (0 : Int32)] zc h174 n0 O174 nb hb0 (Nat.le_trans hnb K174.1) fs hfs S_F f175 f176 f177 f178 hB1000 V174 hnn (fun _ => (by rw [litI_sp]; exact chr_lo8 hq_ca)) (fun _ => (by rw [litI_sp]; exact chr_lo8 hq_cb)) (fun _ => (by rw [litI_sp]; show _ = (32 : Int32); exact chV32 rfl)) (fun _ => (by rw [litI_sp]; exact chr_lo8 hq_cc)) (fun q => absurd q (by decide)) S_C hzc Cc118 X174 e174 (fun y hy => Nat.le_trans hnb (N174 y hy)) (J174.sub (fun x hx => (List.mem_cons_of_mem _ (List.mem_cons_of_mem _ hx)))) B174
  · show Go p e s below _ _ _ _ T119 (mkF m 126 #[.val (.int p1), .val (.int p2), .val (.int p3), .val (.int p4), .val (.int p5), .val (.int (2 : Int32)), .val (.int (2 : Int32)), .val (.int ca), .val (.int cb), .val (.int cc), .val (.int cd), .val (.ref r101), .val (.ref r102), .val (.ref o103), .val (.ref r108), .val (.int (((2 : Int32) + (1 : Int32)) + (2 : Int32))), .val (.ref o119), .unset] [])
    refine Go.of (fun _ hr => XS.iconst X119.here hx rfl (hb hby at_126) hr) ?_
    show Go p e s below _ _ _ _ T119 (mkF m 127 #[.val (.int p1), .val (.int p2), .val (.int p3), .val (.int p4), .val (.int p5), .val (.int (2 : Int32)), .val (.int (2 : Int32)), .val (.int ca), .val (.int cb), .val (.int cc), .val (.int cd), .val (.ref r101), .val (.ref r102), .val (.ref o103), .val (.ref r108), .val (.int (((2 : Int32) + (1 : Int32)) + (2 : Int32))), .val (.ref o119), .unset] [(.int (0 : Int32))])
    refine Go.of (fun _ hr => XS.istore X119.here hx rfl (hb hby at_127) rfl (l' := (LA40 p1 p2 p3 p4 p5 ca cb cc cd r101 r102 o103 r108 o119)) rfl hr) ?_
    show Go p e s below _ _ _ _ T119 (mkF m 129 (LA40 p1 p2 p3 p4 p5 ca cb cc cd r101 r102 o103 r108 o119) [])
    refine Go.of (fun _ hr => XS.iload X119.here hx rfl (hb hby at_129) rfl  hr) ?_
    show Go p e s below _ _ _ _ T119 (mkF m 131 (LA40 p1 p2 p3 p4 p5 ca cb cc cd r101 r102 o103 r108 o119) [(.int (2 : Int32))])
    refine Go.of (fun _ hr => XS.iconst X119.here hx rfl (hb hby at_131) hr) ?_
    show Go p e s below _ _ _ _ T119 (mkF m 132 (LA40 p1 p2 p3 p4 p5 ca cb cc cd r101 r102 o103 r108 o119) [(.int (1 : Int32)), (.int (2 : Int32))])
    refine Go.of (fun _ hr => XS.icmpNo X119.here hx rfl (hb hby at_132) rfl (flt (by decide : ¬ ((2 : Int32) < (1 : Int32)))).1 hr) ?_
    show Go p e s below _ _ _ _ T119 (mkF m 135 (LA40 p1 p2 p3 p4 p5 ca cb cc cd r101 r102 o103 r108 o119) [])
    refine Go.of (fun _ hr => XS.aload X119.here hx rfl (hb hby at_135) rfl rfl hr) ?_
    show Go p e s below _ _ _ _ T119 (mkF m 137 (LA40 p1 p2 p3 p4 p5 ca cb cc cd r101 r102 o103 r108 o119) [(.ref o119)])
    refine Go.of (fun _ hr => XS.iload X119.here hx rfl (hb hby at_137) rfl  hr) ?_
    show Go p e s below _ _ _ _ T119 (mkF m 139 (LA40 p1 p2 p3 p4 p5 ca cb cc cd r101 r102 o103 r108 o119) [(.int (0 : Int32)), (.ref o119)])
    refine Go.of (fun _ hr => XS.iload X119.here hx rfl (hb hby at_139) rfl  hr) ?_
    show Go p e s below _ _ _ _ T119 (mkF m 141 (LA40 p1 p2 p3 p4 p5 ca cb cc cd r101 r102 o103 r108 o119) [(.int ca), (.int (0 : Int32)), (.ref o119)])
    obtain ⟨cl179, Ar179, q179, S179, N179_, H179, G179⟩ := id V119
    have hin179 : ¬ ((0 : Int32) < 0 ∨ cl179.slots.size ≤ ((0 : Int32)).toNatClampNeg) := inb_of S179 ⟨by decide, by decide⟩
    obtain ⟨T179, h179, X179, e179, W179, st179⟩ := stC X119 hx hZ e119 Ar179 (j := (0 : Int32)) hin179 (g := (mkF m 141 (LA40 p1 p2 p3 p4 p5 ca cb cc cd r101 r102 o103 r108 o119) [(.int ca), (.int (0 : Int32)), (.ref o119)])) rfl rfl (hb hby at_141)
    have W179' := W179
    rw [show nar .char ca = ca from (nar_c hq_ca.1 (le255 hq_ca.2))] at W179'
    have V179 : Arv Z h179 o119 k119 .char (5 : Int32) [(.int ca), (.int (0 : Int32)), (.int (0 : Int32)), (.int (0 : Int32)), (.int (0 : Int32))] (.int (0 : Int32)) := Arv.set Ar179 q179 S179 N179_ H179 G179 (fits_c hq_ca.1 (le255 hq_ca.2)) W179' 0 rfl (by simp)
    have N179 := Fr.snoc X179 N118 fr119
    have J179 := J119.wr W179 (List.mem_cons_self ..)
    have B179 := B119.mono (Nat.le_of_eq W179.size.symm)
    have O179 := O119.wr W179 (Nat.le_trans (own_ole O0) fr119)
    have K179 := K119.wr W179 (Or.inr sz119)
    refine Go.of (fun _ hr => st179 _ hr) ?_
    show Go p e s below _ _ _ _ T179 (mkF m 142 (LA40 p1 p2 p3 p4 p5 ca cb cc cd r101 r102 o103 r108 o119) [])
    refine Go.of (fun _ hr => XS.iinc X179.here hx rfl (hb hby at_142) rfl (l' := (LA41 p1 p2 p3 p4 p5 ca cb cc cd r101 r102 o103 r108 o119)) rfl hr) ?_
    show Go p e s below _ _ _ _ T179 (mkF m 145 (LA41 p1 p2 p3 p4 p5 ca cb cc cd r101 r102 o103 r108 o119) [])
    refine Go.of (fun _ hr => XS.iload X179.here hx rfl (hb hby at_145) rfl  hr) ?_
    show Go p e s below _ _ _ _ T179 (mkF m 147 (LA41 p1 p2 p3 p4 p5 ca cb cc cd r101 r102 o103 r108 o119) [(.int (2 : Int32))])
    refine Go.of (fun _ hr => XS.iconst X179.here hx rfl (hb hby at_147) hr) ?_
    show Go p e s below _ _ _ _ T179 (mkF m 148 (LA41 p1 p2 p3 p4 p5 ca cb cc cd r101 r102 o103 r108 o119) [(.int (2 : Int32)), (.int (2 : Int32))])
    refine Go.of (fun _ hr => XS.icmpNo X179.here hx rfl (hb hby at_148) rfl (flt (by decide : ¬ ((2 : Int32) < (2 : Int32)))).1 hr) ?_
    show Go p e s below _ _ _ _ T179 (mkF m 151 (LA41 p1 p2 p3 p4 p5 ca cb cc cd r101 r102 o103 r108 o119) [])
    refine Go.of (fun _ hr => XS.aload X179.here hx rfl (hb hby at_151) rfl rfl hr) ?_
    show Go p e s below _ _ _ _ T179 (mkF m 153 (LA41 p1 p2 p3 p4 p5 ca cb cc cd r101 r102 o103 r108 o119) [(.ref o119)])
    refine Go.of (fun _ hr => XS.iload X179.here hx rfl (hb hby at_153) rfl  hr) ?_
    show Go p e s below _ _ _ _ T179 (mkF m 155 (LA41 p1 p2 p3 p4 p5 ca cb cc cd r101 r102 o103 r108 o119) [(.int (1 : Int32)), (.ref o119)])
    refine Go.of (fun _ hr => XS.iload X179.here hx rfl (hb hby at_155) rfl  hr) ?_
    show Go p e s below _ _ _ _ T179 (mkF m 157 (LA41 p1 p2 p3 p4 p5 ca cb cc cd r101 r102 o103 r108 o119) [(.int cb), (.int (1 : Int32)), (.ref o119)])
    obtain ⟨cl180, Ar180, q180, S180, N180_, H180, G180⟩ := id V179
    have hin180 : ¬ ((1 : Int32) < 0 ∨ cl180.slots.size ≤ ((1 : Int32)).toNatClampNeg) := inb_of S180 ⟨by decide, by decide⟩
    obtain ⟨T180, h180, X180, e180, W180, st180⟩ := stC X179 hx hZ e179 Ar180 (j := (1 : Int32)) hin180 (g := (mkF m 157 (LA41 p1 p2 p3 p4 p5 ca cb cc cd r101 r102 o103 r108 o119) [(.int cb), (.int (1 : Int32)), (.ref o119)])) rfl rfl (hb hby at_157)
    have W180' := W180
    rw [show nar .char cb = cb from (nar_c hq_cb.1 (le255 hq_cb.2))] at W180'
    have V180 : Arv Z h180 o119 k119 .char (5 : Int32) [(.int ca), (.int cb), (.int (0 : Int32)), (.int (0 : Int32)), (.int (0 : Int32))] (.int (0 : Int32)) := Arv.set Ar180 q180 S180 N180_ H180 G180 (fits_c hq_cb.1 (le255 hq_cb.2)) W180' 1 rfl (by simp)
    have N180 := Fr.snoc X180 N179 fr119
    have J180 := J179.wr W180 (List.mem_cons_self ..)
    have B180 := B179.mono (Nat.le_of_eq W180.size.symm)
    have O180 := O179.wr W180 (Nat.le_trans (own_ole O0) fr119)
    have K180 := K179.wr W180 (Or.inr sz119)
    refine Go.of (fun _ hr => st180 _ hr) ?_
    show Go p e s below _ _ _ _ T180 (mkF m 158 (LA41 p1 p2 p3 p4 p5 ca cb cc cd r101 r102 o103 r108 o119) [])
    refine Go.of (fun _ hr => XS.iinc X180.here hx rfl (hb hby at_158) rfl (l' := (LA42 p1 p2 p3 p4 p5 ca cb cc cd r101 r102 o103 r108 o119)) rfl hr) ?_
    show Go p e s below _ _ _ _ T180 (mkF m 161 (LA42 p1 p2 p3 p4 p5 ca cb cc cd r101 r102 o103 r108 o119) [])
    refine Go.of (fun _ hr => XS.aload X180.here hx rfl (hb hby at_161) rfl rfl hr) ?_
    show Go p e s below _ _ _ _ T180 (mkF m 163 (LA42 p1 p2 p3 p4 p5 ca cb cc cd r101 r102 o103 r108 o119) [(.ref o119)])
    refine Go.of (fun _ hr => XS.iload X180.here hx rfl (hb hby at_163) rfl  hr) ?_
    show Go p e s below _ _ _ _ T180 (mkF m 165 (LA42 p1 p2 p3 p4 p5 ca cb cc cd r101 r102 o103 r108 o119) [(.int (2 : Int32)), (.ref o119)])
    refine Go.of (fun _ hr => XS.bipush X180.here hx rfl (hb hby at_165) hr) ?_
    show Go p e s below _ _ _ _ T180 (mkF m 167 (LA42 p1 p2 p3 p4 p5 ca cb cc cd r101 r102 o103 r108 o119) [(.int (32 : Int32)), (.int (2 : Int32)), (.ref o119)])
    obtain ⟨cl181, Ar181, q181, S181, N181_, H181, G181⟩ := id V180
    have hin181 : ¬ ((2 : Int32) < 0 ∨ cl181.slots.size ≤ ((2 : Int32)).toNatClampNeg) := inb_of S181 ⟨by decide, by decide⟩
    obtain ⟨T181, h181, X181, e181, W181, st181⟩ := stC X180 hx hZ e180 Ar181 (j := (2 : Int32)) hin181 (g := (mkF m 167 (LA42 p1 p2 p3 p4 p5 ca cb cc cd r101 r102 o103 r108 o119) [(.int (32 : Int32)), (.int (2 : Int32)), (.ref o119)])) rfl rfl (hb hby at_167)
    have W181' := W181
    rw [show nar .char (32 : Int32) = (32 : Int32) from rfl] at W181'
    have V181 : Arv Z h181 o119 k119 .char (5 : Int32) [(.int ca), (.int cb), (.int (32 : Int32)), (.int (0 : Int32)), (.int (0 : Int32))] (.int (0 : Int32)) := Arv.set Ar181 q181 S181 N181_ H181 G181 rfl W181' 2 rfl (by simp)
    have N181 := Fr.snoc X181 N180 fr119
    have J181 := J180.wr W181 (List.mem_cons_self ..)
    have B181 := B180.mono (Nat.le_of_eq W181.size.symm)
    have O181 := O180.wr W181 (Nat.le_trans (own_ole O0) fr119)
    have K181 := K180.wr W181 (Or.inr sz119)
    refine Go.of (fun _ hr => st181 _ hr) ?_
    show Go p e s below _ _ _ _ T181 (mkF m 168 (LA42 p1 p2 p3 p4 p5 ca cb cc cd r101 r102 o103 r108 o119) [])
    refine Go.of (fun _ hr => XS.iinc X181.here hx rfl (hb hby at_168) rfl (l' := (LA43 p1 p2 p3 p4 p5 ca cb cc cd r101 r102 o103 r108 o119)) rfl hr) ?_
    show Go p e s below _ _ _ _ T181 (mkF m 171 (LA43 p1 p2 p3 p4 p5 ca cb cc cd r101 r102 o103 r108 o119) [])
    refine Go.of (fun _ hr => XS.iload X181.here hx rfl (hb hby at_171) rfl  hr) ?_
    show Go p e s below _ _ _ _ T181 (mkF m 173 (LA43 p1 p2 p3 p4 p5 ca cb cc cd r101 r102 o103 r108 o119) [(.int (2 : Int32))])
    refine Go.of (fun _ hr => XS.iconst X181.here hx rfl (hb hby at_173) hr) ?_
    show Go p e s below _ _ _ _ T181 (mkF m 174 (LA43 p1 p2 p3 p4 p5 ca cb cc cd r101 r102 o103 r108 o119) [(.int (1 : Int32)), (.int (2 : Int32))])
    refine Go.of (fun _ hr => XS.icmpNo X181.here hx rfl (hb hby at_174) rfl (flt (by decide : ¬ ((2 : Int32) < (1 : Int32)))).1 hr) ?_
    show Go p e s below _ _ _ _ T181 (mkF m 177 (LA43 p1 p2 p3 p4 p5 ca cb cc cd r101 r102 o103 r108 o119) [])
    refine Go.of (fun _ hr => XS.aload X181.here hx rfl (hb hby at_177) rfl rfl hr) ?_
    show Go p e s below _ _ _ _ T181 (mkF m 179 (LA43 p1 p2 p3 p4 p5 ca cb cc cd r101 r102 o103 r108 o119) [(.ref o119)])
    refine Go.of (fun _ hr => XS.iload X181.here hx rfl (hb hby at_179) rfl  hr) ?_
    show Go p e s below _ _ _ _ T181 (mkF m 181 (LA43 p1 p2 p3 p4 p5 ca cb cc cd r101 r102 o103 r108 o119) [(.int (3 : Int32)), (.ref o119)])
    refine Go.of (fun _ hr => XS.iload X181.here hx rfl (hb hby at_181) rfl  hr) ?_
    show Go p e s below _ _ _ _ T181 (mkF m 183 (LA43 p1 p2 p3 p4 p5 ca cb cc cd r101 r102 o103 r108 o119) [(.int cc), (.int (3 : Int32)), (.ref o119)])
    obtain ⟨cl182, Ar182, q182, S182, N182_, H182, G182⟩ := id V181
    have hin182 : ¬ ((3 : Int32) < 0 ∨ cl182.slots.size ≤ ((3 : Int32)).toNatClampNeg) := inb_of S182 ⟨by decide, by decide⟩
    obtain ⟨T182, h182, X182, e182, W182, st182⟩ := stC X181 hx hZ e181 Ar182 (j := (3 : Int32)) hin182 (g := (mkF m 183 (LA43 p1 p2 p3 p4 p5 ca cb cc cd r101 r102 o103 r108 o119) [(.int cc), (.int (3 : Int32)), (.ref o119)])) rfl rfl (hb hby at_183)
    have W182' := W182
    rw [show nar .char cc = cc from (nar_c hq_cc.1 (le255 hq_cc.2))] at W182'
    have V182 : Arv Z h182 o119 k119 .char (5 : Int32) [(.int ca), (.int cb), (.int (32 : Int32)), (.int cc), (.int (0 : Int32))] (.int (0 : Int32)) := Arv.set Ar182 q182 S182 N182_ H182 G182 (fits_c hq_cc.1 (le255 hq_cc.2)) W182' 3 rfl (by simp)
    have N182 := Fr.snoc X182 N181 fr119
    have J182 := J181.wr W182 (List.mem_cons_self ..)
    have B182 := B181.mono (Nat.le_of_eq W182.size.symm)
    have O182 := O181.wr W182 (Nat.le_trans (own_ole O0) fr119)
    have K182 := K181.wr W182 (Or.inr sz119)
    refine Go.of (fun _ hr => st182 _ hr) ?_
    show Go p e s below _ _ _ _ T182 (mkF m 184 (LA43 p1 p2 p3 p4 p5 ca cb cc cd r101 r102 o103 r108 o119) [])
    refine Go.of (fun _ hr => XS.iinc X182.here hx rfl (hb hby at_184) rfl (l' := (LA44 p1 p2 p3 p4 p5 ca cb cc cd r101 r102 o103 r108 o119)) rfl hr) ?_
    show Go p e s below _ _ _ _ T182 (mkF m 187 (LA44 p1 p2 p3 p4 p5 ca cb cc cd r101 r102 o103 r108 o119) [])
    refine Go.of (fun _ hr => XS.iload X182.here hx rfl (hb hby at_187) rfl  hr) ?_
    show Go p e s below _ _ _ _ T182 (mkF m 189 (LA44 p1 p2 p3 p4 p5 ca cb cc cd r101 r102 o103 r108 o119) [(.int (2 : Int32))])
    refine Go.of (fun _ hr => XS.iconst X182.here hx rfl (hb hby at_189) hr) ?_
    show Go p e s below _ _ _ _ T182 (mkF m 190 (LA44 p1 p2 p3 p4 p5 ca cb cc cd r101 r102 o103 r108 o119) [(.int (2 : Int32)), (.int (2 : Int32))])
    refine Go.of (fun _ hr => XS.icmpNo X182.here hx rfl (hb hby at_190) rfl (flt (by decide : ¬ ((2 : Int32) < (2 : Int32)))).1 hr) ?_
    show Go p e s below _ _ _ _ T182 (mkF m 193 (LA44 p1 p2 p3 p4 p5 ca cb cc cd r101 r102 o103 r108 o119) [])
    refine Go.of (fun _ hr => XS.aload X182.here hx rfl (hb hby at_193) rfl rfl hr) ?_
    show Go p e s below _ _ _ _ T182 (mkF m 195 (LA44 p1 p2 p3 p4 p5 ca cb cc cd r101 r102 o103 r108 o119) [(.ref o119)])
    refine Go.of (fun _ hr => XS.iload X182.here hx rfl (hb hby at_195) rfl  hr) ?_
    show Go p e s below _ _ _ _ T182 (mkF m 197 (LA44 p1 p2 p3 p4 p5 ca cb cc cd r101 r102 o103 r108 o119) [(.int (4 : Int32)), (.ref o119)])
    refine Go.of (fun _ hr => XS.iload X182.here hx rfl (hb hby at_197) rfl  hr) ?_
    show Go p e s below _ _ _ _ T182 (mkF m 199 (LA44 p1 p2 p3 p4 p5 ca cb cc cd r101 r102 o103 r108 o119) [(.int cd), (.int (4 : Int32)), (.ref o119)])
    obtain ⟨cl183, Ar183, q183, S183, N183_, H183, G183⟩ := id V182
    have hin183 : ¬ ((4 : Int32) < 0 ∨ cl183.slots.size ≤ ((4 : Int32)).toNatClampNeg) := inb_of S183 ⟨by decide, by decide⟩
    obtain ⟨T183, h183, X183, e183, W183, st183⟩ := stC X182 hx hZ e182 Ar183 (j := (4 : Int32)) hin183 (g := (mkF m 199 (LA44 p1 p2 p3 p4 p5 ca cb cc cd r101 r102 o103 r108 o119) [(.int cd), (.int (4 : Int32)), (.ref o119)])) rfl rfl (hb hby at_199)
    have W183' := W183
    rw [show nar .char cd = cd from (nar_c hq_cd.1 (le255 hq_cd.2))] at W183'
    have V183 : Arv Z h183 o119 k119 .char (5 : Int32) [(.int ca), (.int cb), (.int (32 : Int32)), (.int cc), (.int cd)] (.int (0 : Int32)) := Arv.set Ar183 q183 S183 N183_ H183 G183 (fits_c hq_cd.1 (le255 hq_cd.2)) W183' 4 rfl (by simp)
    have N183 := Fr.snoc X183 N182 fr119
    have J183 := J182.wr W183 (List.mem_cons_self ..)
    have B183 := B182.mono (Nat.le_of_eq W183.size.symm)
    have O183 := O182.wr W183 (Nat.le_trans (own_ole O0) fr119)
    have K183 := K182.wr W183 (Or.inr sz119)
    refine Go.of (fun _ hr => st183 _ hr) ?_
    show Go p e s below _ _ _ _ T183 (mkF m 200 (LA44 p1 p2 p3 p4 p5 ca cb cc cd r101 r102 o103 r108 o119) [])
    refine Go.of (fun _ hr => XS.iinc X183.here hx rfl (hb hby at_200) rfl (l' := #[.val (.int p1), .val (.int p2), .val (.int p3), .val (.int p4), .val (.int p5), .val (.int (2 : Int32)), .val (.int (2 : Int32)), .val (.int ca), .val (.int cb), .val (.int cc), .val (.int cd), .val (.ref r101), .val (.ref r102), .val (.ref o103), .val (.ref r108), .val (.int (((2 : Int32) + (1 : Int32)) + (2 : Int32))), .val (.ref o119), .val (.int (5 : Int32))]) rfl hr) ?_
    show Go p e s below _ _ _ _ T183 (mkF m 203 #[.val (.int p1), .val (.int p2), .val (.int p3), .val (.int p4), .val (.int p5), .val (.int (2 : Int32)), .val (.int (2 : Int32)), .val (.int ca), .val (.int cb), .val (.int cc), .val (.int cd), .val (.ref r101), .val (.ref r102), .val (.ref o103), .val (.ref r108), .val (.int (((2 : Int32) + (1 : Int32)) + (2 : Int32))), .val (.ref o119), .val (.int (5 : Int32))] [])
    have f184 := ((((((Er108.ext E119).wr W179).wr W180).wr W181).wr W182).wr W183)
    have f185 := ((((((Fv108.ext E119).other W179 (Or.inl ne_r108_o119)).other W180 (Or.inl ne_r108_o119)).other W181 (Or.inl ne_r108_o119)).other W182 (Or.inl ne_r108_o119)).other W183 (Or.inl ne_r108_o119))
    have f186 := ((((((Fc108.ext E119).other W179 (Or.inl ne_r108_o119)).other W180 (Or.inl ne_r108_o119)).other W181 (Or.inl ne_r108_o119)).other W182 (Or.inl ne_r108_o119)).other W183 (Or.inl ne_r108_o119))
    have f187 := ((((((Vt108.ext E119).other W179 ne_t108_o119).other W180 ne_t108_o119).other W181 ne_t108_o119).other W182 ne_t108_o119).other W183 ne_t108_o119)
    exact law_tail l Z a0 hw p1 p2 p3 p4 p5 (2 : Int32) (2 : Int32) ca cb cc cd r101 r102 o103 (((2 : Int32) + (1 : Int32)) + (2 : Int32)) (5 : Int32) r108 t108 _ (((mkL (2 : Int32) ca cb).map lo8) ++ litI " " ++ ((mkL (2 : Int32) cc cd).map lo8)) o119  _ [ca, cb, (32 : Int32), cc, cd] zc h183 n0 O183 nb hb0 (Nat.le_trans hnb K183.1) fs hfs S_F f184 f185 f186 f187 hB1000 V183 hnn (fun _ => (by rw [litI_sp]; exact chr_lo8 hq_ca)) (fun _ => (by rw [litI_sp]; exact chr_lo8 hq_cb)) (fun _ => (by rw [litI_sp]; show _ = (32 : Int32); exact chV32 rfl)) (fun _ => (by rw [litI_sp]; exact chr_lo8 hq_cc)) (fun _ => (by rw [litI_sp]; exact chr_lo8 hq_cd)) S_C hzc Cc118 X183 e183 (fun y hy => Nat.le_trans hnb (N183 y hy)) (J183.sub (fun x hx => (List.mem_cons_of_mem _ (List.mem_cons_of_mem _ hx)))) B183

set_option maxRecDepth 65536 in
set_option maxHeartbeats 40000000 in
theorem comes_1 {Post : Tables → Env → Array Value → State → Outcome → State → Prop} (hpost : ∀ tb e args s v u, (limb_1_1.after args s (.returned v) u = true ∧ limb_1_2.after args s (.returned v) u = true ∧ True) → ReturnedEndW s (.returned v) u (Jvm.fieldLocs frame_1_writes args s ++ Jvm.arrayLocs frame_1_arrays args s ++ Jvm.staticLocs frame_1_statics s) 40 2240 → Post tb e args s (.returned v) u) :
    ArmFor flags0 classFile x code maxLocals ret World_1 tables_1 room_1 Calls_1 rest_1 Pre_1 Post := by
  intro l hfl _ _ p e ha hc hk s m args below hf hA hF happ hP
  obtain ⟨hcalls, hrest, hpre⟩ := hP
  obtain ⟨-, -, -, hnamed, -, -, -, hat⟩ := (Spec.applies_iff hf).mp happ
  obtain ⟨hg, hn⟩ := and_e (Cond.before_iff.mp (show (Jvm.Cond.and given_1 narrow_1).before args s = true from hpre))
  have hw := fun d (hd : d ∈ tables_1) => atoms_spec (ws := Jvm.Cond.code x code maxLocals ret :: tables_1) hat d (List.mem_cons_of_mem _ hd)
  obtain ⟨hsets, hown0⟩ := atoms_of _ (rest_1_c_eq ▸ (show rest_1_c.before _ s = true from hrest))
  have hfit : Fit s := fun {y c} hc i hi => by
    obtain ⟨ha, rfl⟩ := Array.getElem?_eq_some_iff.mp hc
    have q := List.all_eq_true.mp ((Array.all_eq_true_iff_forall_mem.mp hF) _ (Array.getElem_mem ha)) i (List.mem_range.mpr hi)
    simpa [Array.getElem?_eq_getElem hi] using q
  obtain ⟨hg0, hg⟩ := and_e hg
  obtain ⟨hg1, hg⟩ := and_e hg
  obtain ⟨hg2, hg⟩ := and_e hg
  obtain ⟨hg3, hg⟩ := and_e hg
  obtain ⟨hg4, hg⟩ := and_e hg
  obtain ⟨w0, w1, w2, w3, w4, rfl⟩ : ∃ w0 w1 w2 w3 w4 : Value, args = #[w0, w1, w2, w3, w4] := by
    have hs : args.size = 5 := by simpa [Cond.value] using hg0
    obtain ⟨L⟩ := args
    match L, hs with
    | [w0, w1, w2, w3, w4], _ => exact ⟨w0, w1, w2, w3, w4, rfl⟩
  obtain ⟨i0, ev0⟩ := is_v hg1
  obtain rfl : w0 = (.int i0) := Option.some.inj ev0
  obtain ⟨i1, ev1⟩ := is_v hg2
  obtain rfl : w1 = (.int i1) := Option.some.inj ev1
  obtain ⟨i2, ev2⟩ := is_v hg3
  obtain rfl : w2 = (.int i2) := Option.some.inj ev2
  obtain ⟨i3, ev3⟩ := is_v hg4
  obtain rfl : w3 = (.int i3) := Option.some.inj ev3
  obtain ⟨i4, ev4⟩ := is_v hg
  obtain rfl : w4 = (.int i4) := Option.some.inj ev4
  obtain ⟨zc, evC⟩ := is_v (Cond.before_iff.mp (hsets _ (List.mem_of_getElem? (i := 8) rfl)))
  have S_C : Sta s s.heap "java/lang/String" "COMPACT_STRINGS" "Z" (.int zc) := Sta.start evC (Or.inl (hsets _ (List.mem_of_getElem? (i := 7) rfl)))
  have hzc : ¬ (zc = (0 : Int32)) := gotF (Cond.eq_ints evC (Term.int_eval (0))) (not_v (Cond.before_iff.mp (hsets _ (List.mem_of_getElem? (i := 9) rfl))))
  have hcm : ∀ q ∈ litCs, (q.1, q.2.1) ∈ consts_1 := by decide +kernel
  have hJ : Hd s [] s.vm s.heap := Hd.start ⟨fun q hq => hcalls.1 _ (hcm q hq), fun a0 => own_compact (hsets _ (List.mem_of_getElem? (i := 9) rfl))⟩
  obtain ⟨wm, evM⟩ := exa_v (Cond.before_iff.mp (hsets _ (List.mem_of_getElem? (i := 2) rfl)))
  have S_M : Sta s s.heap "java/util/ImmutableCollections" "EMPTY_MAP" "Ljava/util/ImmutableCollections$MapN;" (.ref wm) := Sta.start evM (Or.inl (hsets _ (List.mem_of_getElem? (i := 1) rfl)))
  have E_M := Exa.start evM (Cond.before_iff.mp (hsets _ (List.mem_of_getElem? (i := 2) rfl)))
  obtain ⟨fs, hfs, evF⟩ := own_isr (Cond.before_iff.mp (hsets _ (List.mem_of_getElem? (i := 15) rfl)))
  have S_F : Sta s s.heap "jdk/internal/util/Preconditions" "SIOOBE_FORMATTER" "Ljava/util/function/BiFunction;" fs := Sta.start evF (Or.inl (hsets _ (List.mem_of_getElem? (i := 14) rfl)))
  obtain ⟨n, o, h1, h2, h3, _, L, rfl, ⟨rfl, N⟩, -, hq⟩ := rm0 l s _ hw tables_1 i0 i1 i2 i3 i4 zc [] s.heap s.heap.size (Old.start s) s.heap.size (Nat.le_refl _) (Nat.le_refl _) fs hfs S_F wm S_M E_M S_C hzc p e ha hc hk s m _ below hf ((Spec.applies_iff_loose hf).mp happ).1 ⟨rfl, State.Warmed39.refl s, rfl, hJ⟩ trivial
  refine ⟨n, _, h1, h2, h3, hpost _ _ _ _ _ _ ⟨Cond.after_iff.mpr rfl, Cond.after_iff.mpr (eq_i res_at (Term.int_eval (1)) rfl), trivial⟩ ⟨hq.1, hq.2.1, hq.2.2.1, (hq.2.2.2.sift fun y hy => Or.inr (N y hy)).mono (by decide) (by decide)⟩⟩
theorem main_1_1 : Claimed_1_1 := comes_1 fun _ _ _ _ _ _ h hF => ⟨h.1, hF⟩
theorem main_1_2 : Claimed_1_2 := comes_1 fun _ _ _ _ _ _ h hF => ⟨h.2.1, hF⟩

end Jvm.Pilot.@@N@@
namespace Jvm.Pilot.@@N@@
open Jvm Jvm.ClassFile Sem Op Lib Jvm.Free Jvm.Stand Jvm.Pilot.@@N@@.Jvm.D
/-! MADE BY PROGRAM (witnessworld.py) out of the Statement's table words and the real class files: 30 classes; the members and pool entries that the words name. The judged class is class 1, her method 3. -/
namespace start1
open Jvm.ClassFile
def u (s : String) : CpInfo := .utf8 (stringToUtf16 s)
/-- a pool by its gaps: so many unusable entries, then the entry; so many at the end -/
def gap : Nat → List CpInfo → List CpInfo
  | 0, r => r
  | n + 1, r => .unusable :: gap n r
def poolList (es : List (Nat × CpInfo)) (last : Nat) : List CpInfo := es.foldr (fun e r => gap e.1 (e.2 :: r)) (gap last [])
def pool (es : List (Nat × CpInfo)) (last : Nat) : Array CpInfo := ⟨poolList es last⟩
def fileOf (pool : Array CpInfo) (this : Nat) (attrs : Array Attribute := #[]) (ms : Array MethodInfo := #[]) (fl : Nat := 33) (sup : Nat := 0) (ifs : Array Nat := #[]) (fds : Array FieldInfo := #[]) : ClassFile where
  minorVersion := 0
  majorVersion := 65
  constantPool := pool
  accessFlags := fl
  thisClass := this
  superClass := sup
  interfaces := ifs
  fields := fds
  methods := ms
  attributes := attrs
def plain (name : String) (sup : Option ClassId) : Class where
  name := name
  kind := .ordinary
  loader := none
  accessFlags := 33
  super := sup
  interfaces := #[]
  cf := none
  fields := #[]
  methods := #[]
  instanceTypes := #[]
  staticTypes := #[]
  resolved := #[]
  callSites := []
  init := .initialized
  statics := none
  mirror := none

def pool0 : Array CpInfo := pool [(5, u "<init>"), (0, u "()V"), (1, .class_ 10), (1, u "java/lang/Object")] 113

def k0c0 : Code := { maxStack := 0, maxLocals := 1, code := object_method_1_code, exceptionTable := #[], attributes := #[] }
def k0m0 : Method := { name := "<init>", desc := "()V", sig := { parameters := [], returnType := none }, accessFlags := 1, code := some k0c0 }
/-- java/lang/Object -/
def k0 : Class := { plain "java/lang/Object" none with
  accessFlags := 33
  interfaces := #[]
  cf := some (fileOf pool0 8 #[] #[{ accessFlags := 1, nameIndex := 5, descriptorIndex := 6, attributes := #[] }] 33 0 #[] #[])
  fields := #[]
  methods := #[k0m0]
  instanceTypes := #[]
  staticTypes := #[]
  resolved := Array.replicate 124 none
  statics := none }

def pool1 : Array CpInfo := pool [(2, .class_ 4), (1, u "java/lang/Object"), (0, u "<init>"), (0, u "()V"), (0, .class_ 8), (0, u "java/lang/String"), (0, .methodref 7 10), (0, .nameAndType 5 11), (0, u "([C)V"), (0, .methodref 7 13), (0, .nameAndType 14 15), (0, u "valueOf"), (0, u "(C)Ljava/lang/String;"), (0, .methodref 7 17), (0, .nameAndType 18 19), (0, u "charAt"), (0, u "(I)C"), (0, .methodref 21 22), (0, .class_ 23), (0, .nameAndType 24 25), (0, u "com/example/measured_flow/measuredflow/HttpRequestToStringPinLaw"), (0, u "str"), (0, u "(ICC)Ljava/lang/String;"), (0, .class_ 27), (0, u "com/example/measured_flow/measuredflow/HttpRequest"), (0, .interfaceMethodref 29 30), (0, .class_ 31), (0, .nameAndType 32 33), (0, u "java/util/Map"), (0, u "of"), (0, u "()Ljava/util/Map;"), (0, .methodref 26 35), (0, .nameAndType 5 36), (0, u "(Ljava/lang/String;Ljava/lang/String;Ljava/util/Map;)V"), (0, .methodref 26 38), (0, .nameAndType 39 40), (0, u "toString"), (0, u "()Ljava/lang/String;"), (0, .methodref 7 42), (0, .nameAndType 43 44), (0, u "length"), (0, u "()I"), (0, .methodref 21 46), (0, .nameAndType 47 48), (0, u "at"), (0, u "(Ljava/lang/String;[CII)Z"), (3, u "law"), (0, u "(IIIII)Z")] 4

def k1m0 : Method := { name := "<init>", desc := "()V", sig := { parameters := [], returnType := none }, accessFlags := 2, code := none }
def k1c1 : Code := { maxStack := 6, maxLocals := 3, code := method_2_code, exceptionTable := #[], attributes := #[] }
def k1m1 : Method := { name := "str", desc := "(ICC)Ljava/lang/String;", sig := { parameters := [.int, .char, .char], returnType := some (.object "java/lang/String") }, accessFlags := 10, code := some k1c1 }
def k1c2 : Code := { maxStack := 3, maxLocals := 4, code := method_3_code, exceptionTable := #[], attributes := #[] }
def k1m2 : Method := { name := "at", desc := "(Ljava/lang/String;[CII)Z", sig := { parameters := [(.object "java/lang/String"), (.array .char), .int, .int], returnType := some .boolean }, accessFlags := 10, code := some k1c2 }
def k1c3 : Code := { maxStack := 5, maxLocals := 18, code := code, exceptionTable := #[], attributes := #[] }
def k1m3 : Method := { name := "law", desc := "(IIIII)Z", sig := { parameters := [.int, .int, .int, .int, .int], returnType := some .boolean }, accessFlags := 9, code := some k1c3 }
/-- com/example/measured_flow/measuredflow/HttpRequestToStringPinLaw -/
def k1 : Class := { plain "com/example/measured_flow/measuredflow/HttpRequestToStringPinLaw" (some 0) with
  accessFlags := 49
  interfaces := #[]
  cf := some (fileOf pool1 21 #[] #[{ accessFlags := 2, nameIndex := 5, descriptorIndex := 6, attributes := #[] }, { accessFlags := 10, nameIndex := 24, descriptorIndex := 25, attributes := #[] }, { accessFlags := 10, nameIndex := 47, descriptorIndex := 48, attributes := #[] }, { accessFlags := 9, nameIndex := 52, descriptorIndex := 53, attributes := #[] }] 49 2 #[] #[])
  fields := #[]
  methods := #[k1m0, k1m1, k1m2, k1m3]
  instanceTypes := #[]
  staticTypes := #[]
  resolved := Array.replicate 58 none
  statics := none }

def pool2 : Array CpInfo := pool [(1, .class_ 2), (0, u "java/io/Serializable"), (0, .class_ 4), (0, u "java/lang/Object")] 2

/-- java/io/Serializable -/
def k2 : Class := { plain "java/io/Serializable" (some 0) with
  accessFlags := 1537
  interfaces := #[]
  cf := some (fileOf pool2 1 #[] #[] 1537 3 #[] #[])
  fields := #[]
  methods := #[]
  instanceTypes := #[]
  staticTypes := #[]
  resolved := Array.replicate 7 none
  statics := none }

def pool3 : Array CpInfo := pool [(1, .class_ 2), (0, u "java/lang/Comparable"), (0, .class_ 4), (0, u "java/lang/Object")] 7

/-- java/lang/Comparable -/
def k3 : Class := { plain "java/lang/Comparable" (some 0) with
  accessFlags := 1537
  interfaces := #[]
  cf := some (fileOf pool3 1 #[] #[] 1537 3 #[] #[])
  fields := #[]
  methods := #[]
  instanceTypes := #[]
  staticTypes := #[]
  resolved := Array.replicate 12 none
  statics := none }

def pool4 : Array CpInfo := pool [(2, .class_ 4), (1, u "java/lang/CharSequence"), (42, .class_ 48), (0, u "java/lang/CharSequence$1CodePointIterator"), (10, .class_ 60), (0, u "java/lang/CharSequence$1CharIterator"), (5, .class_ 67), (0, u "java/lang/Object")] 63

/-- java/lang/CharSequence -/
def k4 : Class := { plain "java/lang/CharSequence" (some 0) with
  accessFlags := 1537
  interfaces := #[]
  cf := some (fileOf pool4 2 #[.nestMembers #[47, 59]] #[] 1537 66 #[] #[])
  fields := #[]
  methods := #[]
  instanceTypes := #[]
  staticTypes := #[]
  resolved := Array.replicate 131 none
  statics := none }

def pool5 : Array CpInfo := pool [(1, .class_ 2), (0, u "java/lang/constant/Constable"), (0, .class_ 4), (0, u "java/lang/Object")] 6

/-- java/lang/constant/Constable -/
def k5 : Class := { plain "java/lang/constant/Constable" (some 0) with
  accessFlags := 1537
  interfaces := #[]
  cf := some (fileOf pool5 1 #[] #[] 1537 3 #[] #[])
  fields := #[]
  methods := #[]
  instanceTypes := #[]
  staticTypes := #[]
  resolved := Array.replicate 11 none
  statics := none }

def pool6 : Array CpInfo := pool [(1, .class_ 2), (0, u "java/lang/constant/ConstantDesc"), (0, .class_ 4), (0, u "java/lang/Object")] 32

/-- java/lang/constant/ConstantDesc -/
def k6 : Class := { plain "java/lang/constant/ConstantDesc" (some 0) with
  accessFlags := 1537
  interfaces := #[]
  cf := some (fileOf pool6 1 #[] #[] 1537 3 #[] #[])
  fields := #[]
  methods := #[]
  instanceTypes := #[]
  staticTypes := #[]
  resolved := Array.replicate 37 none
  statics := none }

def pool7 : Array CpInfo := pool [(1, .methodref 2 3), (0, .class_ 4), (0, .nameAndType 5 6), (0, u "java/lang/Object"), (0, u "<init>"), (0, u "()V"), (0, .string 8), (0, u ""), (0, .fieldref 10 11), (0, .class_ 12), (0, .nameAndType 13 14), (0, u "java/lang/String"), (0, u "value"), (0, u "[B"), (0, .fieldref 10 16), (0, .nameAndType 17 18), (0, u "coder"), (0, u "B"), (2, u "hash"), (0, u "I"), (2, u "hashIsZero"), (0, u "Z"), (0, .methodref 10 28), (0, .nameAndType 5 29), (0, u "([CIILjava/lang/Void;)V"), (8, .fieldref 10 39), (0, .nameAndType 40 26), (0, u "COMPACT_STRINGS"), (1, .class_ 44), (1, u "java/lang/StringUTF16"), (0, u "compress"), (1, .methodref 42 48), (0, .nameAndType 49 50), (0, u "coderFromArrayLen"), (0, u "([BI)B"), (2, u "toBytes"), (0, .methodref 55 56), (0, .class_ 57), (0, .nameAndType 58 59), (0, u "java/util/Arrays"), (0, u "copyOfRange"), (0, u "([BII)[B"), (47, .class_ 109), (1, u "java/lang/StringLatin1"), (32, u "()Z"), (34, .methodref 42 178), (0, .nameAndType 45 179), (0, u "([CII)[B"), (13, .class_ 195), (1, u "java/lang/System"), (13, .methodref 10 210), (0, .nameAndType 5 211), (0, u "([BB)V"), (0, .methodref 193 213), (0, .nameAndType 214 215), (0, u "arraycopy"), (0, u "(Ljava/lang/Object;ILjava/lang/Object;II)V"), (118, u "()I"), (0, .methodref 10 336), (0, .nameAndType 17 337), (0, u "()B"), (2, u "()[B"), (22, u "([BI)C"), (5, u "(C)Z"), (21, u "(II)V"), (35, u "(I)C"), (61, .methodref 10 490), (0, .nameAndType 5 491), (0, u "(Ljava/lang/AbstractStringBuilder;Ljava/lang/Void;)V"), (0, .methodref 10 493), (0, .nameAndType 494 142), (0, u "isLatin1"), (0, .methodref 107 496), (0, .nameAndType 497 363), (0, u "charAt"), (3, u "checkIndex"), (4, .nameAndType 507 334), (0, u "length"), (24, u "getBytes"), (16, .methodref 550 506), (0, .class_ 551), (0, u "java/lang/AbstractStringBuilder"), (0, .methodref 550 553), (0, .nameAndType 554 340), (0, u "getValue"), (20, .class_ 576), (0, u "java/lang/CharSequence"), (22, u "CASE_INSENSITIVE_ORDER"), (0, u "Ljava/util/Comparator;"), (181, u "valueOf"), (0, u "(C)Ljava/lang/String;"), (37, u "([BIB)V"), (188, u "([C)V"), (4, .methodref 107 1016), (0, .nameAndType 1017 369), (0, u "canEncode"), (0, .methodref 107 1019), (0, .nameAndType 53 1020), (0, u "(C)[B"), (26, .methodref 550 493), (5, .fieldref 1054 1055), (0, .class_ 1056), (0, .nameAndType 1057 1058), (0, u "jdk/internal/util/Preconditions"), (0, u "SIOOBE_FORMATTER"), (0, u "Ljava/util/function/BiFunction;"), (0, .methodref 1054 1060), (0, .nameAndType 501 1061), (0, u "(IILjava/util/function/BiFunction;)I"), (39, u "serialPersistentFields"), (0, u "[Ljava/io/ObjectStreamField;"), (0, .class_ 1104), (0, u "java/lang/String$CaseInsensitiveComparator"), (1, .class_ 1107), (0, u "java/io/Serializable"), (0, .class_ 1109), (0, u "java/lang/Comparable"), (0, .class_ 1111), (0, u "java/lang/constant/Constable"), (0, .class_ 1113), (0, u "java/lang/constant/ConstantDesc"), (2, u "serialVersionUID"), (0, u "J"), (3, u "REPL"), (0, u "C"), (2, u "LATIN1"), (1, u "UTF16"), (105, u "(Ljava/lang/StringBuilder;)V")] 217

def k7m0 : Method := { name := "<init>", desc := "()V", sig := { parameters := [], returnType := none }, accessFlags := 1, code := none }
def k7c1 : Code := { maxStack := 5, maxLocals := 2, code := jdk_42_method_3_code, exceptionTable := #[], attributes := #[] }
def k7m1 : Method := { name := "<init>", desc := "([C)V", sig := { parameters := [(.array .char)], returnType := none }, accessFlags := 1, code := some k7c1 }
def k7c2 : Code := { maxStack := 3, maxLocals := 2, code := jdk_42_method_53_code, exceptionTable := #[], attributes := #[] }
def k7m2 : Method := { name := "<init>", desc := "(Ljava/lang/StringBuilder;)V", sig := { parameters := [(.object "java/lang/StringBuilder")], returnType := none }, accessFlags := 1, code := some k7c2 }
def k7c3 : Code := { maxStack := 2, maxLocals := 1, code := jdk_42_method_54_code, exceptionTable := #[], attributes := #[] }
def k7m3 : Method := { name := "length", desc := "()I", sig := { parameters := [], returnType := some .int }, accessFlags := 1, code := some k7c3 }
def k7c4 : Code := { maxStack := 2, maxLocals := 2, code := jdk_42_method_56_code, exceptionTable := #[], attributes := #[] }
def k7m4 : Method := { name := "charAt", desc := "(I)C", sig := { parameters := [.int], returnType := some .char }, accessFlags := 1, code := some k7c4 }
def k7c5 : Code := { maxStack := 4, maxLocals := 1, code := jdk_42_method_139_code, exceptionTable := #[], attributes := #[] }
def k7m5 : Method := { name := "valueOf", desc := "(C)Ljava/lang/String;", sig := { parameters := [.char], returnType := some (.object "java/lang/String") }, accessFlags := 9, code := some k7c5 }
def k7c6 : Code := { maxStack := 5, maxLocals := 4, code := jdk_42_method_147_code, exceptionTable := #[], attributes := #[] }
def k7m6 : Method := { name := "getBytes", desc := "([BIB)V", sig := { parameters := [(.array .byte), .int, .byte], returnType := none }, accessFlags := 0, code := some k7c6 }
def k7c7 : Code := { maxStack := 4, maxLocals := 6, code := jdk_42_method_149_code, exceptionTable := #[], attributes := #[] }
def k7m7 : Method := { name := "<init>", desc := "([CIILjava/lang/Void;)V", sig := { parameters := [(.array .char), .int, .int, (.object "java/lang/Void")], returnType := none }, accessFlags := 2, code := some k7c7 }
def k7c8 : Code := { maxStack := 5, maxLocals := 5, code := jdk_42_method_150_code, exceptionTable := #[], attributes := #[] }
def k7m8 : Method := { name := "<init>", desc := "(Ljava/lang/AbstractStringBuilder;Ljava/lang/Void;)V", sig := { parameters := [(.object "java/lang/AbstractStringBuilder"), (.object "java/lang/Void")], returnType := none }, accessFlags := 0, code := some k7c8 }
def k7c9 : Code := { maxStack := 2, maxLocals := 3, code := jdk_42_method_151_code, exceptionTable := #[], attributes := #[] }
def k7m9 : Method := { name := "<init>", desc := "([BB)V", sig := { parameters := [(.array .byte), .byte], returnType := none }, accessFlags := 0, code := some k7c9 }
def k7c10 : Code := { maxStack := 1, maxLocals := 1, code := jdk_42_method_152_code, exceptionTable := #[], attributes := #[] }
def k7m10 : Method := { name := "coder", desc := "()B", sig := { parameters := [], returnType := some .byte }, accessFlags := 0, code := some k7c10 }
def k7c11 : Code := { maxStack := 1, maxLocals := 1, code := jdk_42_method_154_code, exceptionTable := #[], attributes := #[] }
def k7m11 : Method := { name := "isLatin1", desc := "()Z", sig := { parameters := [], returnType := some .boolean }, accessFlags := 0, code := some k7c11 }
def k7c12 : Code := { maxStack := 3, maxLocals := 2, code := jdk_42_method_155_code, exceptionTable := #[], attributes := #[] }
def k7m12 : Method := { name := "checkIndex", desc := "(II)V", sig := { parameters := [.int, .int], returnType := none }, accessFlags := 8, code := some k7c12 }
/-- java/lang/String -/
def k7 : Class := { plain "java/lang/String" (some 0) with
  accessFlags := 49
  interfaces := #[2, 3, 4, 5, 6]
  cf := some (fileOf pool7 10 #[.nestMembers #[1103]] #[{ accessFlags := 1, nameIndex := 5, descriptorIndex := 6, attributes := #[] }, { accessFlags := 1, nameIndex := 5, descriptorIndex := 1010, attributes := #[] }, { accessFlags := 1, nameIndex := 5, descriptorIndex := 1233, attributes := #[] }, { accessFlags := 1, nameIndex := 507, descriptorIndex := 334, attributes := #[] }, { accessFlags := 1, nameIndex := 497, descriptorIndex := 427, attributes := #[] }, { accessFlags := 9, nameIndex := 782, descriptorIndex := 783, attributes := #[] }, { accessFlags := 0, nameIndex := 532, descriptorIndex := 821, attributes := #[] }, { accessFlags := 2, nameIndex := 5, descriptorIndex := 29, attributes := #[] }, { accessFlags := 0, nameIndex := 5, descriptorIndex := 491, attributes := #[] }, { accessFlags := 0, nameIndex := 5, descriptorIndex := 211, attributes := #[] }, { accessFlags := 0, nameIndex := 17, descriptorIndex := 337, attributes := #[] }, { accessFlags := 0, nameIndex := 494, descriptorIndex := 142, attributes := #[] }, { accessFlags := 8, nameIndex := 501, descriptorIndex := 391, attributes := #[] }] 49 2 #[1106, 1108, 575, 1110, 1112] #[{ accessFlags := 18, nameIndex := 13, descriptorIndex := 14, attributes := #[] }, { accessFlags := 18, nameIndex := 17, descriptorIndex := 18, attributes := #[] }, { accessFlags := 2, nameIndex := 21, descriptorIndex := 22, attributes := #[] }, { accessFlags := 2, nameIndex := 25, descriptorIndex := 26, attributes := #[] }, { accessFlags := 26, nameIndex := 1116, descriptorIndex := 1117, attributes := #[] }, { accessFlags := 24, nameIndex := 40, descriptorIndex := 26, attributes := #[] }, { accessFlags := 26, nameIndex := 1101, descriptorIndex := 1102, attributes := #[] }, { accessFlags := 26, nameIndex := 1121, descriptorIndex := 1122, attributes := #[] }, { accessFlags := 25, nameIndex := 599, descriptorIndex := 600, attributes := #[] }, { accessFlags := 24, nameIndex := 1125, descriptorIndex := 18, attributes := #[] }, { accessFlags := 24, nameIndex := 1127, descriptorIndex := 18, attributes := #[] }])
  fields := #[{ name := "value", type := (.array .byte), accessFlags := 18, slot := 0, constantValue := 0 }, { name := "coder", type := .byte, accessFlags := 18, slot := 1, constantValue := 0 }, { name := "hash", type := .int, accessFlags := 2, slot := 2, constantValue := 0 }, { name := "hashIsZero", type := .boolean, accessFlags := 2, slot := 3, constantValue := 0 }, { name := "serialVersionUID", type := .long, accessFlags := 26, slot := 0, constantValue := 0 }, { name := "COMPACT_STRINGS", type := .boolean, accessFlags := 24, slot := 1, constantValue := 0 }, { name := "serialPersistentFields", type := (.array (.object "java/io/ObjectStreamField")), accessFlags := 26, slot := 2, constantValue := 0 }, { name := "REPL", type := .char, accessFlags := 26, slot := 3, constantValue := 0 }, { name := "CASE_INSENSITIVE_ORDER", type := (.object "java/util/Comparator"), accessFlags := 25, slot := 4, constantValue := 0 }, { name := "LATIN1", type := .byte, accessFlags := 24, slot := 5, constantValue := 0 }, { name := "UTF16", type := .byte, accessFlags := 24, slot := 6, constantValue := 0 }]
  methods := #[k7m0, k7m1, k7m2, k7m3, k7m4, k7m5, k7m6, k7m7, k7m8, k7m9, k7m10, k7m11, k7m12]
  instanceTypes := #[(.array .byte), .byte, .int, .boolean]
  staticTypes := #[.long, .boolean, (.array (.object "java/io/ObjectStreamField")), .char, (.object "java/util/Comparator"), .byte, .byte]
  resolved := Array.replicate 1451 none
  statics := some 0 }

def pool8 : Array CpInfo := pool [(1, .methodref 2 3), (0, .class_ 4), (0, .nameAndType 5 6), (0, u "java/lang/Object"), (0, u "<init>"), (0, u "()V"), (0, .fieldref 8 9), (0, .class_ 10), (0, .nameAndType 11 12), (0, u "com/example/measured_flow/measuredflow/HttpRequest"), (0, u "method"), (0, u "Ljava/lang/String;"), (0, .fieldref 8 14), (0, .nameAndType 15 12), (0, u "path"), (0, .interfaceMethodref 17 18), (0, .class_ 19), (0, .nameAndType 20 21), (0, u "java/util/Map"), (0, u "copyOf"), (0, u "(Ljava/util/Map;)Ljava/util/Map;"), (0, .fieldref 8 23), (0, .nameAndType 24 25), (0, u "parameters"), (0, u "Ljava/util/Map;"), (23, .class_ 50), (0, u "java/lang/StringBuilder"), (0, .methodref 49 3), (0, .methodref 49 53), (0, .nameAndType 54 55), (0, u "append"), (0, u "(Ljava/lang/String;)Ljava/lang/StringBuilder;"), (0, .string 57), (0, u " "), (0, .methodref 49 59), (0, .nameAndType 60 61), (0, u "toString"), (0, u "()Ljava/lang/String;"), (2, u "(Ljava/lang/String;Ljava/lang/String;Ljava/util/Map;)V")] 8

def k8c0 : Code := { maxStack := 2, maxLocals := 4, code := prog_8_method_1_code, exceptionTable := #[], attributes := #[] }
def k8m0 : Method := { name := "<init>", desc := "(Ljava/lang/String;Ljava/lang/String;Ljava/util/Map;)V", sig := { parameters := [(.object "java/lang/String"), (.object "java/lang/String"), (.object "java/util/Map")], returnType := none }, accessFlags := 0, code := some k8c0 }
def k8c1 : Code := { maxStack := 2, maxLocals := 1, code := prog_8_method_5_code, exceptionTable := #[], attributes := #[] }
def k8m1 : Method := { name := "toString", desc := "()Ljava/lang/String;", sig := { parameters := [], returnType := some (.object "java/lang/String") }, accessFlags := 1, code := some k8c1 }
/-- com/example/measured_flow/measuredflow/HttpRequest -/
def k8 : Class := { plain "com/example/measured_flow/measuredflow/HttpRequest" (some 0) with
  accessFlags := 33
  interfaces := #[]
  cf := some (fileOf pool8 8 #[] #[{ accessFlags := 0, nameIndex := 5, descriptorIndex := 64, attributes := #[] }, { accessFlags := 1, nameIndex := 60, descriptorIndex := 61, attributes := #[] }] 33 2 #[] #[{ accessFlags := 18, nameIndex := 11, descriptorIndex := 12, attributes := #[] }, { accessFlags := 18, nameIndex := 15, descriptorIndex := 12, attributes := #[] }, { accessFlags := 18, nameIndex := 24, descriptorIndex := 25, attributes := #[] }])
  fields := #[{ name := "method", type := (.object "java/lang/String"), accessFlags := 18, slot := 0, constantValue := 0 }, { name := "path", type := (.object "java/lang/String"), accessFlags := 18, slot := 1, constantValue := 0 }, { name := "parameters", type := (.object "java/util/Map"), accessFlags := 18, slot := 2, constantValue := 0 }]
  methods := #[k8m0, k8m1]
  instanceTypes := #[(.object "java/lang/String"), (.object "java/lang/String"), (.object "java/util/Map")]
  staticTypes := #[]
  resolved := Array.replicate 73 none
  statics := none }

def pool9 : Array CpInfo := pool [(2, .class_ 4), (1, u "java/util/Map"), (31, .class_ 37), (0, u "java/util/Map$Entry"), (43, .fieldref 82 83), (0, .class_ 84), (0, .nameAndType 85 86), (0, u "java/util/ImmutableCollections"), (0, u "EMPTY_MAP"), (0, u "Ljava/util/ImmutableCollections$MapN;"), (6, .class_ 94), (0, u "java/lang/Object"), (6, .class_ 102), (0, u "java/util/ImmutableCollections$AbstractImmutableMap"), (5, u "of"), (0, u "()Ljava/util/Map;"), (140, u "copyOf"), (0, u "(Ljava/util/Map;)Ljava/util/Map;")] 11

def k9c0 : Code := { maxStack := 1, maxLocals := 0, code := jdk_72_method_26_code, exceptionTable := #[], attributes := #[] }
def k9m0 : Method := { name := "of", desc := "()Ljava/util/Map;", sig := { parameters := [], returnType := some (.object "java/util/Map") }, accessFlags := 9, code := some k9c0 }
def k9c1 : Code := { maxStack := 2, maxLocals := 1, code := jdk_72_method_39_code, exceptionTable := #[], attributes := #[] }
def k9m1 : Method := { name := "copyOf", desc := "(Ljava/util/Map;)Ljava/util/Map;", sig := { parameters := [(.object "java/util/Map")], returnType := some (.object "java/util/Map") }, accessFlags := 9, code := some k9c1 }
/-- java/util/Map -/
def k9 : Class := { plain "java/util/Map" (some 0) with
  accessFlags := 1537
  interfaces := #[]
  cf := some (fileOf pool9 2 #[.nestMembers #[36]] #[{ accessFlags := 9, nameIndex := 108, descriptorIndex := 109, attributes := #[] }, { accessFlags := 9, nameIndex := 250, descriptorIndex := 251, attributes := #[] }] 1537 93 #[] #[])
  fields := #[]
  methods := #[k9m0, k9m1]
  instanceTypes := #[]
  staticTypes := #[]
  resolved := Array.replicate 263 none
  statics := none }

def pool10 : Array CpInfo := pool [(2, .class_ 4), (1, u "java/lang/Object"), (0, u "<init>"), (0, u "()V"), (3, .class_ 11), (0, u "java/util/ImmutableCollections$List12"), (0, .class_ 13), (0, u "java/util/ImmutableCollections$ListN"), (3, u "Z"), (29, .class_ 49), (1, u "java/util/ImmutableCollections"), (0, u "$assertionsDisabled"), (5, u "[Ljava/lang/Object;"), (5, u "EMPTY_LIST"), (0, u "Ljava/util/ImmutableCollections$ListN;"), (8, u "EMPTY_LIST_NULLS"), (22, u "SALT32L"), (0, u "J"), (2, u "REVERSE"), (6, u "archivedObjects"), (2, u "EMPTY"), (0, u "Ljava/lang/Object;"), (0, .class_ 112), (0, u "java/util/ImmutableCollections$SetN"), (5, u "EMPTY_SET"), (0, u "Ljava/util/ImmutableCollections$SetN;"), (0, .class_ 121), (0, u "java/util/ImmutableCollections$MapN"), (3, u "EMPTY_MAP"), (0, u "Ljava/util/ImmutableCollections$MapN;"), (4, u "EXPAND_FACTOR"), (0, u "I"), (36, .class_ 170), (0, u "java/util/ImmutableCollections$MapN$MapNIterator"), (0, .class_ 172), (0, u "java/util/ImmutableCollections$MapN$1"), (0, .class_ 174), (0, u "java/util/ImmutableCollections$Map1"), (0, .class_ 176), (0, u "java/util/ImmutableCollections$AbstractImmutableMap"), (0, .class_ 178), (0, u "java/util/ImmutableCollections$SetN$SetNIterator"), (0, .class_ 180), (0, u "java/util/ImmutableCollections$Set12"), (0, .class_ 182), (0, u "java/util/ImmutableCollections$Set12$1"), (0, .class_ 184), (0, u "java/util/ImmutableCollections$AbstractImmutableSet"), (0, .class_ 186), (0, u "java/util/ImmutableCollections$SubList"), (0, .class_ 188), (0, u "java/util/ImmutableCollections$ListItr"), (0, .class_ 190), (0, u "java/util/ImmutableCollections$AbstractImmutableList"), (0, .class_ 192), (0, u "java/util/ImmutableCollections$AbstractImmutableCollection"), (0, .class_ 194), (0, u "java/util/ImmutableCollections$Access"), (0, .class_ 196), (0, u "java/util/ImmutableCollections$Access$1")] 16

def k10m0 : Method := { name := "<init>", desc := "()V", sig := { parameters := [], returnType := none }, accessFlags := 2, code := none }
/-- java/util/ImmutableCollections -/
def k10 : Class := { plain "java/util/ImmutableCollections" (some 0) with
  accessFlags := 32
  interfaces := #[]
  cf := some (fileOf pool10 47 #[.nestMembers #[120, 169, 171, 173, 175, 111, 177, 179, 181, 183, 12, 10, 185, 187, 189, 191, 193, 195]] #[{ accessFlags := 2, nameIndex := 5, descriptorIndex := 6, attributes := #[] }] 32 2 #[] #[{ accessFlags := 26, nameIndex := 95, descriptorIndex := 96, attributes := #[] }, { accessFlags := 26, nameIndex := 99, descriptorIndex := 17, attributes := #[] }, { accessFlags := 10, nameIndex := 106, descriptorIndex := 56, attributes := #[] }, { accessFlags := 26, nameIndex := 109, descriptorIndex := 110, attributes := #[] }, { accessFlags := 24, nameIndex := 62, descriptorIndex := 63, attributes := #[] }, { accessFlags := 24, nameIndex := 72, descriptorIndex := 63, attributes := #[] }, { accessFlags := 24, nameIndex := 118, descriptorIndex := 119, attributes := #[] }, { accessFlags := 24, nameIndex := 125, descriptorIndex := 126, attributes := #[] }, { accessFlags := 24, nameIndex := 131, descriptorIndex := 132, attributes := #[] }, { accessFlags := 4120, nameIndex := 50, descriptorIndex := 17, attributes := #[] }])
  fields := #[{ name := "SALT32L", type := .long, accessFlags := 26, slot := 0, constantValue := 0 }, { name := "REVERSE", type := .boolean, accessFlags := 26, slot := 1, constantValue := 0 }, { name := "archivedObjects", type := (.array (.object "java/lang/Object")), accessFlags := 10, slot := 2, constantValue := 0 }, { name := "EMPTY", type := (.object "java/lang/Object"), accessFlags := 26, slot := 3, constantValue := 0 }, { name := "EMPTY_LIST", type := (.object "java/util/ImmutableCollections$ListN"), accessFlags := 24, slot := 4, constantValue := 0 }, { name := "EMPTY_LIST_NULLS", type := (.object "java/util/ImmutableCollections$ListN"), accessFlags := 24, slot := 5, constantValue := 0 }, { name := "EMPTY_SET", type := (.object "java/util/ImmutableCollections$SetN"), accessFlags := 24, slot := 6, constantValue := 0 }, { name := "EMPTY_MAP", type := (.object "java/util/ImmutableCollections$MapN"), accessFlags := 24, slot := 7, constantValue := 0 }, { name := "EXPAND_FACTOR", type := .int, accessFlags := 24, slot := 8, constantValue := 0 }, { name := "$assertionsDisabled", type := .boolean, accessFlags := 4120, slot := 9, constantValue := 0 }]
  methods := #[k10m0]
  instanceTypes := #[]
  staticTypes := #[.long, .boolean, (.array (.object "java/lang/Object")), (.object "java/lang/Object"), (.object "java/util/ImmutableCollections$ListN"), (.object "java/util/ImmutableCollections$ListN"), (.object "java/util/ImmutableCollections$SetN"), (.object "java/util/ImmutableCollections$MapN"), .int, .boolean]
  resolved := Array.replicate 213 none
  statics := some 1 }

def pool11 : Array CpInfo := pool [(2, .class_ 4), (1, u "java/lang/Object"), (0, u "<init>"), (0, u "()V"), (1, .class_ 10), (1, u "java/util/AbstractMap"), (42, .class_ 54), (0, u "java/util/Map"), (9, u "keySet"), (0, u "Ljava/util/Set;"), (0, .class_ 67), (0, u "java/util/AbstractMap$1"), (5, u "values"), (0, u "Ljava/util/Collection;"), (0, .class_ 76), (0, u "java/util/AbstractMap$2"), (104, .class_ 182), (0, u "java/util/AbstractMap$ViewCollection"), (0, .class_ 184), (0, u "java/util/AbstractMap$SimpleImmutableEntry"), (0, .class_ 186), (0, u "java/util/AbstractMap$SimpleEntry"), (0, .class_ 188), (0, u "java/util/AbstractMap$2$1"), (0, .class_ 190), (0, u "java/util/AbstractMap$1$1")] 5

def k11m0 : Method := { name := "<init>", desc := "()V", sig := { parameters := [], returnType := none }, accessFlags := 4, code := none }
/-- java/util/AbstractMap -/
def k11 : Class := { plain "java/util/AbstractMap" (some 0) with
  accessFlags := 1057
  interfaces := #[9]
  cf := some (fileOf pool11 8 #[.nestMembers #[181, 183, 185, 75, 187, 66, 189]] #[{ accessFlags := 4, nameIndex := 5, descriptorIndex := 6, attributes := #[] }] 1057 2 #[53] #[{ accessFlags := 128, nameIndex := 64, descriptorIndex := 65, attributes := #[] }, { accessFlags := 128, nameIndex := 73, descriptorIndex := 74, attributes := #[] }])
  fields := #[{ name := "keySet", type := (.object "java/util/Set"), accessFlags := 128, slot := 0, constantValue := 0 }, { name := "values", type := (.object "java/util/Collection"), accessFlags := 128, slot := 1, constantValue := 0 }]
  methods := #[k11m0]
  instanceTypes := #[(.object "java/util/Set"), (.object "java/util/Collection")]
  staticTypes := #[]
  resolved := Array.replicate 196 none
  statics := none }

def pool12 : Array CpInfo := pool [(2, .class_ 4), (1, u "java/util/AbstractMap"), (0, u "<init>"), (0, u "()V"), (1, .class_ 10), (1, u "java/util/ImmutableCollections"), (3, .class_ 16), (1, u "java/util/ImmutableCollections$AbstractImmutableMap"), (2, .class_ 20), (0, u "java/io/Serializable")] 66

def k12m0 : Method := { name := "<init>", desc := "()V", sig := { parameters := [], returnType := none }, accessFlags := 0, code := none }
/-- java/util/ImmutableCollections$AbstractImmutableMap -/
def k12 : Class := { plain "java/util/ImmutableCollections$AbstractImmutableMap" (some 11) with
  accessFlags := 1056
  interfaces := #[2]
  cf := some (fileOf pool12 14 #[.nestHost 8] #[{ accessFlags := 0, nameIndex := 5, descriptorIndex := 6, attributes := #[] }] 1056 2 #[19] #[])
  fields := #[]
  methods := #[k12m0]
  instanceTypes := #[(.object "java/util/Set"), (.object "java/util/Collection")]
  staticTypes := #[]
  resolved := Array.replicate 87 none
  statics := none }

def pool13 : Array CpInfo := pool [(1, .class_ 2), (0, u "java/util/ImmutableCollections"), (1, .class_ 6), (1, u "java/util/ImmutableCollections$AbstractImmutableMap"), (10, .class_ 19), (1, u "java/util/ImmutableCollections$MapN"), (0, u "size"), (0, u "I"), (4, u "table"), (0, u "[Ljava/lang/Object;")] 121

/-- java/util/ImmutableCollections$MapN -/
def k13 : Class := { plain "java/util/ImmutableCollections$MapN" (some 12) with
  accessFlags := 48
  interfaces := #[]
  cf := some (fileOf pool13 17 #[.nestHost 1] #[] 48 4 #[] #[{ accessFlags := 16, nameIndex := 26, descriptorIndex := 27, attributes := #[] }, { accessFlags := 16, nameIndex := 20, descriptorIndex := 21, attributes := #[] }])
  fields := #[{ name := "table", type := (.array (.object "java/lang/Object")), accessFlags := 16, slot := 2, constantValue := 0 }, { name := "size", type := .int, accessFlags := 16, slot := 3, constantValue := 0 }]
  methods := #[]
  instanceTypes := #[(.object "java/util/Set"), (.object "java/util/Collection"), (.array (.object "java/lang/Object")), .int]
  staticTypes := #[]
  resolved := Array.replicate 149 none
  statics := none }

def pool14 : Array CpInfo := pool [(1, .class_ 2), (0, u "java/lang/Appendable"), (0, .class_ 4), (0, u "java/lang/Object")] 9

/-- java/lang/Appendable -/
def k14 : Class := { plain "java/lang/Appendable" (some 0) with
  accessFlags := 1537
  interfaces := #[]
  cf := some (fileOf pool14 1 #[] #[] 1537 3 #[] #[])
  fields := #[]
  methods := #[]
  instanceTypes := #[]
  staticTypes := #[]
  resolved := Array.replicate 14 none
  statics := none }

def pool15 : Array CpInfo := pool [(1, .class_ 2), (0, u "java/lang/String"), (0, .methodref 4 5), (0, .class_ 6), (0, .nameAndType 7 8), (0, u "java/lang/Object"), (0, u "<init>"), (0, u "()V"), (1, .class_ 12), (1, u "java/lang/AbstractStringBuilder"), (0, u "EMPTYVALUE"), (0, u "[B"), (0, .fieldref 10 16), (0, .nameAndType 17 14), (0, u "value"), (0, .fieldref 1 19), (0, .nameAndType 20 21), (0, u "COMPACT_STRINGS"), (0, u "Z"), (0, .fieldref 10 23), (0, .nameAndType 24 25), (0, u "coder"), (0, u "B"), (6, .methodref 1 33), (0, .nameAndType 34 35), (0, u "length"), (0, u "()I"), (4, .methodref 1 41), (0, .nameAndType 24 42), (0, u "()B"), (2, u "append"), (0, u "(Ljava/lang/String;)Ljava/lang/AbstractStringBuilder;"), (1, .class_ 49), (0, u "java/lang/CharSequence"), (19, u "(Ljava/lang/String;)V"), (5, u "maybeLatin1"), (3, .fieldref 10 80), (0, .nameAndType 81 82), (0, u "count"), (0, u "I"), (2, u "isLatin1"), (0, u "()Z"), (13, .methodref 10 101), (0, .nameAndType 102 103), (0, u "ensureCapacityInternal"), (0, u "(I)V"), (104, .methodref 10 209), (0, .nameAndType 210 211), (0, u "putStringAt"), (0, u "(ILjava/lang/String;)V"), (5, u "inflateIfNeededFor"), (2, .nameAndType 221 222), (0, u "getBytes"), (0, u "([BIB)V"), (174, .methodref 10 398), (0, .nameAndType 217 69), (0, .methodref 1 220), (3, u "()[B"), (40, .class_ 445), (0, u "java/lang/Appendable"), (106, u "getValue")] 56

def k15m0 : Method := { name := "<init>", desc := "()V", sig := { parameters := [], returnType := none }, accessFlags := 0, code := none }
def k15c1 : Code := { maxStack := 2, maxLocals := 2, code := jdk_68_method_2_code, exceptionTable := #[], attributes := #[] }
def k15m1 : Method := { name := "<init>", desc := "(I)V", sig := { parameters := [.int], returnType := none }, accessFlags := 0, code := some k15c1 }
def k15c2 : Code := { maxStack := 1, maxLocals := 1, code := jdk_68_method_6_code, exceptionTable := #[], attributes := #[] }
def k15m2 : Method := { name := "length", desc := "()I", sig := { parameters := [], returnType := some .int }, accessFlags := 1, code := some k15c2 }
def k15c3 : Code := { maxStack := 4, maxLocals := 3, code := jdk_68_method_9_code, exceptionTable := #[], attributes := #[] }
def k15m3 : Method := { name := "ensureCapacityInternal", desc := "(I)V", sig := { parameters := [.int], returnType := none }, accessFlags := 2, code := some k15c3 }
def k15c4 : Code := { maxStack := 3, maxLocals := 3, code := jdk_68_method_22_code, exceptionTable := #[], attributes := #[] }
def k15m4 : Method := { name := "append", desc := "(Ljava/lang/String;)Ljava/lang/AbstractStringBuilder;", sig := { parameters := [(.object "java/lang/String")], returnType := some (.object "java/lang/AbstractStringBuilder") }, accessFlags := 1, code := some k15c4 }
def k15c5 : Code := { maxStack := 1, maxLocals := 1, code := jdk_68_method_64_code, exceptionTable := #[], attributes := #[] }
def k15m5 : Method := { name := "getValue", desc := "()[B", sig := { parameters := [], returnType := some (.array .byte) }, accessFlags := 16, code := some k15c5 }
def k15c6 : Code := { maxStack := 1, maxLocals := 1, code := jdk_68_method_68_code, exceptionTable := #[], attributes := #[] }
def k15m6 : Method := { name := "isLatin1", desc := "()Z", sig := { parameters := [], returnType := some .boolean }, accessFlags := 16, code := some k15c6 }
def k15c7 : Code := { maxStack := 2, maxLocals := 2, code := jdk_68_method_71_code, exceptionTable := #[], attributes := #[] }
def k15m7 : Method := { name := "inflateIfNeededFor", desc := "(Ljava/lang/String;)V", sig := { parameters := [(.object "java/lang/String")], returnType := none }, accessFlags := 2, code := some k15c7 }
def k15c8 : Code := { maxStack := 4, maxLocals := 3, code := jdk_68_method_73_code, exceptionTable := #[], attributes := #[] }
def k15m8 : Method := { name := "putStringAt", desc := "(ILjava/lang/String;)V", sig := { parameters := [.int, (.object "java/lang/String")], returnType := none }, accessFlags := 2, code := some k15c8 }
/-- java/lang/AbstractStringBuilder -/
def k15 : Class := { plain "java/lang/AbstractStringBuilder" (some 0) with
  accessFlags := 1056
  interfaces := #[14, 4]
  cf := some (fileOf pool15 10 #[] #[{ accessFlags := 0, nameIndex := 7, descriptorIndex := 8, attributes := #[] }, { accessFlags := 0, nameIndex := 7, descriptorIndex := 103, attributes := #[] }, { accessFlags := 1, nameIndex := 34, descriptorIndex := 35, attributes := #[] }, { accessFlags := 2, nameIndex := 102, descriptorIndex := 103, attributes := #[] }, { accessFlags := 1, nameIndex := 45, descriptorIndex := 46, attributes := #[] }, { accessFlags := 16, nameIndex := 552, descriptorIndex := 403, attributes := #[] }, { accessFlags := 16, nameIndex := 85, descriptorIndex := 86, attributes := #[] }, { accessFlags := 2, nameIndex := 217, descriptorIndex := 69, attributes := #[] }, { accessFlags := 2, nameIndex := 210, descriptorIndex := 211, attributes := #[] }] 1056 4 #[444, 48] #[{ accessFlags := 0, nameIndex := 17, descriptorIndex := 14, attributes := #[] }, { accessFlags := 0, nameIndex := 24, descriptorIndex := 25, attributes := #[] }, { accessFlags := 0, nameIndex := 75, descriptorIndex := 21, attributes := #[] }, { accessFlags := 0, nameIndex := 81, descriptorIndex := 82, attributes := #[] }, { accessFlags := 26, nameIndex := 13, descriptorIndex := 14, attributes := #[] }])
  fields := #[{ name := "value", type := (.array .byte), accessFlags := 0, slot := 0, constantValue := 0 }, { name := "coder", type := .byte, accessFlags := 0, slot := 1, constantValue := 0 }, { name := "maybeLatin1", type := .boolean, accessFlags := 0, slot := 2, constantValue := 0 }, { name := "count", type := .int, accessFlags := 0, slot := 3, constantValue := 0 }, { name := "EMPTYVALUE", type := (.array .byte), accessFlags := 26, slot := 0, constantValue := 0 }]
  methods := #[k15m0, k15m1, k15m2, k15m3, k15m4, k15m5, k15m6, k15m7, k15m8]
  instanceTypes := #[(.array .byte), .byte, .boolean, .int]
  staticTypes := #[(.array .byte)]
  resolved := Array.replicate 609 none
  statics := none }

def pool16 : Array CpInfo := pool [(1, .methodref 2 3), (0, .class_ 4), (0, .nameAndType 5 6), (0, u "java/lang/AbstractStringBuilder"), (0, u "<init>"), (0, u "(I)V"), (11, .class_ 20), (1, u "java/lang/String"), (3, .class_ 26), (1, u "java/lang/StringBuilder"), (0, u "append"), (0, u "(Ljava/lang/String;)Ljava/lang/StringBuilder;"), (0, .methodref 2 30), (0, .nameAndType 27 31), (0, u "(Ljava/lang/String;)Ljava/lang/AbstractStringBuilder;"), (105, .methodref 18 138), (0, .nameAndType 5 139), (0, u "(Ljava/lang/StringBuilder;)V"), (5, u "()V"), (10, u "()I"), (186, .methodref 2 344), (0, .nameAndType 345 156), (0, u "length"), (3, .class_ 350), (0, u "java/lang/Appendable"), (0, .class_ 352), (0, u "java/io/Serializable"), (0, .class_ 354), (0, u "java/lang/Comparable"), (0, .class_ 356), (0, u "java/lang/CharSequence"), (0, u "serialVersionUID"), (0, u "J"), (40, u "toString"), (0, u "()Ljava/lang/String;")] 21

def k16c0 : Code := { maxStack := 2, maxLocals := 1, code := jdk_67_method_1_code, exceptionTable := #[], attributes := #[] }
def k16m0 : Method := { name := "<init>", desc := "()V", sig := { parameters := [], returnType := none }, accessFlags := 1, code := some k16c0 }
def k16c1 : Code := { maxStack := 2, maxLocals := 2, code := jdk_67_method_7_code, exceptionTable := #[], attributes := #[] }
def k16m1 : Method := { name := "append", desc := "(Ljava/lang/String;)Ljava/lang/StringBuilder;", sig := { parameters := [(.object "java/lang/String")], returnType := some (.object "java/lang/StringBuilder") }, accessFlags := 1, code := some k16c1 }
def k16c2 : Code := { maxStack := 3, maxLocals := 1, code := jdk_67_method_42_code, exceptionTable := #[], attributes := #[] }
def k16m2 : Method := { name := "toString", desc := "()Ljava/lang/String;", sig := { parameters := [], returnType := some (.object "java/lang/String") }, accessFlags := 1, code := some k16c2 }
def k16c3 : Code := { maxStack := 1, maxLocals := 1, code := jdk_67_method_93_code, exceptionTable := #[], attributes := #[] }
def k16m3 : Method := { name := "length", desc := "()I", sig := { parameters := [], returnType := some .int }, accessFlags := 4161, code := some k16c3 }
/-- java/lang/StringBuilder -/
def k16 : Class := { plain "java/lang/StringBuilder" (some 15) with
  accessFlags := 49
  interfaces := #[14, 2, 3, 4]
  cf := some (fileOf pool16 24 #[] #[{ accessFlags := 1, nameIndex := 5, descriptorIndex := 145, attributes := #[] }, { accessFlags := 1, nameIndex := 27, descriptorIndex := 28, attributes := #[] }, { accessFlags := 1, nameIndex := 399, descriptorIndex := 400, attributes := #[] }, { accessFlags := 4161, nameIndex := 345, descriptorIndex := 156, attributes := #[] }] 49 2 #[349, 351, 353, 355] #[{ accessFlags := 24, nameIndex := 357, descriptorIndex := 358, attributes := #[] }])
  fields := #[{ name := "serialVersionUID", type := .long, accessFlags := 24, slot := 0, constantValue := 0 }]
  methods := #[k16m0, k16m1, k16m2, k16m3]
  instanceTypes := #[(.array .byte), .byte, .boolean, .int]
  staticTypes := #[.long]
  resolved := Array.replicate 422 none
  statics := none }

def pool17 : Array CpInfo := pool [(2, .class_ 4), (1, u "java/lang/Object"), (0, u "<init>"), (0, u "()V"), (1, .class_ 10), (1, u "java/lang/System"), (0, u "allowSecurityManager"), (0, u "I"), (16, u "cons"), (0, u "Ljava/io/Console;"), (77, .class_ 110), (1, u "java/lang/System$CallersHolder"), (43, u "initialErrStream"), (0, u "Ljava/io/PrintStream;"), (19, u "security"), (0, u "Ljava/lang/SecurityManager;"), (31, .class_ 209), (0, u "java/lang/System$1"), (7, u "props"), (0, u "Ljava/util/Properties;"), (2, u "lineSeparator"), (0, u "Ljava/lang/String;"), (96, .class_ 321), (1, u "java/lang/System$LoggerFinder"), (5, .class_ 328), (0, u "java/lang/System$Logger"), (67, u "err"), (2, u "out"), (91, u "notSupportedJnuEncoding"), (15, u "in"), (17, u "initialIn"), (0, u "Ljava/io/InputStream;"), (35, u "bootLayer"), (0, u "Ljava/lang/ModuleLayer;"), (99, .class_ 664), (0, u "java/lang/System$2"), (9, u "NEVER"), (2, u "MAYBE"), (49, u "arraycopy"), (0, u "(Ljava/lang/Object;ILjava/lang/Object;II)V"), (72, .class_ 802), (0, u "java/lang/System$Logger$Level")] 31

def k17m0 : Method := { name := "<init>", desc := "()V", sig := { parameters := [], returnType := none }, accessFlags := 2, code := none }
def k17m1 : Method := { name := "arraycopy", desc := "(Ljava/lang/Object;ILjava/lang/Object;II)V", sig := { parameters := [(.object "java/lang/Object"), .int, (.object "java/lang/Object"), .int, .int], returnType := none }, accessFlags := 265, code := none }
/-- java/lang/System -/
def k17 : Class := { plain "java/lang/System" (some 0) with
  accessFlags := 49
  interfaces := #[]
  cf := some (fileOf pool17 8 #[.nestMembers #[319, 327, 801, 108, 663, 208]] #[{ accessFlags := 2, nameIndex := 5, descriptorIndex := 6, attributes := #[] }, { accessFlags := 265, nameIndex := 727, descriptorIndex := 728, attributes := #[] }] 49 2 #[] #[{ accessFlags := 25, nameIndex := 507, descriptorIndex := 526, attributes := #[] }, { accessFlags := 25, nameIndex := 399, descriptorIndex := 155, attributes := #[] }, { accessFlags := 25, nameIndex := 396, descriptorIndex := 155, attributes := #[] }, { accessFlags := 10, nameIndex := 525, descriptorIndex := 526, attributes := #[] }, { accessFlags := 26, nameIndex := 674, descriptorIndex := 12, attributes := #[] }, { accessFlags := 26, nameIndex := 677, descriptorIndex := 12, attributes := #[] }, { accessFlags := 10, nameIndex := 11, descriptorIndex := 12, attributes := #[] }, { accessFlags := 74, nameIndex := 175, descriptorIndex := 176, attributes := #[] }, { accessFlags := 10, nameIndex := 491, descriptorIndex := 222, attributes := #[] }, { accessFlags := 74, nameIndex := 29, descriptorIndex := 30, attributes := #[] }, { accessFlags := 74, nameIndex := 154, descriptorIndex := 155, attributes := #[] }, { accessFlags := 10, nameIndex := 217, descriptorIndex := 218, attributes := #[] }, { accessFlags := 10, nameIndex := 221, descriptorIndex := 222, attributes := #[] }, { accessFlags := 8, nameIndex := 562, descriptorIndex := 563, attributes := #[] }])
  fields := #[{ name := "in", type := (.object "java/io/InputStream"), accessFlags := 25, slot := 0, constantValue := 0 }, { name := "out", type := (.object "java/io/PrintStream"), accessFlags := 25, slot := 1, constantValue := 0 }, { name := "err", type := (.object "java/io/PrintStream"), accessFlags := 25, slot := 2, constantValue := 0 }, { name := "initialIn", type := (.object "java/io/InputStream"), accessFlags := 10, slot := 3, constantValue := 0 }, { name := "NEVER", type := .int, accessFlags := 26, slot := 4, constantValue := 0 }, { name := "MAYBE", type := .int, accessFlags := 26, slot := 5, constantValue := 0 }, { name := "allowSecurityManager", type := .int, accessFlags := 10, slot := 6, constantValue := 0 }, { name := "security", type := (.object "java/lang/SecurityManager"), accessFlags := 74, slot := 7, constantValue := 0 }, { name := "notSupportedJnuEncoding", type := (.object "java/lang/String"), accessFlags := 10, slot := 8, constantValue := 0 }, { name := "cons", type := (.object "java/io/Console"), accessFlags := 74, slot := 9, constantValue := 0 }, { name := "initialErrStream", type := (.object "java/io/PrintStream"), accessFlags := 74, slot := 10, constantValue := 0 }, { name := "props", type := (.object "java/util/Properties"), accessFlags := 10, slot := 11, constantValue := 0 }, { name := "lineSeparator", type := (.object "java/lang/String"), accessFlags := 10, slot := 12, constantValue := 0 }, { name := "bootLayer", type := (.object "java/lang/ModuleLayer"), accessFlags := 8, slot := 13, constantValue := 0 }]
  methods := #[k17m0, k17m1]
  instanceTypes := #[]
  staticTypes := #[(.object "java/io/InputStream"), (.object "java/io/PrintStream"), (.object "java/io/PrintStream"), (.object "java/io/InputStream"), .int, .int, .int, (.object "java/lang/SecurityManager"), (.object "java/lang/String"), (.object "java/io/Console"), (.object "java/io/PrintStream"), (.object "java/util/Properties"), (.object "java/lang/String"), (.object "java/lang/ModuleLayer")]
  resolved := Array.replicate 834 none
  statics := none }

def pool18 : Array CpInfo := pool [(2, .class_ 4), (1, u "java/lang/Object"), (0, u "<init>"), (0, u "()V"), (7, .class_ 16), (1, u "java/util/Arrays"), (57, .class_ 76), (1, u "java/util/Arrays$NaturalOrder"), (36, .class_ 115), (1, u "java/util/Arrays$LegacyMergeSort"), (1, u "Z"), (21, u "copyOfRange"), (10, .methodref 151 152), (0, .class_ 153), (0, .nameAndType 154 155), (0, u "java/lang/System"), (0, u "arraycopy"), (0, u "(Ljava/lang/Object;ILjava/lang/Object;II)V"), (148, .methodref 305 306), (0, .class_ 307), (0, .nameAndType 308 309), (0, u "java/lang/Math"), (0, u "min"), (0, u "(II)I"), (29, .methodref 14 340), (0, .nameAndType 341 342), (0, u "copyOfRangeByte"), (0, u "([BII)[B"), (0, .methodref 14 344), (0, .nameAndType 345 346), (0, u "checkLength"), (0, u "(II)V"), (28, .class_ 376), (0, u "java/util/Arrays$ArrayList"), (68, u "$assertionsDisabled"), (269, u "MIN_ARRAY_SORT_GRAN"), (0, u "I"), (2, u "INSERTIONSORT_THRESHOLD"), (255, .class_ 976), (0, u "java/util/Arrays$ArrayItr")] 52

def k18m0 : Method := { name := "<init>", desc := "()V", sig := { parameters := [], returnType := none }, accessFlags := 2, code := none }
def k18c1 : Code := { maxStack := 4, maxLocals := 2, code := jdk_65_method_131_code, exceptionTable := #[], attributes := #[] }
def k18m1 : Method := { name := "checkLength", desc := "(II)V", sig := { parameters := [.int, .int], returnType := none }, accessFlags := 10, code := some k18c1 }
def k18c2 : Code := { maxStack := 3, maxLocals := 3, code := jdk_65_method_132_code, exceptionTable := #[], attributes := #[] }
def k18m2 : Method := { name := "copyOfRange", desc := "([BII)[B", sig := { parameters := [(.array .byte), .int, .int], returnType := some (.array .byte) }, accessFlags := 9, code := some k18c2 }
def k18c3 : Code := { maxStack := 6, maxLocals := 5, code := jdk_65_method_133_code, exceptionTable := #[], attributes := #[] }
def k18m3 : Method := { name := "copyOfRangeByte", desc := "([BII)[B", sig := { parameters := [(.array .byte), .int, .int], returnType := some (.array .byte) }, accessFlags := 10, code := some k18c3 }
/-- java/util/Arrays -/
def k18 : Class := { plain "java/util/Arrays" (some 0) with
  accessFlags := 49
  interfaces := #[]
  cf := some (fileOf pool18 14 #[.nestMembers #[975, 375, 113, 74]] #[{ accessFlags := 2, nameIndex := 5, descriptorIndex := 6, attributes := #[] }, { accessFlags := 10, nameIndex := 345, descriptorIndex := 346, attributes := #[] }, { accessFlags := 9, nameIndex := 139, descriptorIndex := 342, attributes := #[] }, { accessFlags := 10, nameIndex := 341, descriptorIndex := 342, attributes := #[] }] 49 2 #[] #[{ accessFlags := 26, nameIndex := 715, descriptorIndex := 716, attributes := #[] }, { accessFlags := 26, nameIndex := 719, descriptorIndex := 716, attributes := #[] }, { accessFlags := 4120, nameIndex := 445, descriptorIndex := 117, attributes := #[] }])
  fields := #[{ name := "MIN_ARRAY_SORT_GRAN", type := .int, accessFlags := 26, slot := 0, constantValue := 0 }, { name := "INSERTIONSORT_THRESHOLD", type := .int, accessFlags := 26, slot := 1, constantValue := 0 }, { name := "$assertionsDisabled", type := .boolean, accessFlags := 4120, slot := 2, constantValue := 0 }]
  methods := #[k18m0, k18m1, k18m2, k18m3]
  instanceTypes := #[]
  staticTypes := #[.int, .int, .boolean]
  resolved := Array.replicate 1029 none
  statics := none }

def pool19 : Array CpInfo := pool [(1, .class_ 2), (0, u "java/lang/Math"), (1, .class_ 6), (1, u "java/lang/Object"), (0, u "<init>"), (0, u "()V"), (89, .class_ 100), (1, u "java/lang/Math$RandomNumberGeneratorHolder"), (71, u "negativeZeroFloatBits"), (0, u "J"), (2, u "negativeZeroDoubleBits"), (24, u "min"), (43, u "$assertionsDisabled"), (0, u "Z"), (88, u "(II)I"), (2, u "twoToTheDoubleScaleDown"), (0, u "D"), (4, u "twoToTheDoubleScaleUp"), (9, u "E"), (3, u "PI"), (2, u "TAU"), (2, u "DEGREES_TO_RADIANS"), (0, u "RADIANS_TO_DEGREES")] 94

def k19m0 : Method := { name := "<init>", desc := "()V", sig := { parameters := [], returnType := none }, accessFlags := 2, code := none }
def k19c1 : Code := { maxStack := 2, maxLocals := 2, code := jdk_29_method_69_code, exceptionTable := #[], attributes := #[] }
def k19m1 : Method := { name := "min", desc := "(II)I", sig := { parameters := [.int, .int], returnType := some .int }, accessFlags := 9, code := some k19c1 }
/-- java/lang/Math -/
def k19 : Class := { plain "java/lang/Math" (some 0) with
  accessFlags := 49
  interfaces := #[]
  cf := some (fileOf pool19 1 #[.nestMembers #[98]] #[{ accessFlags := 2, nameIndex := 7, descriptorIndex := 8, attributes := #[] }, { accessFlags := 9, nameIndex := 201, descriptorIndex := 335, attributes := #[] }] 49 4 #[] #[{ accessFlags := 25, nameIndex := 354, descriptorIndex := 339, attributes := #[] }, { accessFlags := 25, nameIndex := 358, descriptorIndex := 339, attributes := #[] }, { accessFlags := 25, nameIndex := 361, descriptorIndex := 339, attributes := #[] }, { accessFlags := 26, nameIndex := 364, descriptorIndex := 339, attributes := #[] }, { accessFlags := 26, nameIndex := 365, descriptorIndex := 339, attributes := #[] }, { accessFlags := 26, nameIndex := 172, descriptorIndex := 173, attributes := #[] }, { accessFlags := 26, nameIndex := 176, descriptorIndex := 173, attributes := #[] }, { accessFlags := 8, nameIndex := 344, descriptorIndex := 339, attributes := #[] }, { accessFlags := 8, nameIndex := 338, descriptorIndex := 339, attributes := #[] }, { accessFlags := 4120, nameIndex := 245, descriptorIndex := 246, attributes := #[] }])
  fields := #[{ name := "E", type := .double, accessFlags := 25, slot := 0, constantValue := 0 }, { name := "PI", type := .double, accessFlags := 25, slot := 1, constantValue := 0 }, { name := "TAU", type := .double, accessFlags := 25, slot := 2, constantValue := 0 }, { name := "DEGREES_TO_RADIANS", type := .double, accessFlags := 26, slot := 3, constantValue := 0 }, { name := "RADIANS_TO_DEGREES", type := .double, accessFlags := 26, slot := 4, constantValue := 0 }, { name := "negativeZeroFloatBits", type := .long, accessFlags := 26, slot := 5, constantValue := 0 }, { name := "negativeZeroDoubleBits", type := .long, accessFlags := 26, slot := 6, constantValue := 0 }, { name := "twoToTheDoubleScaleUp", type := .double, accessFlags := 8, slot := 7, constantValue := 0 }, { name := "twoToTheDoubleScaleDown", type := .double, accessFlags := 8, slot := 8, constantValue := 0 }, { name := "$assertionsDisabled", type := .boolean, accessFlags := 4120, slot := 9, constantValue := 0 }]
  methods := #[k19m0, k19m1]
  instanceTypes := #[]
  staticTypes := #[.double, .double, .double, .double, .double, .long, .long, .double, .double, .boolean]
  resolved := Array.replicate 460 none
  statics := none }

def pool20 : Array CpInfo := pool [(1, .class_ 2), (0, u "java/lang/String"), (1, .class_ 6), (1, u "java/lang/Object"), (0, u "<init>"), (0, u "()V"), (0, .methodref 1 10), (0, .nameAndType 11 12), (0, u "checkIndex"), (0, u "(II)V"), (1, .class_ 16), (1, u "java/lang/StringLatin1"), (36, u "([BI)C"), (36, u "canEncode"), (14, u "(C)Z"), (15, u "$assertionsDisabled"), (0, u "Z"), (98, .class_ 223), (1, u "java/lang/StringLatin1$LinesSpliterator"), (28, u "charAt"), (127, u "toBytes"), (1, u "(C)[B"), (7, .class_ 391), (0, u "java/lang/StringLatin1$CharsSpliterator")] 3

def k20m0 : Method := { name := "<init>", desc := "()V", sig := { parameters := [], returnType := none }, accessFlags := 0, code := none }
def k20c1 : Code := { maxStack := 2, maxLocals := 2, code := jdk_43_method_2_code, exceptionTable := #[], attributes := #[] }
def k20m1 : Method := { name := "charAt", desc := "([BI)C", sig := { parameters := [(.array .byte), .int], returnType := some .char }, accessFlags := 9, code := some k20c1 }
def k20c2 : Code := { maxStack := 2, maxLocals := 1, code := jdk_43_method_3_code, exceptionTable := #[], attributes := #[] }
def k20m2 : Method := { name := "canEncode", desc := "(C)Z", sig := { parameters := [.char], returnType := some .boolean }, accessFlags := 9, code := some k20c2 }
def k20c3 : Code := { maxStack := 4, maxLocals := 1, code := jdk_43_method_46_code, exceptionTable := #[], attributes := #[] }
def k20m3 : Method := { name := "toBytes", desc := "(C)[B", sig := { parameters := [.char], returnType := some (.array .byte) }, accessFlags := 9, code := some k20c3 }
/-- java/lang/StringLatin1 -/
def k20 : Class := { plain "java/lang/StringLatin1" (some 0) with
  accessFlags := 48
  interfaces := #[]
  cf := some (fileOf pool20 14 #[.nestMembers #[390, 221]] #[{ accessFlags := 0, nameIndex := 7, descriptorIndex := 8, attributes := #[] }, { accessFlags := 9, nameIndex := 252, descriptorIndex := 53, attributes := #[] }, { accessFlags := 9, nameIndex := 90, descriptorIndex := 105, attributes := #[] }, { accessFlags := 9, nameIndex := 380, descriptorIndex := 382, attributes := #[] }] 48 4 #[] #[{ accessFlags := 4120, nameIndex := 121, descriptorIndex := 122, attributes := #[] }])
  fields := #[{ name := "$assertionsDisabled", type := .boolean, accessFlags := 4120, slot := 0, constantValue := 0 }]
  methods := #[k20m0, k20m1, k20m2, k20m3]
  instanceTypes := #[]
  staticTypes := #[.boolean]
  resolved := Array.replicate 395 none
  statics := none }

def pool21 : Array CpInfo := pool [(2, .class_ 4), (1, u "java/lang/Object"), (0, u "<init>"), (0, u "()V"), (17, .class_ 26), (1, u "jdk/internal/util/Preconditions"), (6, u "checkIndex"), (21, .class_ 56), (0, u "jdk/internal/util/Preconditions$4"), (57, .class_ 115), (0, u "jdk/internal/util/Preconditions$1"), (7, u "SIOOBE_FORMATTER"), (0, u "Ljava/util/function/BiFunction;"), (0, .class_ 126), (0, u "jdk/internal/util/Preconditions$2"), (3, u "AIOOBE_FORMATTER"), (0, .class_ 132), (0, u "jdk/internal/util/Preconditions$3"), (3, u "IOOBE_FORMATTER"), (41, u "(IILjava/util/function/BiFunction;)I")] 15

def k21m0 : Method := { name := "<init>", desc := "()V", sig := { parameters := [], returnType := none }, accessFlags := 1, code := none }
def k21c1 : Code := { maxStack := 3, maxLocals := 3, code := jdk_41_method_11_code, exceptionTable := #[], attributes := #[] }
def k21m1 : Method := { name := "checkIndex", desc := "(IILjava/util/function/BiFunction;)I", sig := { parameters := [.int, .int, (.object "java/util/function/BiFunction")], returnType := some .int }, accessFlags := 9, code := some k21c1 }
/-- jdk/internal/util/Preconditions -/
def k21 : Class := { plain "jdk/internal/util/Preconditions" (some 0) with
  accessFlags := 33
  interfaces := #[]
  cf := some (fileOf pool21 24 #[.nestMembers #[55, 131, 125, 114]] #[{ accessFlags := 1, nameIndex := 5, descriptorIndex := 6, attributes := #[] }, { accessFlags := 9, nameIndex := 33, descriptorIndex := 178, attributes := #[] }] 33 2 #[] #[{ accessFlags := 25, nameIndex := 123, descriptorIndex := 124, attributes := #[] }, { accessFlags := 25, nameIndex := 130, descriptorIndex := 124, attributes := #[] }, { accessFlags := 25, nameIndex := 136, descriptorIndex := 124, attributes := #[] }])
  fields := #[{ name := "SIOOBE_FORMATTER", type := (.object "java/util/function/BiFunction"), accessFlags := 25, slot := 0, constantValue := 0 }, { name := "AIOOBE_FORMATTER", type := (.object "java/util/function/BiFunction"), accessFlags := 25, slot := 1, constantValue := 0 }, { name := "IOOBE_FORMATTER", type := (.object "java/util/function/BiFunction"), accessFlags := 25, slot := 2, constantValue := 0 }]
  methods := #[k21m0, k21m1]
  instanceTypes := #[]
  staticTypes := #[(.object "java/util/function/BiFunction"), (.object "java/util/function/BiFunction"), (.object "java/util/function/BiFunction")]
  resolved := Array.replicate 194 none
  statics := some 2 }

def pool22 : Array CpInfo := pool [(6, .class_ 8), (1, u "java/lang/Object"), (0, u "<init>"), (0, u "()V"), (1, .class_ 14), (1, u "java/lang/StringUTF16"), (31, u "$assertionsDisabled"), (0, u "Z"), (13, u "HI_BYTE_SHIFT"), (0, u "I"), (2, u "LO_BYTE_SHIFT"), (49, .methodref 12 116), (0, .nameAndType 117 118), (0, u "compress"), (0, u "([CI[BII)I"), (3, u "([CII)[B"), (138, u "coderFromArrayLen"), (0, u "([BI)B"), (106, .class_ 371), (1, u "java/lang/StringUTF16$LinesSpliterator"), (58, u "MAX_LENGTH"), (196, .class_ 628), (0, u "java/lang/StringUTF16$CodePointsSpliterator"), (0, .class_ 630), (0, u "java/lang/StringUTF16$CharsSpliterator")] 4

def k22m0 : Method := { name := "<init>", desc := "()V", sig := { parameters := [], returnType := none }, accessFlags := 0, code := none }
def k22c1 : Code := { maxStack := 2, maxLocals := 2, code := jdk_52_method_15_code, exceptionTable := #[], attributes := #[] }
def k22m1 : Method := { name := "coderFromArrayLen", desc := "([BI)B", sig := { parameters := [(.array .byte), .int], returnType := some .byte }, accessFlags := 8, code := some k22c1 }
def k22c2 : Code := { maxStack := 5, maxLocals := 6, code := jdk_52_method_16_code, exceptionTable := #[], attributes := #[] }
def k22m2 : Method := { name := "compress", desc := "([CII)[B", sig := { parameters := [(.array .char), .int, .int], returnType := some (.array .byte) }, accessFlags := 9, code := some k22c2 }
def k22c3 : Code := { maxStack := 3, maxLocals := 7, code := jdk_52_method_21_code, exceptionTable := #[], attributes := #[] }
def k22m3 : Method := { name := "compress", desc := "([CI[BII)I", sig := { parameters := [(.array .char), .int, (.array .byte), .int, .int], returnType := some .int }, accessFlags := 9, code := some k22c3 }
/-- java/lang/StringUTF16 -/
def k22 : Class := { plain "java/lang/StringUTF16" (some 0) with
  accessFlags := 48
  interfaces := #[]
  cf := some (fileOf pool22 12 #[.nestMembers #[627, 629, 369]] #[{ accessFlags := 0, nameIndex := 9, descriptorIndex := 10, attributes := #[] }, { accessFlags := 8, nameIndex := 261, descriptorIndex := 262, attributes := #[] }, { accessFlags := 9, nameIndex := 117, descriptorIndex := 122, attributes := #[] }, { accessFlags := 9, nameIndex := 117, descriptorIndex := 118, attributes := #[] }] 48 6 #[] #[{ accessFlags := 26, nameIndex := 61, descriptorIndex := 62, attributes := #[] }, { accessFlags := 26, nameIndex := 65, descriptorIndex := 62, attributes := #[] }, { accessFlags := 24, nameIndex := 430, descriptorIndex := 62, attributes := #[] }, { accessFlags := 4120, nameIndex := 46, descriptorIndex := 47, attributes := #[] }])
  fields := #[{ name := "HI_BYTE_SHIFT", type := .int, accessFlags := 26, slot := 0, constantValue := 0 }, { name := "LO_BYTE_SHIFT", type := .int, accessFlags := 26, slot := 1, constantValue := 0 }, { name := "MAX_LENGTH", type := .int, accessFlags := 24, slot := 2, constantValue := 0 }, { name := "$assertionsDisabled", type := .boolean, accessFlags := 4120, slot := 3, constantValue := 0 }]
  methods := #[k22m0, k22m1, k22m2, k22m3]
  instanceTypes := #[]
  staticTypes := #[.int, .int, .int, .boolean]
  resolved := Array.replicate 635 none
  statics := none }

def pool23 : Array CpInfo := pool [(9, u "<init>"), (6, .class_ 18), (1, u "java/lang/Object"), (0, u "()V"), (1, .class_ 23), (1, u "jdk/internal/util/ArraysSupport"), (0, u "LOG2_ARRAY_LONG_INDEX_SCALE"), (0, u "I"), (2, u "U"), (0, u "Ljdk/internal/misc/Unsafe;"), (8, u "BIG_ENDIAN"), (0, u "Z"), (8, u "LOG2_BYTE_BIT_SIZE"), (4, u "LOG2_ARRAY_INT_INDEX_SCALE"), (54, u "JLA"), (0, u "Ljdk/internal/access/JavaLangAccess;"), (11, u "LOG2_ARRAY_BOOLEAN_INDEX_SCALE"), (9, u "LOG2_ARRAY_BYTE_INDEX_SCALE"), (5, u "LOG2_ARRAY_CHAR_INDEX_SCALE"), (5, u "LOG2_ARRAY_SHORT_INDEX_SCALE"), (18, u "LOG2_ARRAY_FLOAT_INDEX_SCALE"), (24, u "LOG2_ARRAY_DOUBLE_INDEX_SCALE"), (89, u "T_BOOLEAN"), (2, u "T_CHAR"), (1, u "T_FLOAT"), (1, u "T_DOUBLE"), (1, u "T_BYTE"), (1, u "T_SHORT"), (1, u "T_INT"), (1, u "T_LONG"), (1, u "SOFT_MAX_ARRAY_LENGTH")] 83

def k23m0 : Method := { name := "<init>", desc := "()V", sig := { parameters := [], returnType := none }, accessFlags := 2, code := none }
/-- jdk/internal/util/ArraysSupport -/
def k23 : Class := { plain "jdk/internal/util/ArraysSupport" (some 0) with
  accessFlags := 33
  interfaces := #[]
  cf := some (fileOf pool23 21 #[] #[{ accessFlags := 2, nameIndex := 9, descriptorIndex := 19, attributes := #[] }] 33 16 #[] #[{ accessFlags := 24, nameIndex := 28, descriptorIndex := 29, attributes := #[] }, { accessFlags := 26, nameIndex := 38, descriptorIndex := 39, attributes := #[] }, { accessFlags := 25, nameIndex := 121, descriptorIndex := 25, attributes := #[] }, { accessFlags := 25, nameIndex := 131, descriptorIndex := 25, attributes := #[] }, { accessFlags := 25, nameIndex := 137, descriptorIndex := 25, attributes := #[] }, { accessFlags := 25, nameIndex := 143, descriptorIndex := 25, attributes := #[] }, { accessFlags := 25, nameIndex := 53, descriptorIndex := 25, attributes := #[] }, { accessFlags := 25, nameIndex := 24, descriptorIndex := 25, attributes := #[] }, { accessFlags := 25, nameIndex := 162, descriptorIndex := 25, attributes := #[] }, { accessFlags := 25, nameIndex := 187, descriptorIndex := 25, attributes := #[] }, { accessFlags := 26, nameIndex := 48, descriptorIndex := 25, attributes := #[] }, { accessFlags := 25, nameIndex := 277, descriptorIndex := 25, attributes := #[] }, { accessFlags := 25, nameIndex := 280, descriptorIndex := 25, attributes := #[] }, { accessFlags := 25, nameIndex := 282, descriptorIndex := 25, attributes := #[] }, { accessFlags := 25, nameIndex := 284, descriptorIndex := 25, attributes := #[] }, { accessFlags := 25, nameIndex := 286, descriptorIndex := 25, attributes := #[] }, { accessFlags := 25, nameIndex := 288, descriptorIndex := 25, attributes := #[] }, { accessFlags := 25, nameIndex := 290, descriptorIndex := 25, attributes := #[] }, { accessFlags := 25, nameIndex := 292, descriptorIndex := 25, attributes := #[] }, { accessFlags := 26, nameIndex := 108, descriptorIndex := 109, attributes := #[] }, { accessFlags := 25, nameIndex := 294, descriptorIndex := 25, attributes := #[] }])
  fields := #[{ name := "U", type := (.object "jdk/internal/misc/Unsafe"), accessFlags := 24, slot := 0, constantValue := 0 }, { name := "BIG_ENDIAN", type := .boolean, accessFlags := 26, slot := 1, constantValue := 0 }, { name := "LOG2_ARRAY_BOOLEAN_INDEX_SCALE", type := .int, accessFlags := 25, slot := 2, constantValue := 0 }, { name := "LOG2_ARRAY_BYTE_INDEX_SCALE", type := .int, accessFlags := 25, slot := 3, constantValue := 0 }, { name := "LOG2_ARRAY_CHAR_INDEX_SCALE", type := .int, accessFlags := 25, slot := 4, constantValue := 0 }, { name := "LOG2_ARRAY_SHORT_INDEX_SCALE", type := .int, accessFlags := 25, slot := 5, constantValue := 0 }, { name := "LOG2_ARRAY_INT_INDEX_SCALE", type := .int, accessFlags := 25, slot := 6, constantValue := 0 }, { name := "LOG2_ARRAY_LONG_INDEX_SCALE", type := .int, accessFlags := 25, slot := 7, constantValue := 0 }, { name := "LOG2_ARRAY_FLOAT_INDEX_SCALE", type := .int, accessFlags := 25, slot := 8, constantValue := 0 }, { name := "LOG2_ARRAY_DOUBLE_INDEX_SCALE", type := .int, accessFlags := 25, slot := 9, constantValue := 0 }, { name := "LOG2_BYTE_BIT_SIZE", type := .int, accessFlags := 26, slot := 10, constantValue := 0 }, { name := "T_BOOLEAN", type := .int, accessFlags := 25, slot := 11, constantValue := 0 }, { name := "T_CHAR", type := .int, accessFlags := 25, slot := 12, constantValue := 0 }, { name := "T_FLOAT", type := .int, accessFlags := 25, slot := 13, constantValue := 0 }, { name := "T_DOUBLE", type := .int, accessFlags := 25, slot := 14, constantValue := 0 }, { name := "T_BYTE", type := .int, accessFlags := 25, slot := 15, constantValue := 0 }, { name := "T_SHORT", type := .int, accessFlags := 25, slot := 16, constantValue := 0 }, { name := "T_INT", type := .int, accessFlags := 25, slot := 17, constantValue := 0 }, { name := "T_LONG", type := .int, accessFlags := 25, slot := 18, constantValue := 0 }, { name := "JLA", type := (.object "jdk/internal/access/JavaLangAccess"), accessFlags := 26, slot := 19, constantValue := 0 }, { name := "SOFT_MAX_ARRAY_LENGTH", type := .int, accessFlags := 25, slot := 20, constantValue := 0 }]
  methods := #[k23m0]
  instanceTypes := #[]
  staticTypes := #[(.object "jdk/internal/misc/Unsafe"), .boolean, .int, .int, .int, .int, .int, .int, .int, .int, .int, .int, .int, .int, .int, .int, .int, .int, .int, (.object "jdk/internal/access/JavaLangAccess"), .int]
  resolved := Array.replicate 378 none
  statics := none }

def pool24 : Array CpInfo := pool [(1, u "java/lang/Cloneable"), (0, .class_ 1), (0, u "java/lang/Object"), (0, .class_ 3)] 3

/-- java/lang/Cloneable -/
def k24 : Class := { plain "java/lang/Cloneable" (some 0) with
  accessFlags := 1537
  interfaces := #[]
  cf := some (fileOf pool24 2 #[] #[] 1537 4 #[] #[])
  fields := #[]
  methods := #[]
  instanceTypes := #[]
  staticTypes := #[]
  resolved := Array.replicate 8 none
  statics := none }

/-- the primitive byte -/
def k25 : Class := { plain "byte" none with kind := .primitive 'B', accessFlags := 0x411 }
/-- [B -/
def k26 : Class := { plain "[B" (some 0) with kind := .array 25 .byte, interfaces := #[24, 2], accessFlags := 1041 }

/-- the primitive char -/
def k27 : Class := { plain "char" none with kind := .primitive 'C', accessFlags := 0x411 }
/-- [C -/
def k28 : Class := { plain "[C" (some 0) with kind := .array 27 .char, interfaces := #[24, 2], accessFlags := 1041 }

/-- [Ljava/lang/Object; -/
def k29 : Class := { plain "[Ljava/lang/Object;" (some 0) with kind := .array 0 (.object "java/lang/Object"), interfaces := #[24, 2], accessFlags := 1041 }

def heap : Heap := #[{ cls := 7, slots := #[.long 0, .int 1, .null, .int 0, .null, .int 0, .int 0], vm := .statics 7 },
  { cls := 10, slots := #[.long 0, .int 0, .null, .null, .null, .null, .null, .ref 5, .int 0, .int 0], vm := .statics 10 },
  { cls := 21, slots := #[.null, .null, .null], vm := .statics 21 },
  { cls := 29, slots := #[], vm := .none },
  { cls := 23, slots := #[], vm := .none },
  { cls := 13, slots := #[.null, .null, .ref 3, .int 0], vm := .none }]
def classes : Array Class := #[k0, k1, k2, k3, k4, k5, k6, k7, k8, k9, k10, k11, k12, k13, k14, k15, k16, k17, k18, k19, k20, k21, k22, k23, k24, k25, k26, k27, k28, k29]
def interned : List (Array UInt16 × Addr) := []
def slotsUsed : Nat := 24
def theMethod : MethodId := ⟨1, 3⟩
def args0 : Array Value := #[.int 5, .int 6, .int 7, .int 8, .int 9]
def aboutOver (below : List Frame) : State where
  vm := { classes := classes, interned := interned.toArray }
  heap := heap
  slotsUsed := slotsUsed
  threads := #[{ frames := .invoking theMethod args0 :: below }]
def below0 : List Frame := [.native { method := ⟨0, 0⟩, args := #[] }]
def about1 : State := aboutOver below0
def p0 : Program := .bare "" "" ""
def e0 : Env := launch0.env 0 0 0
theorem w_frames : about1.frames = Frame.invoking theMethod args0 :: below0 := rfl
set_option maxRecDepth 65536 in
theorem w_args : argsFit about1.vm theMethod args0 = true := by decide +kernel
set_option maxRecDepth 65536 in
theorem w_heap : heapFits about1 = true := by decide +kernel
set_option maxRecDepth 65536 in
theorem w_runnable : about1.curStatus? = some .runnable := by decide +kernel
set_option maxRecDepth 65536 in
theorem w_alone : about1.alone = true := by decide +kernel
set_option maxRecDepth 65536 in
theorem w_named : about1.methodNamed? x = some theMethod := by decide +kernel
set_option maxRecDepth 65536 in
theorem w_hears : about1.hears theMethod below0 = true := by decide +kernel
set_option maxRecDepth 65536 in
theorem w_ripe : about1.ripe theMethod args0 below0 = true := by decide +kernel
theorem w_running : about1.status = .running := rfl
set_option maxRecDepth 65536 in
theorem w_room : about1.hasRoom e0.platform room_1 = true :=
  launch0.hasRoom_least _ room_1 (by decide +kernel) (by decide +kernel) (by decide +kernel) (by decide +kernel) (by decide +kernel) (by decide +kernel)
theorem allAtoms_all (ts : List Jvm.Cond) (a : Array Jvm.Value) (st : Jvm.State) : (allAtoms ts).before a st = ts.all (fun c => c.before a st) := by
  induction ts with
  | nil => rfl
  | cons c t ih =>
    show (Jvm.Cond.and c (allAtoms t)).before a st = _
    rw [Jvm.Cond.before_and, ih, List.all_cons]
def words1 : List Jvm.Cond := Jvm.Cond.code x code maxLocals ret :: tables_1
/-- a 'code' word, met by the world's own term for the bytes: nothing is compared byte by byte -/
theorem code_word {y : MethodName} {bytes : ByteArray} {mx : Nat} {rt : Option FieldType} {a : Array Value} {s : State} {m : MethodId} {meth : Method} {c : Code} (h1 : s.methodNamed? y = some m) (h2 : s.vm.method? m = some meth) (h3 : meth.code = some c) (h4 : c.code = bytes)
    (h5 : (c.maxLocals == mx && c.exceptionTable.isEmpty && decide (c.maxStack ≤ mostOperands) && decide (meth.sig.returnType = rt) && !meth.locks && decide (parseMethodDescriptor y.desc = some meth.sig)) = true) : (Jvm.Cond.code y bytes mx rt).before a s = true := by
  simp only [Bool.and_eq_true, beq_iff_eq, Bool.not_eq_true', decide_eq_true_eq] at h5
  obtain ⟨⟨⟨⟨⟨g1, g2⟩, g3⟩, g4⟩, g5⟩, g6⟩ := h5
  simp [Cond.before, Cond.holds, Cond.value, h1, h2, h3, h4, g1, g2, g3, g4, g5, g6]
def isCode : Jvm.Cond → Bool
  | .code _ _ _ _ => true
  | _ => false
theorem all_split {L : List Jvm.Cond} {P : Jvm.Cond → Bool} (h1 : L.all (fun c => isCode c || P c) = true) (h2 : ∀ c ∈ L.filter isCode, P c = true) : L.all P = true := by
  refine List.all_eq_true.mpr fun c hc => ?_
  have h := List.all_eq_true.mp h1 c hc
  rcases Bool.eq_false_or_eq_true (isCode c) with hi | hi
  · exact h2 c (List.mem_filter.mpr ⟨hc, hi⟩)
  · simpa [hi] using h
set_option maxRecDepth 65536 in
theorem w_c0 : (Jvm.Cond.code x code maxLocals ret).before args0 about1 = true := code_word (m := ⟨1, 3⟩) (meth := k1m3) (c := k1c3) (by decide +kernel) rfl rfl rfl (by decide +kernel)
set_option maxRecDepth 65536 in
theorem w_c1 : (Jvm.Cond.code ({ cls := "com/example/measured_flow/measuredflow/HttpRequestToStringPinLaw", name := "str", desc := "(ICC)Ljava/lang/String;" } : Jvm.MethodName) method_2_code (3 : Nat) (Option.some (Jvm.ClassFile.FieldType.object "java/lang/String"))).before args0 about1 = true := code_word (m := ⟨1, 1⟩) (meth := k1m1) (c := k1c1) (by decide +kernel) rfl rfl rfl (by decide +kernel)
set_option maxRecDepth 65536 in
theorem w_c2 : (Jvm.Cond.code ({ cls := "java/lang/String", name := "<init>", desc := "([C)V" } : Jvm.MethodName) jdk_42_method_3_code (2 : Nat) (Option.none : Option Jvm.ClassFile.FieldType)).before args0 about1 = true := code_word (m := ⟨7, 1⟩) (meth := k7m1) (c := k7c1) (by decide +kernel) rfl rfl rfl (by decide +kernel)
set_option maxRecDepth 65536 in
theorem w_c3 : (Jvm.Cond.code ({ cls := "java/lang/String", name := "<init>", desc := "([CIILjava/lang/Void;)V" } : Jvm.MethodName) jdk_42_method_149_code (6 : Nat) (Option.none : Option Jvm.ClassFile.FieldType)).before args0 about1 = true := code_word (m := ⟨7, 7⟩) (meth := k7m7) (c := k7c7) (by decide +kernel) rfl rfl rfl (by decide +kernel)
set_option maxRecDepth 65536 in
theorem w_c4 : (Jvm.Cond.code ({ cls := "java/lang/Object", name := "<init>", desc := "()V" } : Jvm.MethodName) object_method_1_code (1 : Nat) (Option.none : Option Jvm.ClassFile.FieldType)).before args0 about1 = true := code_word (m := ⟨0, 0⟩) (meth := k0m0) (c := k0c0) (by decide +kernel) rfl rfl rfl (by decide +kernel)
set_option maxRecDepth 65536 in
theorem w_c5 : (Jvm.Cond.code ({ cls := "java/util/Map", name := "of", desc := "()Ljava/util/Map;" } : Jvm.MethodName) jdk_72_method_26_code (0 : Nat) (Option.some (Jvm.ClassFile.FieldType.object "java/util/Map"))).before args0 about1 = true := code_word (m := ⟨9, 0⟩) (meth := k9m0) (c := k9c0) (by decide +kernel) rfl rfl rfl (by decide +kernel)
set_option maxRecDepth 65536 in
theorem w_c6 : (Jvm.Cond.code ({ cls := "com/example/measured_flow/measuredflow/HttpRequest", name := "<init>", desc := "(Ljava/lang/String;Ljava/lang/String;Ljava/util/Map;)V" } : Jvm.MethodName) prog_8_method_1_code (4 : Nat) (Option.none : Option Jvm.ClassFile.FieldType)).before args0 about1 = true := code_word (m := ⟨8, 0⟩) (meth := k8m0) (c := k8c0) (by decide +kernel) rfl rfl rfl (by decide +kernel)
set_option maxRecDepth 65536 in
theorem w_c7 : (Jvm.Cond.code ({ cls := "java/util/Map", name := "copyOf", desc := "(Ljava/util/Map;)Ljava/util/Map;" } : Jvm.MethodName) jdk_72_method_39_code (1 : Nat) (Option.some (Jvm.ClassFile.FieldType.object "java/util/Map"))).before args0 about1 = true := code_word (m := ⟨9, 1⟩) (meth := k9m1) (c := k9c1) (by decide +kernel) rfl rfl rfl (by decide +kernel)
set_option maxRecDepth 65536 in
theorem w_c8 : (Jvm.Cond.code ({ cls := "com/example/measured_flow/measuredflow/HttpRequest", name := "toString", desc := "()Ljava/lang/String;" } : Jvm.MethodName) prog_8_method_5_code (1 : Nat) (Option.some (Jvm.ClassFile.FieldType.object "java/lang/String"))).before args0 about1 = true := code_word (m := ⟨8, 1⟩) (meth := k8m1) (c := k8c1) (by decide +kernel) rfl rfl rfl (by decide +kernel)
set_option maxRecDepth 65536 in
theorem w_c9 : (Jvm.Cond.code ({ cls := "java/lang/StringBuilder", name := "<init>", desc := "()V" } : Jvm.MethodName) jdk_67_method_1_code (1 : Nat) (Option.none : Option Jvm.ClassFile.FieldType)).before args0 about1 = true := code_word (m := ⟨16, 0⟩) (meth := k16m0) (c := k16c0) (by decide +kernel) rfl rfl rfl (by decide +kernel)
set_option maxRecDepth 65536 in
theorem w_c10 : (Jvm.Cond.code ({ cls := "java/lang/AbstractStringBuilder", name := "<init>", desc := "(I)V" } : Jvm.MethodName) jdk_68_method_2_code (2 : Nat) (Option.none : Option Jvm.ClassFile.FieldType)).before args0 about1 = true := code_word (m := ⟨15, 1⟩) (meth := k15m1) (c := k15c1) (by decide +kernel) rfl rfl rfl (by decide +kernel)
set_option maxRecDepth 65536 in
theorem w_c11 : (Jvm.Cond.code ({ cls := "java/lang/StringBuilder", name := "append", desc := "(Ljava/lang/String;)Ljava/lang/StringBuilder;" } : Jvm.MethodName) jdk_67_method_7_code (2 : Nat) (Option.some (Jvm.ClassFile.FieldType.object "java/lang/StringBuilder"))).before args0 about1 = true := code_word (m := ⟨16, 1⟩) (meth := k16m1) (c := k16c1) (by decide +kernel) rfl rfl rfl (by decide +kernel)
set_option maxRecDepth 65536 in
theorem w_c12 : (Jvm.Cond.code ({ cls := "java/lang/AbstractStringBuilder", name := "append", desc := "(Ljava/lang/String;)Ljava/lang/AbstractStringBuilder;" } : Jvm.MethodName) jdk_68_method_22_code (3 : Nat) (Option.some (Jvm.ClassFile.FieldType.object "java/lang/AbstractStringBuilder"))).before args0 about1 = true := code_word (m := ⟨15, 4⟩) (meth := k15m4) (c := k15c4) (by decide +kernel) rfl rfl rfl (by decide +kernel)
set_option maxRecDepth 65536 in
theorem w_c13 : (Jvm.Cond.code ({ cls := "java/lang/String", name := "length", desc := "()I" } : Jvm.MethodName) jdk_42_method_54_code (1 : Nat) (Option.some Jvm.ClassFile.FieldType.int)).before args0 about1 = true := code_word (m := ⟨7, 3⟩) (meth := k7m3) (c := k7c3) (by decide +kernel) rfl rfl rfl (by decide +kernel)
set_option maxRecDepth 65536 in
theorem w_c14 : (Jvm.Cond.code ({ cls := "java/lang/String", name := "coder", desc := "()B" } : Jvm.MethodName) jdk_42_method_152_code (1 : Nat) (Option.some Jvm.ClassFile.FieldType.byte)).before args0 about1 = true := code_word (m := ⟨7, 10⟩) (meth := k7m10) (c := k7c10) (by decide +kernel) rfl rfl rfl (by decide +kernel)
set_option maxRecDepth 65536 in
theorem w_c15 : (Jvm.Cond.code ({ cls := "java/lang/AbstractStringBuilder", name := "ensureCapacityInternal", desc := "(I)V" } : Jvm.MethodName) jdk_68_method_9_code (3 : Nat) (Option.none : Option Jvm.ClassFile.FieldType)).before args0 about1 = true := code_word (m := ⟨15, 3⟩) (meth := k15m3) (c := k15c3) (by decide +kernel) rfl rfl rfl (by decide +kernel)
set_option maxRecDepth 65536 in
theorem w_c16 : (Jvm.Cond.code ({ cls := "java/lang/AbstractStringBuilder", name := "putStringAt", desc := "(ILjava/lang/String;)V" } : Jvm.MethodName) jdk_68_method_73_code (3 : Nat) (Option.none : Option Jvm.ClassFile.FieldType)).before args0 about1 = true := code_word (m := ⟨15, 8⟩) (meth := k15m8) (c := k15c8) (by decide +kernel) rfl rfl rfl (by decide +kernel)
set_option maxRecDepth 65536 in
theorem w_c17 : (Jvm.Cond.code ({ cls := "java/lang/AbstractStringBuilder", name := "inflateIfNeededFor", desc := "(Ljava/lang/String;)V" } : Jvm.MethodName) jdk_68_method_71_code (2 : Nat) (Option.none : Option Jvm.ClassFile.FieldType)).before args0 about1 = true := code_word (m := ⟨15, 7⟩) (meth := k15m7) (c := k15c7) (by decide +kernel) rfl rfl rfl (by decide +kernel)
set_option maxRecDepth 65536 in
theorem w_c18 : (Jvm.Cond.code ({ cls := "java/lang/String", name := "getBytes", desc := "([BIB)V" } : Jvm.MethodName) jdk_42_method_147_code (4 : Nat) (Option.none : Option Jvm.ClassFile.FieldType)).before args0 about1 = true := code_word (m := ⟨7, 6⟩) (meth := k7m6) (c := k7c6) (by decide +kernel) rfl rfl rfl (by decide +kernel)
set_option maxRecDepth 65536 in
theorem w_c19 : (Jvm.Cond.code ({ cls := "java/lang/StringBuilder", name := "toString", desc := "()Ljava/lang/String;" } : Jvm.MethodName) jdk_67_method_42_code (1 : Nat) (Option.some (Jvm.ClassFile.FieldType.object "java/lang/String"))).before args0 about1 = true := code_word (m := ⟨16, 2⟩) (meth := k16m2) (c := k16c2) (by decide +kernel) rfl rfl rfl (by decide +kernel)
set_option maxRecDepth 65536 in
theorem w_c20 : (Jvm.Cond.code ({ cls := "java/lang/String", name := "<init>", desc := "(Ljava/lang/StringBuilder;)V" } : Jvm.MethodName) jdk_42_method_53_code (2 : Nat) (Option.none : Option Jvm.ClassFile.FieldType)).before args0 about1 = true := code_word (m := ⟨7, 2⟩) (meth := k7m2) (c := k7c2) (by decide +kernel) rfl rfl rfl (by decide +kernel)
set_option maxRecDepth 65536 in
theorem w_c21 : (Jvm.Cond.code ({ cls := "java/lang/String", name := "<init>", desc := "(Ljava/lang/AbstractStringBuilder;Ljava/lang/Void;)V" } : Jvm.MethodName) jdk_42_method_150_code (5 : Nat) (Option.none : Option Jvm.ClassFile.FieldType)).before args0 about1 = true := code_word (m := ⟨7, 8⟩) (meth := k7m8) (c := k7c8) (by decide +kernel) rfl rfl rfl (by decide +kernel)
set_option maxRecDepth 65536 in
theorem w_c22 : (Jvm.Cond.code ({ cls := "java/lang/AbstractStringBuilder", name := "getValue", desc := "()[B" } : Jvm.MethodName) jdk_68_method_64_code (1 : Nat) (Option.some (Jvm.ClassFile.FieldType.array Jvm.ClassFile.FieldType.byte))).before args0 about1 = true := code_word (m := ⟨15, 5⟩) (meth := k15m5) (c := k15c5) (by decide +kernel) rfl rfl rfl (by decide +kernel)
set_option maxRecDepth 65536 in
theorem w_c23 : (Jvm.Cond.code ({ cls := "java/lang/StringBuilder", name := "length", desc := "()I" } : Jvm.MethodName) jdk_67_method_93_code (1 : Nat) (Option.some Jvm.ClassFile.FieldType.int)).before args0 about1 = true := code_word (m := ⟨16, 3⟩) (meth := k16m3) (c := k16c3) (by decide +kernel) rfl rfl rfl (by decide +kernel)
set_option maxRecDepth 65536 in
theorem w_c24 : (Jvm.Cond.code ({ cls := "java/lang/AbstractStringBuilder", name := "length", desc := "()I" } : Jvm.MethodName) jdk_68_method_6_code (1 : Nat) (Option.some Jvm.ClassFile.FieldType.int)).before args0 about1 = true := code_word (m := ⟨15, 2⟩) (meth := k15m2) (c := k15c2) (by decide +kernel) rfl rfl rfl (by decide +kernel)
set_option maxRecDepth 65536 in
theorem w_c25 : (Jvm.Cond.code ({ cls := "java/lang/AbstractStringBuilder", name := "isLatin1", desc := "()Z" } : Jvm.MethodName) jdk_68_method_68_code (1 : Nat) (Option.some Jvm.ClassFile.FieldType.boolean)).before args0 about1 = true := code_word (m := ⟨15, 6⟩) (meth := k15m6) (c := k15c6) (by decide +kernel) rfl rfl rfl (by decide +kernel)
set_option maxRecDepth 65536 in
theorem w_c26 : (Jvm.Cond.code ({ cls := "java/util/Arrays", name := "copyOfRange", desc := "([BII)[B" } : Jvm.MethodName) jdk_65_method_132_code (3 : Nat) (Option.some (Jvm.ClassFile.FieldType.array Jvm.ClassFile.FieldType.byte))).before args0 about1 = true := code_word (m := ⟨18, 2⟩) (meth := k18m2) (c := k18c2) (by decide +kernel) rfl rfl rfl (by decide +kernel)
set_option maxRecDepth 65536 in
theorem w_c27 : (Jvm.Cond.code ({ cls := "java/util/Arrays", name := "copyOfRangeByte", desc := "([BII)[B" } : Jvm.MethodName) jdk_65_method_133_code (5 : Nat) (Option.some (Jvm.ClassFile.FieldType.array Jvm.ClassFile.FieldType.byte))).before args0 about1 = true := code_word (m := ⟨18, 3⟩) (meth := k18m3) (c := k18c3) (by decide +kernel) rfl rfl rfl (by decide +kernel)
set_option maxRecDepth 65536 in
theorem w_c28 : (Jvm.Cond.code ({ cls := "java/util/Arrays", name := "checkLength", desc := "(II)V" } : Jvm.MethodName) jdk_65_method_131_code (2 : Nat) (Option.none : Option Jvm.ClassFile.FieldType)).before args0 about1 = true := code_word (m := ⟨18, 1⟩) (meth := k18m1) (c := k18c1) (by decide +kernel) rfl rfl rfl (by decide +kernel)
set_option maxRecDepth 65536 in
theorem w_c29 : (Jvm.Cond.code ({ cls := "java/lang/Math", name := "min", desc := "(II)I" } : Jvm.MethodName) jdk_29_method_69_code (2 : Nat) (Option.some Jvm.ClassFile.FieldType.int)).before args0 about1 = true := code_word (m := ⟨19, 1⟩) (meth := k19m1) (c := k19c1) (by decide +kernel) rfl rfl rfl (by decide +kernel)
set_option maxRecDepth 65536 in
theorem w_c30 : (Jvm.Cond.code ({ cls := "com/example/measured_flow/measuredflow/HttpRequestToStringPinLaw", name := "at", desc := "(Ljava/lang/String;[CII)Z" } : Jvm.MethodName) method_3_code (4 : Nat) (Option.some Jvm.ClassFile.FieldType.boolean)).before args0 about1 = true := code_word (m := ⟨1, 2⟩) (meth := k1m2) (c := k1c2) (by decide +kernel) rfl rfl rfl (by decide +kernel)
set_option maxRecDepth 65536 in
theorem w_c31 : (Jvm.Cond.code ({ cls := "java/lang/String", name := "charAt", desc := "(I)C" } : Jvm.MethodName) jdk_42_method_56_code (2 : Nat) (Option.some Jvm.ClassFile.FieldType.char)).before args0 about1 = true := code_word (m := ⟨7, 4⟩) (meth := k7m4) (c := k7c4) (by decide +kernel) rfl rfl rfl (by decide +kernel)
set_option maxRecDepth 65536 in
theorem w_c32 : (Jvm.Cond.code ({ cls := "java/lang/String", name := "isLatin1", desc := "()Z" } : Jvm.MethodName) jdk_42_method_154_code (1 : Nat) (Option.some Jvm.ClassFile.FieldType.boolean)).before args0 about1 = true := code_word (m := ⟨7, 11⟩) (meth := k7m11) (c := k7c11) (by decide +kernel) rfl rfl rfl (by decide +kernel)
set_option maxRecDepth 65536 in
theorem w_c33 : (Jvm.Cond.code ({ cls := "java/lang/StringLatin1", name := "charAt", desc := "([BI)C" } : Jvm.MethodName) jdk_43_method_2_code (2 : Nat) (Option.some Jvm.ClassFile.FieldType.char)).before args0 about1 = true := code_word (m := ⟨20, 1⟩) (meth := k20m1) (c := k20c1) (by decide +kernel) rfl rfl rfl (by decide +kernel)
set_option maxRecDepth 65536 in
theorem w_c34 : (Jvm.Cond.code ({ cls := "java/lang/String", name := "checkIndex", desc := "(II)V" } : Jvm.MethodName) jdk_42_method_155_code (2 : Nat) (Option.none : Option Jvm.ClassFile.FieldType)).before args0 about1 = true := code_word (m := ⟨7, 12⟩) (meth := k7m12) (c := k7c12) (by decide +kernel) rfl rfl rfl (by decide +kernel)
set_option maxRecDepth 65536 in
theorem w_c35 : (Jvm.Cond.code ({ cls := "jdk/internal/util/Preconditions", name := "checkIndex", desc := "(IILjava/util/function/BiFunction;)I" } : Jvm.MethodName) jdk_41_method_11_code (3 : Nat) (Option.some Jvm.ClassFile.FieldType.int)).before args0 about1 = true := code_word (m := ⟨21, 1⟩) (meth := k21m1) (c := k21c1) (by decide +kernel) rfl rfl rfl (by decide +kernel)
set_option maxRecDepth 65536 in
theorem w_c36 : (Jvm.Cond.code ({ cls := "java/lang/String", name := "valueOf", desc := "(C)Ljava/lang/String;" } : Jvm.MethodName) jdk_42_method_139_code (1 : Nat) (Option.some (Jvm.ClassFile.FieldType.object "java/lang/String"))).before args0 about1 = true := code_word (m := ⟨7, 5⟩) (meth := k7m5) (c := k7c5) (by decide +kernel) rfl rfl rfl (by decide +kernel)
set_option maxRecDepth 65536 in
theorem w_c37 : (Jvm.Cond.code ({ cls := "java/lang/StringLatin1", name := "canEncode", desc := "(C)Z" } : Jvm.MethodName) jdk_43_method_3_code (1 : Nat) (Option.some Jvm.ClassFile.FieldType.boolean)).before args0 about1 = true := code_word (m := ⟨20, 2⟩) (meth := k20m2) (c := k20c2) (by decide +kernel) rfl rfl rfl (by decide +kernel)
set_option maxRecDepth 65536 in
theorem w_c38 : (Jvm.Cond.code ({ cls := "java/lang/StringLatin1", name := "toBytes", desc := "(C)[B" } : Jvm.MethodName) jdk_43_method_46_code (1 : Nat) (Option.some (Jvm.ClassFile.FieldType.array Jvm.ClassFile.FieldType.byte))).before args0 about1 = true := code_word (m := ⟨20, 3⟩) (meth := k20m3) (c := k20c3) (by decide +kernel) rfl rfl rfl (by decide +kernel)
set_option maxRecDepth 65536 in
theorem w_c39 : (Jvm.Cond.code ({ cls := "java/lang/String", name := "<init>", desc := "([BB)V" } : Jvm.MethodName) jdk_42_method_151_code (3 : Nat) (Option.none : Option Jvm.ClassFile.FieldType)).before args0 about1 = true := code_word (m := ⟨7, 9⟩) (meth := k7m9) (c := k7c9) (by decide +kernel) rfl rfl rfl (by decide +kernel)
set_option maxRecDepth 65536 in
theorem w_c40 : (Jvm.Cond.code ({ cls := "java/lang/StringUTF16", name := "compress", desc := "([CII)[B" } : Jvm.MethodName) jdk_52_method_16_code (6 : Nat) (Option.some (Jvm.ClassFile.FieldType.array Jvm.ClassFile.FieldType.byte))).before args0 about1 = true := code_word (m := ⟨22, 2⟩) (meth := k22m2) (c := k22c2) (by decide +kernel) rfl rfl rfl (by decide +kernel)
set_option maxRecDepth 65536 in
theorem w_c41 : (Jvm.Cond.code ({ cls := "java/lang/StringUTF16", name := "compress", desc := "([CI[BII)I" } : Jvm.MethodName) jdk_52_method_21_code (7 : Nat) (Option.some Jvm.ClassFile.FieldType.int)).before args0 about1 = true := code_word (m := ⟨22, 3⟩) (meth := k22m3) (c := k22c3) (by decide +kernel) rfl rfl rfl (by decide +kernel)
set_option maxRecDepth 65536 in
theorem w_c42 : (Jvm.Cond.code ({ cls := "java/lang/StringUTF16", name := "coderFromArrayLen", desc := "([BI)B" } : Jvm.MethodName) jdk_52_method_15_code (2 : Nat) (Option.some Jvm.ClassFile.FieldType.byte)).before args0 about1 = true := code_word (m := ⟨22, 1⟩) (meth := k22m1) (c := k22c1) (by decide +kernel) rfl rfl rfl (by decide +kernel)
def codes1 : List Jvm.Cond := [Jvm.Cond.code x code maxLocals ret, Jvm.Cond.code ({ cls := "com/example/measured_flow/measuredflow/HttpRequestToStringPinLaw", name := "str", desc := "(ICC)Ljava/lang/String;" } : Jvm.MethodName) method_2_code (3 : Nat) (Option.some (Jvm.ClassFile.FieldType.object "java/lang/String")), Jvm.Cond.code ({ cls := "java/lang/String", name := "<init>", desc := "([C)V" } : Jvm.MethodName) jdk_42_method_3_code (2 : Nat) (Option.none : Option Jvm.ClassFile.FieldType), Jvm.Cond.code ({ cls := "java/lang/String", name := "<init>", desc := "([CIILjava/lang/Void;)V" } : Jvm.MethodName) jdk_42_method_149_code (6 : Nat) (Option.none : Option Jvm.ClassFile.FieldType), Jvm.Cond.code ({ cls := "java/lang/Object", name := "<init>", desc := "()V" } : Jvm.MethodName) object_method_1_code (1 : Nat) (Option.none : Option Jvm.ClassFile.FieldType), Jvm.Cond.code ({ cls := "java/util/Map", name := "of", desc := "()Ljava/util/Map;" } : Jvm.MethodName) jdk_72_method_26_code (0 : Nat) (Option.some (Jvm.ClassFile.FieldType.object "java/util/Map")), Jvm.Cond.code ({ cls := "com/example/measured_flow/measuredflow/HttpRequest", name := "<init>", desc := "(Ljava/lang/String;Ljava/lang/String;Ljava/util/Map;)V" } : Jvm.MethodName) prog_8_method_1_code (4 : Nat) (Option.none : Option Jvm.ClassFile.FieldType), Jvm.Cond.code ({ cls := "java/util/Map", name := "copyOf", desc := "(Ljava/util/Map;)Ljava/util/Map;" } : Jvm.MethodName) jdk_72_method_39_code (1 : Nat) (Option.some (Jvm.ClassFile.FieldType.object "java/util/Map")), Jvm.Cond.code ({ cls := "com/example/measured_flow/measuredflow/HttpRequest", name := "toString", desc := "()Ljava/lang/String;" } : Jvm.MethodName) prog_8_method_5_code (1 : Nat) (Option.some (Jvm.ClassFile.FieldType.object "java/lang/String")), Jvm.Cond.code ({ cls := "java/lang/StringBuilder", name := "<init>", desc := "()V" } : Jvm.MethodName) jdk_67_method_1_code (1 : Nat) (Option.none : Option Jvm.ClassFile.FieldType), Jvm.Cond.code ({ cls := "java/lang/AbstractStringBuilder", name := "<init>", desc := "(I)V" } : Jvm.MethodName) jdk_68_method_2_code (2 : Nat) (Option.none : Option Jvm.ClassFile.FieldType), Jvm.Cond.code ({ cls := "java/lang/StringBuilder", name := "append", desc := "(Ljava/lang/String;)Ljava/lang/StringBuilder;" } : Jvm.MethodName) jdk_67_method_7_code (2 : Nat) (Option.some (Jvm.ClassFile.FieldType.object "java/lang/StringBuilder")), Jvm.Cond.code ({ cls := "java/lang/AbstractStringBuilder", name := "append", desc := "(Ljava/lang/String;)Ljava/lang/AbstractStringBuilder;" } : Jvm.MethodName) jdk_68_method_22_code (3 : Nat) (Option.some (Jvm.ClassFile.FieldType.object "java/lang/AbstractStringBuilder")), Jvm.Cond.code ({ cls := "java/lang/String", name := "length", desc := "()I" } : Jvm.MethodName) jdk_42_method_54_code (1 : Nat) (Option.some Jvm.ClassFile.FieldType.int), Jvm.Cond.code ({ cls := "java/lang/String", name := "coder", desc := "()B" } : Jvm.MethodName) jdk_42_method_152_code (1 : Nat) (Option.some Jvm.ClassFile.FieldType.byte), Jvm.Cond.code ({ cls := "java/lang/AbstractStringBuilder", name := "ensureCapacityInternal", desc := "(I)V" } : Jvm.MethodName) jdk_68_method_9_code (3 : Nat) (Option.none : Option Jvm.ClassFile.FieldType), Jvm.Cond.code ({ cls := "java/lang/AbstractStringBuilder", name := "putStringAt", desc := "(ILjava/lang/String;)V" } : Jvm.MethodName) jdk_68_method_73_code (3 : Nat) (Option.none : Option Jvm.ClassFile.FieldType), Jvm.Cond.code ({ cls := "java/lang/AbstractStringBuilder", name := "inflateIfNeededFor", desc := "(Ljava/lang/String;)V" } : Jvm.MethodName) jdk_68_method_71_code (2 : Nat) (Option.none : Option Jvm.ClassFile.FieldType), Jvm.Cond.code ({ cls := "java/lang/String", name := "getBytes", desc := "([BIB)V" } : Jvm.MethodName) jdk_42_method_147_code (4 : Nat) (Option.none : Option Jvm.ClassFile.FieldType), Jvm.Cond.code ({ cls := "java/lang/StringBuilder", name := "toString", desc := "()Ljava/lang/String;" } : Jvm.MethodName) jdk_67_method_42_code (1 : Nat) (Option.some (Jvm.ClassFile.FieldType.object "java/lang/String")), Jvm.Cond.code ({ cls := "java/lang/String", name := "<init>", desc := "(Ljava/lang/StringBuilder;)V" } : Jvm.MethodName) jdk_42_method_53_code (2 : Nat) (Option.none : Option Jvm.ClassFile.FieldType), Jvm.Cond.code ({ cls := "java/lang/String", name := "<init>", desc := "(Ljava/lang/AbstractStringBuilder;Ljava/lang/Void;)V" } : Jvm.MethodName) jdk_42_method_150_code (5 : Nat) (Option.none : Option Jvm.ClassFile.FieldType), Jvm.Cond.code ({ cls := "java/lang/AbstractStringBuilder", name := "getValue", desc := "()[B" } : Jvm.MethodName) jdk_68_method_64_code (1 : Nat) (Option.some (Jvm.ClassFile.FieldType.array Jvm.ClassFile.FieldType.byte)), Jvm.Cond.code ({ cls := "java/lang/StringBuilder", name := "length", desc := "()I" } : Jvm.MethodName) jdk_67_method_93_code (1 : Nat) (Option.some Jvm.ClassFile.FieldType.int), Jvm.Cond.code ({ cls := "java/lang/AbstractStringBuilder", name := "length", desc := "()I" } : Jvm.MethodName) jdk_68_method_6_code (1 : Nat) (Option.some Jvm.ClassFile.FieldType.int), Jvm.Cond.code ({ cls := "java/lang/AbstractStringBuilder", name := "isLatin1", desc := "()Z" } : Jvm.MethodName) jdk_68_method_68_code (1 : Nat) (Option.some Jvm.ClassFile.FieldType.boolean), Jvm.Cond.code ({ cls := "java/util/Arrays", name := "copyOfRange", desc := "([BII)[B" } : Jvm.MethodName) jdk_65_method_132_code (3 : Nat) (Option.some (Jvm.ClassFile.FieldType.array Jvm.ClassFile.FieldType.byte)), Jvm.Cond.code ({ cls := "java/util/Arrays", name := "copyOfRangeByte", desc := "([BII)[B" } : Jvm.MethodName) jdk_65_method_133_code (5 : Nat) (Option.some (Jvm.ClassFile.FieldType.array Jvm.ClassFile.FieldType.byte)), Jvm.Cond.code ({ cls := "java/util/Arrays", name := "checkLength", desc := "(II)V" } : Jvm.MethodName) jdk_65_method_131_code (2 : Nat) (Option.none : Option Jvm.ClassFile.FieldType), Jvm.Cond.code ({ cls := "java/lang/Math", name := "min", desc := "(II)I" } : Jvm.MethodName) jdk_29_method_69_code (2 : Nat) (Option.some Jvm.ClassFile.FieldType.int), Jvm.Cond.code ({ cls := "com/example/measured_flow/measuredflow/HttpRequestToStringPinLaw", name := "at", desc := "(Ljava/lang/String;[CII)Z" } : Jvm.MethodName) method_3_code (4 : Nat) (Option.some Jvm.ClassFile.FieldType.boolean), Jvm.Cond.code ({ cls := "java/lang/String", name := "charAt", desc := "(I)C" } : Jvm.MethodName) jdk_42_method_56_code (2 : Nat) (Option.some Jvm.ClassFile.FieldType.char), Jvm.Cond.code ({ cls := "java/lang/String", name := "isLatin1", desc := "()Z" } : Jvm.MethodName) jdk_42_method_154_code (1 : Nat) (Option.some Jvm.ClassFile.FieldType.boolean), Jvm.Cond.code ({ cls := "java/lang/StringLatin1", name := "charAt", desc := "([BI)C" } : Jvm.MethodName) jdk_43_method_2_code (2 : Nat) (Option.some Jvm.ClassFile.FieldType.char), Jvm.Cond.code ({ cls := "java/lang/String", name := "checkIndex", desc := "(II)V" } : Jvm.MethodName) jdk_42_method_155_code (2 : Nat) (Option.none : Option Jvm.ClassFile.FieldType), Jvm.Cond.code ({ cls := "jdk/internal/util/Preconditions", name := "checkIndex", desc := "(IILjava/util/function/BiFunction;)I" } : Jvm.MethodName) jdk_41_method_11_code (3 : Nat) (Option.some Jvm.ClassFile.FieldType.int), Jvm.Cond.code ({ cls := "java/lang/String", name := "valueOf", desc := "(C)Ljava/lang/String;" } : Jvm.MethodName) jdk_42_method_139_code (1 : Nat) (Option.some (Jvm.ClassFile.FieldType.object "java/lang/String")), Jvm.Cond.code ({ cls := "java/lang/StringLatin1", name := "canEncode", desc := "(C)Z" } : Jvm.MethodName) jdk_43_method_3_code (1 : Nat) (Option.some Jvm.ClassFile.FieldType.boolean), Jvm.Cond.code ({ cls := "java/lang/StringLatin1", name := "toBytes", desc := "(C)[B" } : Jvm.MethodName) jdk_43_method_46_code (1 : Nat) (Option.some (Jvm.ClassFile.FieldType.array Jvm.ClassFile.FieldType.byte)), Jvm.Cond.code ({ cls := "java/lang/String", name := "<init>", desc := "([BB)V" } : Jvm.MethodName) jdk_42_method_151_code (3 : Nat) (Option.none : Option Jvm.ClassFile.FieldType), Jvm.Cond.code ({ cls := "java/lang/StringUTF16", name := "compress", desc := "([CII)[B" } : Jvm.MethodName) jdk_52_method_16_code (6 : Nat) (Option.some (Jvm.ClassFile.FieldType.array Jvm.ClassFile.FieldType.byte)), Jvm.Cond.code ({ cls := "java/lang/StringUTF16", name := "compress", desc := "([CI[BII)I" } : Jvm.MethodName) jdk_52_method_21_code (7 : Nat) (Option.some Jvm.ClassFile.FieldType.int), Jvm.Cond.code ({ cls := "java/lang/StringUTF16", name := "coderFromArrayLen", desc := "([BI)B" } : Jvm.MethodName) jdk_52_method_15_code (2 : Nat) (Option.some Jvm.ClassFile.FieldType.byte)]
set_option maxRecDepth 65536 in
theorem codes_eq : words1.filter isCode = codes1 := rfl
theorem w_codes : ∀ c ∈ words1.filter isCode, c.before args0 about1 = true := by
  rw [codes_eq]
  intro c hc
  simp only [codes1, List.mem_cons, List.not_mem_nil, or_false] at hc
  rcases hc with rfl | rfl | rfl | rfl | rfl | rfl | rfl | rfl | rfl | rfl | rfl | rfl | rfl | rfl | rfl | rfl | rfl | rfl | rfl | rfl | rfl | rfl | rfl | rfl | rfl | rfl | rfl | rfl | rfl | rfl | rfl | rfl | rfl | rfl | rfl | rfl | rfl | rfl | rfl | rfl | rfl | rfl | rfl
  · exact w_c0
  · exact w_c1
  · exact w_c2
  · exact w_c3
  · exact w_c4
  · exact w_c5
  · exact w_c6
  · exact w_c7
  · exact w_c8
  · exact w_c9
  · exact w_c10
  · exact w_c11
  · exact w_c12
  · exact w_c13
  · exact w_c14
  · exact w_c15
  · exact w_c16
  · exact w_c17
  · exact w_c18
  · exact w_c19
  · exact w_c20
  · exact w_c21
  · exact w_c22
  · exact w_c23
  · exact w_c24
  · exact w_c25
  · exact w_c26
  · exact w_c27
  · exact w_c28
  · exact w_c29
  · exact w_c30
  · exact w_c31
  · exact w_c32
  · exact w_c33
  · exact w_c34
  · exact w_c35
  · exact w_c36
  · exact w_c37
  · exact w_c38
  · exact w_c39
  · exact w_c40
  · exact w_c41
  · exact w_c42
set_option maxRecDepth 65536 in
theorem w_t1 : (words1.take 24).all (fun c => isCode c || c.before args0 about1) = true := by decide +kernel
set_option maxRecDepth 65536 in
theorem w_t2 : ((words1.drop 24).take 24).all (fun c => isCode c || c.before args0 about1) = true := by decide +kernel
set_option maxRecDepth 65536 in
theorem w_t3 : (((words1.drop 24).drop 24).take 24).all (fun c => isCode c || c.before args0 about1) = true := by decide +kernel
set_option maxRecDepth 65536 in
theorem w_t4 : ((((words1.drop 24).drop 24).drop 24).take 24).all (fun c => isCode c || c.before args0 about1) = true := by decide +kernel
set_option maxRecDepth 65536 in
theorem w_t5 : (((((words1.drop 24).drop 24).drop 24).drop 24).take 24).all (fun c => isCode c || c.before args0 about1) = true := by decide +kernel
set_option maxRecDepth 65536 in
theorem w_t6 : ((((((words1.drop 24).drop 24).drop 24).drop 24).drop 24).take 24).all (fun c => isCode c || c.before args0 about1) = true := by decide +kernel
set_option maxRecDepth 65536 in
theorem w_t7 : (((((((words1.drop 24).drop 24).drop 24).drop 24).drop 24).drop 24).take 24).all (fun c => isCode c || c.before args0 about1) = true := by decide +kernel
set_option maxRecDepth 65536 in
theorem w_t8 : ((((((((words1.drop 24).drop 24).drop 24).drop 24).drop 24).drop 24).drop 24).take 24).all (fun c => isCode c || c.before args0 about1) = true := by decide +kernel
set_option maxRecDepth 65536 in
theorem w_t9 : (((((((((words1.drop 24).drop 24).drop 24).drop 24).drop 24).drop 24).drop 24).drop 24).take 24).all (fun c => isCode c || c.before args0 about1) = true := by decide +kernel
set_option maxRecDepth 65536 in
theorem w_t10 : (((((((((words1.drop 24).drop 24).drop 24).drop 24).drop 24).drop 24).drop 24).drop 24).drop 24).all (fun c => isCode c || c.before args0 about1) = true := by decide +kernel
theorem w_tables : (allAtoms (Jvm.Cond.code x code maxLocals ret :: tables_1)).before args0 about1 = true := by
  rw [allAtoms_all]
  show words1.all (fun c => c.before args0 about1) = true
  refine all_split ?_ w_codes
  rw [← List.take_append_drop 24 words1, List.all_append, w_t1, ← List.take_append_drop 24 (words1.drop 24), List.all_append, w_t2, ← List.take_append_drop 24 ((words1.drop 24).drop 24), List.all_append, w_t3, ← List.take_append_drop 24 (((words1.drop 24).drop 24).drop 24), List.all_append, w_t4, ← List.take_append_drop 24 ((((words1.drop 24).drop 24).drop 24).drop 24), List.all_append, w_t5, ← List.take_append_drop 24 (((((words1.drop 24).drop 24).drop 24).drop 24).drop 24), List.all_append, w_t6, ← List.take_append_drop 24 ((((((words1.drop 24).drop 24).drop 24).drop 24).drop 24).drop 24), List.all_append, w_t7, ← List.take_append_drop 24 (((((((words1.drop 24).drop 24).drop 24).drop 24).drop 24).drop 24).drop 24), List.all_append, w_t8, ← List.take_append_drop 24 ((((((((words1.drop 24).drop 24).drop 24).drop 24).drop 24).drop 24).drop 24).drop 24), List.all_append, w_t9, w_t10]
  rfl
set_option maxRecDepth 65536 in
theorem w_rest : rest_1_c.before args0 about1 = true := by decide +kernel
set_option maxRecDepth 65536 in
theorem w_case : (Jvm.Cond.and given_1 narrow_1).before args0 about1 = true := by decide +kernel
set_option maxRecDepth 65536 in
theorem w_consts : constsHeld consts_1 about1 := Jvm.Lit.constsHeldB_iff.mp (by decide +kernel)
theorem w_applies : (headSpec (Jvm.Cond.code x code maxLocals ret :: tables_1) room_1).applies x e0.platform about1 = true :=
  (Spec.applies_iff w_frames).mpr ⟨w_running, w_runnable, w_alone, w_named, w_hears, w_ripe, w_room, w_tables⟩
theorem atStart : AtStart classFile x code maxLocals ret World_1 tables_1 room_1 Calls_1 rest_1 Pre_1 launch0 p0 e0 about1 theMethod args0 below0 :=
  ⟨lists_1, trivial, launch0.admits_env _ _ _, launch0.least_env, fairChoices_fair.cas, fairChoices_fair.clock, w_frames, w_args, w_heap, w_applies, ⟨w_consts, trivial⟩, w_rest, w_case⟩
end start1
theorem witness_1 : WitnessClaimed_1 := ⟨start1.p0, start1.e0, start1.about1, start1.theMethod, start1.args0, start1.below0, start1.atStart⟩
end Jvm.Pilot.@@N@@
