import JvmDerived
import JvmDerived.Pilot.@@N@@Statement
import JvmDerived.Pilot.@@N@@Code
set_option linter.unusedVariables false
set_option linter.unusedSimpArgs false

namespace Jvm.Pilot.@@N@@
open Jvm Jvm.ClassFile Sem Op Lib Jvm.Free Jvm.Stand Jvm.LawKit Jvm.RoadKit Bundle Jvm.Pilot.@@N@@.Jvm.D

theorem own_onn {i : Nat} (h : i < 2147483648) : ¬ Int32.ofNat i < 0 := by
  rw [Int32.lt_iff_toInt_lt, Int32.toInt_ofNat_small h, Int32.toInt_zero]; omega
theorem own_oi {i : Nat} (h : i < 2147483648) : (Int32.ofNat i).toNatClampNeg = i := by
  have q := nat_of (own_onn h)
  rw [Int32.toInt_ofNat_small h] at q; omega

def litCs : List (String × Nat × String) := [("com/example/mthd/mthd/model/FieldHoldsStringsPinLaw", 21, "f"), ("com/example/mthd/mthd/model/ApiMessage$Field", 30, "repeated string"), ("com/example/mthd/mthd/model/ApiMessage$Field", 32, "string")]
theorem lit0_in : ("com/example/mthd/mthd/model/FieldHoldsStringsPinLaw", 21, "f") ∈ litCs := List.mem_of_getElem? (i := 0) rfl
theorem lit0_one : ∀ q ∈ litCs, q.2.2 = "f" → q = ("com/example/mthd/mthd/model/FieldHoldsStringsPinLaw", 21, "f") := by decide +kernel
theorem lit0_lat : ∀ c ∈ "f".toList, c.toNat < 256 := by decide +kernel
theorem lit0_len : "f".toList.length < 2147483648 := by decide +kernel
theorem lit0_sz : 4 * "f".toList.length ≤ 4 := by decide +kernel
theorem lit1_in : ("com/example/mthd/mthd/model/ApiMessage$Field", 30, "repeated string") ∈ litCs := List.mem_of_getElem? (i := 1) rfl
theorem lit1_one : ∀ q ∈ litCs, q.2.2 = "repeated string" → q = ("com/example/mthd/mthd/model/ApiMessage$Field", 30, "repeated string") := by decide +kernel
theorem lit1_lat : ∀ c ∈ "repeated string".toList, c.toNat < 256 := by decide +kernel
theorem lit1_len : "repeated string".toList.length < 2147483648 := by decide +kernel
theorem lit1_sz : 4 * "repeated string".toList.length ≤ 60 := by decide +kernel
theorem lit2_in : ("com/example/mthd/mthd/model/ApiMessage$Field", 32, "string") ∈ litCs := List.mem_of_getElem? (i := 2) rfl
theorem lit2_one : ∀ q ∈ litCs, q.2.2 = "string" → q = ("com/example/mthd/mthd/model/ApiMessage$Field", 32, "string") := by decide +kernel
theorem lit2_lat : ∀ c ∈ "string".toList, c.toNat < 256 := by decide +kernel
theorem lit2_len : "string".toList.length < 2147483648 := by decide +kernel
theorem lit2_sz : 4 * "string".toList.length ≤ 24 := by decide +kernel

section OwnLit
/-- the bytes of a literal's text -/
def litI (text : String) : List Int32 := text.toList.map fun c => Jvm.Lit.byteI c.toNat.toUInt16
def litB (text : String) : List Value := (litI text).map Value.int
theorem litI_len (text : String) : (litI text).length = text.toList.length := List.length_map ..
theorem litB_eq (text : String) : litB text = text.toList.map fun c => Value.int (Jvm.Lit.byteI c.toNat.toUInt16) := List.map_map ..
/-- the String at a says the text, her bytes lie at t -/
def Says (Z : State) (h : Heap) (a t : Addr) (k : ClassId) (text : String) : Prop :=
  Exa Z h a "java/lang/String" ∧ Fld Z h a "java/lang/String" "coder" "B" (.int 0) ∧ Fld Z h a "java/lang/String" "value" "[B" (.ref t) ∧ Arv Z h t k .byte (Int32.ofNat (litI text).length) ((litI text).map Value.int) (.int 0)
theorem Says.ext {Z : State} {h h' : Heap} {a t : Addr} {k : ClassId} {text : String} (S : Says Z h a t k text) (E : Ext h h') : Says Z h' a t k text := ⟨S.1.ext E, S.2.1.ext E, S.2.2.1.ext E, S.2.2.2.ext E⟩
theorem Says.other {Z : State} {h h' : Heap} {a t x : Addr} {k : ClassId} {text : String} {sl : Nat} {v : Value} (S : Says Z h a t k text) (W : Wr h h' x sl v) (q1 : a ≠ x) (q2 : t ≠ x) : Says Z h' a t k text := ⟨S.1.wr W, S.2.1.other W (Or.inl q1), S.2.2.1.other W (Or.inl q1), S.2.2.2.other W q2⟩
theorem Says.keep {Z : State} {h h' : Heap} {a t : Addr} {ws : List Addr} {k : ClassId} {text : String} (S : Says Z h a t k text) (K : Keep h h' ws) (q1 : a ∉ ws) (q2 : t ∉ ws) : Says Z h' a t k text := ⟨S.1.keep K, S.2.1.keep K q1, S.2.2.1.keep K q1, S.2.2.2.keep K q2⟩
/-- what the case assumes of the literals: whatever the JVM holds already says its text; compact strings are on -/
def LH (Z : State) : Prop := (∀ q ∈ litCs, Jvm.Lit.constHeld Z q.1 q.2.1) ∧ ∀ a0, Jvm.Lit.compactW.before a0 Z = true
/-- what holds of the literals all along: those loaded since the start are booked, say their texts, and lie apart from ms, the objects that are still written -/
def Hd (Z : State) (ms : List Addr) (vm : Vm) (h : Heap) : Prop :=
  LH Z ∧ Ext Z.heap h ∧ (∀ x ∈ ms, Z.heap.size ≤ x ∧ x < h.size) ∧ ∃ Ts, IB Z vm Ts ∧ ∀ q ∈ litCs, q.2.2 ∉ Ts ∨ ∃ a t k, Lit (Z.setVm vm) q.1 q.2.1 a ∧ Says Z h a t k q.2.2 ∧ a ∉ ms ∧ t ∉ ms
theorem Hd.start {Z : State} (A : LH Z) : Hd Z [] Z.vm Z.heap := ⟨A, ⟨Nat.le_refl _, fun _ _ q => q⟩, fun x hx => (nomatch hx), [], IB.start, fun q hq => Or.inl (fun z => (nomatch z))⟩
variable {Z b : State} {ms ms' ws : List Addr} {h h' : Heap} {vm vm' : Vm} {x : Addr} {sl : Nat} {v : Value}
theorem Hd.warm (J : Hd Z ms b.vm h) (q : b.WarmedH vm') : Hd Z ms vm' h := by
  obtain ⟨A, E, M, Ts, ⟨more, e, hm⟩, L⟩ := J
  refine ⟨A, E, M, Ts, ⟨more, q.interned_eq.trans e, hm⟩, fun c hc => (L c hc).imp id fun ⟨a, t, k, l, r⟩ => ⟨a, t, k, ?_, r⟩⟩
  exact State.resolvedAt?_warmed39 (s := b) q.wide l
theorem Hd.ext (J : Hd Z ms vm h) (E' : Ext h h') : Hd Z ms vm h' := by
  obtain ⟨A, E, M, Ts, I, L⟩ := J
  exact ⟨A, ⟨Nat.le_trans E.1 E'.1, fun a c q => E'.2 a c (E.2 a c q)⟩, fun y hy => ⟨(M y hy).1, Nat.lt_of_lt_of_le (M y hy).2 E'.1⟩, Ts, I, fun c hc => (L c hc).imp id fun ⟨a, t, k, l, s, r⟩ => ⟨a, t, k, l, s.ext E', r⟩⟩
theorem Hd.add (J : Hd Z ms vm h) (E' : Ext h h') (q : x = h.size) (q' : x < h'.size) : Hd Z (x :: ms) vm h' := by
  obtain ⟨A, E, M, Ts, I, L⟩ := J
  refine ⟨A, ⟨Nat.le_trans E.1 E'.1, fun a c r => E'.2 a c (E.2 a c r)⟩, fun y hy => ?_, Ts, I, fun c hc => (L c hc).imp id fun ⟨a, t, k, l, s, r1, r2⟩ => ⟨a, t, k, l, s.ext E', ?_, ?_⟩⟩
  · rcases List.mem_cons.mp hy with rfl | hy
    · exact ⟨q ▸ E.1, q'⟩
    · exact ⟨(M y hy).1, Nat.lt_of_lt_of_le (M y hy).2 E'.1⟩
  · exact ninS (fun z => absurd s.1.lt (by rw [z, q]; exact Nat.lt_irrefl _)) r1
  · exact ninS (fun z => absurd s.2.2.2.lt (by rw [z, q]; exact Nat.lt_irrefl _)) r2
theorem Hd.keep (J : Hd Z ms vm h) (K : Keep h h' ws) (q : ∀ x ∈ ws, x ∈ ms) : Hd Z ms vm h' := by
  obtain ⟨A, E, M, Ts, I, L⟩ := J
  refine ⟨A, ⟨Nat.le_trans E.1 K.1, fun a c r => K.2.1 a c (E.2 a c r) fun z => ?_⟩, fun y hy => ⟨(M y hy).1, Nat.lt_of_lt_of_le (M y hy).2 K.1⟩, Ts, I, fun c hc => (L c hc).imp id fun ⟨a, t, k, l, s, r1, r2⟩ => ⟨a, t, k, l, s.keep K (fun z => r1 (q _ z)) (fun z => r2 (q _ z)), r1, r2⟩⟩
  exact absurd (Array.getElem?_eq_some_iff.mp r).1 (Nat.not_lt.mpr (M _ (q _ z)).1)
theorem Hd.wr (J : Hd Z ms vm h) (W : Wr h h' x sl v) (q : x ∈ ms) : Hd Z ms vm h' := J.keep (Keep.of_wr W) (fun y hy => by cases List.mem_singleton.mp hy; exact q)
theorem Hd.sub (J : Hd Z ms vm h) (q : ∀ x ∈ ms', x ∈ ms) : Hd Z ms' vm h := by
  obtain ⟨A, E, M, Ts, I, L⟩ := J
  exact ⟨A, E, fun y hy => M y (q y hy), Ts, I, fun c hc => (L c hc).imp id fun ⟨a, t, k, l, s, r1, r2⟩ => ⟨a, t, k, l, s, fun z => r1 (q _ z), fun z => r2 (q _ z)⟩⟩
theorem Hd.nms {t : Addr} (J : Hd Z ms vm h) (q : h.size ≤ t) : t ∉ ms := fun z => absurd (J.2.2.1 t z).2 (Nat.not_lt.mpr q)
/-- what the law of the cold load hands out, said of the start's tables -/
theorem slin_says {T' : State} {lo hi : Nat} {a : Addr} {units : Array UInt16} {text : String} (hal : Z.vm.Alike T'.vm) (hin : SlIn lo hi T' a units) (htext : utf16ToString? units = some text) (hl : ∀ c ∈ text.toList, c.toNat < 256) (hsz : text.toList.length < 2147483648) :
    ∃ t k, Says Z T'.heap a t k text ∧ ((a < lo ∧ t < lo) ∨ (hi ≤ a ∧ hi ≤ t)) := by
  obtain ⟨q, cS, rfl, ⟨⟨s1, s2, s3, ⟨cv, kv, iv, s4, s4'⟩, ⟨cc, kc, ic, s5, s5'⟩, s6, s7, s8, s9, s10, ⟨t1, t2, t3, t4, t5⟩, s12, s13, s14, s15, s16⟩, fS, eS⟩, ⟨kS, k1, k2, k3⟩, fB, hby, hloc⟩ := hin
  obtain ⟨kv', z4⟩ := ff_back hal s4
  obtain ⟨kc', z5⟩ := ff_back hal s5
  have fZ : Z.vm.findClass "java/lang/String" = some q.sC.cls := by rw [← hal.findClass, eS]; exact fS
  obtain ⟨kz, hz, -⟩ := Vm.findClass_spec fZ
  obtain ⟨kz', hz', ez⟩ := hal.2.2 _ _ hz
  have e1 : kz' = kS := Option.some.inj (hz'.symm.trans (eS ▸ k1))
  have bZ : Z.vm.findClass "[B" = some q.SA.cls := by rw [← hal.findClass]; exact fB
  obtain ⟨kb, hb, -⟩ := Vm.findClass_spec bZ
  obtain ⟨kb', hb', eb⟩ := hal.2.2 _ _ hb
  have e2 : t2 = kb' := Option.some.inj (t3.symm.trans hb')
  have hA : Z.isArrayOf q.SA .byte := ⟨t1, kb, hb, t4, by rw [e2, eb] at t5; exact t5⟩
  have hu := Jvm.ClassFile.units_of_text htext hl
  have hlat := Jvm.ClassFile.lat_of_text htext hl
  have hsl : q.SA.slots = units.map fun u => Value.int (Jvm.Lit.byteI u) := by rw [hby, Jvm.Free.SBG.stringBytes_lat hlat]; rfl
  have hlb : litB text = units.toList.map fun u => Value.int (Jvm.Lit.byteI u) := by rw [hu, litB_eq, List.map_map]; rfl
  have hn : q.SA.slots.size = text.toList.length := by
    have r := congrArg List.length hu
    rw [hsl, Array.size_map]; simpa using r
  have H : Has q.SA (litB text) (.int 0) := fun j hj => by
    have hj' : j < units.size := by rw [hsl, Array.size_map] at hj; exact hj
    rw [hsl, hlb]; simp [hj']
  refine ⟨q.sd, q.SA.cls, ⟨⟨q.sC, kz, s1, fZ, hz, s3, fun _ => by rw [k3, ← e1, ez]⟩, ⟨q.sC, cc, kc', ic, q.fSC, s1, z5, s7, s2, s3, by rw [← hal.assignable]; exact s5', s9⟩, ⟨q.sC, cv, kv', iv, q.fSV, s1, z4, s6, s2, s3, by rw [← hal.assignable]; exact s4', s8⟩,
    ⟨q.SA, ⟨s10, hA, s12⟩, rfl, by rw [hn, litI_len, own_oi hsz], by rw [litI_len]; exact own_onn hsz, H, fun j hj => ?_⟩⟩, hloc⟩
  have r1 := s16 j hj
  rw [Jvm.Free.SBG.getD_of (H j hj)] at r1
  exact r1
end OwnLit

section OwnKit
variable {p : Program} {l : Launch} {e : Env} {R : Room} {s b : State} {m : MethodId} {args : Array Value} {below : List Frame} {meth : Method} {c : Code} {T T' : State} {locs : List Loc} {cells slots : Nat} {Z : State} {a0 : Array Value} {h h' : Heap} {K N : Nat} {Q : Option Value → Vm → Heap → List Loc → Prop} {g g' : JFrame} {ms : List Addr}
/-- from the frame g over T the body comes to its end, and there Q holds (the end in the wide sense: literals may have been loaded) -/
def Go (p : Program) (e : Env) (s : State) (below : List Frame) (K N : Nat) (J : Vm → Heap → Prop) (Q : Option Value → Vm → Heap → List Loc → Prop) (T : State) (g : JFrame) : Prop :=
  ∃ s₂ o, Steps p.tables e below (T.setTop g) s₂ ∧ s₂.status = .running ∧ Ended s₂ below o ∧ ∃ v L, o = .returned v ∧ Q v s₂.vm s₂.heap L ∧ J s₂.vm s₂.heap ∧ ReturnedEndW s o s₂ L K N
theorem Go.of {J : Vm → Heap → Prop} (st : ∀ t, Steps p.tables e below (T'.setTop g') t → Steps p.tables e below (T.setTop g) t) (q : Go p e s below K N J Q T' g') : Go p e s below K N J Q T g := by
  obtain ⟨s2, o, h1, r⟩ := q
  exact ⟨s2, o, st _ h1, r⟩
theorem own_go0 {J : Vm → Heap → Prop} {as' : Array Value} {n : Nat} {ls : Array Slot} (q : argsToLocals as' n = ls) (r : Go p e s below K N J Q T (mkF m 0 ls [])) : Go p e s below K N J Q T (entryFrame m as' n) := by subst q; exact r
/-- two roads meet again: what comes behind is proved once -/
theorem Go.join {J : Vm → Heap → Prop} {α : Type} (P : α → Prop) (f : α → JFrame) (A : ∀ x, P x → Go p e s below K N J Q T (f x)) (C : (∀ x, P x → Go p e s below K N J Q T (f x)) → Go p e s below K N J Q T g) : Go p e s below K N J Q T g := C A
/-- the tables at hand: b is the start s with warmer tables, their new pairs booked below the heap's size -/
def Bs (s b : State) (h : Heap) : Prop := ∃ vm k, b = s.setVm vm ∧ s.Since vm k ∧ k ≤ h.size
theorem Bs.start (s : State) (h : Heap) : Bs s s h := ⟨s.vm, 0, rfl, (State.WarmedH.refl s).since 0, Nat.zero_le _⟩
theorem Bs.mono (B : Bs s b h) (q : h.size ≤ h'.size) : Bs s b h' := by
  obtain ⟨vm, k, e, hS, hk⟩ := B
  exact ⟨vm, k, e, hS, Nat.le_trans hk q⟩
theorem rend_mono {t : State} {o : Outcome} {L : List Loc} {k n k' n' : Nat} (q : ReturnedEndW s o t L k n) (hk : k ≤ k') (hn : n ≤ n') : ReturnedEndW s o t L k' n' := ⟨q.1, q.2.1, q.2.2.1, q.2.2.2.mono hk hn⟩
theorem own_retI (X : Stand p l e R s m args below meth c T locs cells slots) (hx : p.tables.exec = Jvm.exec) {pc : Nat} {Ls : Array Slot} {z : Int32} {rest : List Value} (hret : meth.sig.returnType = some .int) (hd : decode c.code pc = .ok (.ireturn, 1)) {fs : List Frame}
    (hl : ∀ (f : JFrame) (acts : List Action), f.method = m → f.locked = none → f.entered = [] → (doReturn e (T.setTop f) acts (some (.int z))).1 = T.setFrames fs) : Steps p.tables e below (T.setTop (mkF m pc Ls (.int z :: rest))) (T.setFrames fs) := by
  have hm' : T.vm.method? m = some meth := X.method'
  have hn : narrow .int (.int z) = .int z := rfl
  show Steps p.tables e below (T.setTop { method := m, pc := pc, locals := Ls, stack := _ :: rest, locked := none }) _
  jvm_step X.here [X.here.top, hx, hd, hm', hret, hn]
  first | (intro acts; rw [hl _ acts rfl rfl rfl]) | rw [hl _ _ rfl rfl rfl]
  exact Steps.refl _
theorem Go.retI (X : Stand p l e R b m args below meth c T locs cells slots) (hx : p.tables.exec = Jvm.exec) (hlk : meth.locks = false) (B : Bs s b h) (J : Hd Z ms b.vm h) (eT : T.heap = h) {pc : Nat} {Ls : Array Slot} {z : Int32} {rest : List Value} (hret : meth.sig.returnType = some .int) (hd : decode c.code pc = .ok (.ireturn, 1)) (hK : cells ≤ K) (hN : slots ≤ N)
    (hQ : ∀ vm, b.WarmedH vm → Q (some (.int z)) vm h locs) : Go p e s below K N (Hd Z ms) Q T (mkF m pc Ls (.int z :: rest)) := by
  obtain ⟨vm, k, rfl, hS, hk⟩ := B
  subst eT
  obtain ⟨fs, hr, hrun, hended, hW⟩ := X.leaveW hS hk (v := some (.int z)) (fun q => by rw [hret] at q; cases q) hlk
  exact ⟨_, _, own_retI X hx hret hd hr, hrun, hended, _, _, rfl, hQ _ X.warmed, J.warm X.warmed, rend_mono hW hK hN⟩
theorem Go.retN (X : Stand p l e R b m args below meth c T locs cells slots) (hx : p.tables.exec = Jvm.exec) (hlk : meth.locks = false) (B : Bs s b h) (J : Hd Z ms b.vm h) (eT : T.heap = h) {pc : Nat} {Ls : Array Slot} {z z' : Int32} {t : FieldType} {rest : List Value} (hret : meth.sig.returnType = some t) (ht : t = .boolean ∨ t = .byte ∨ t = .char ∨ t = .short) (hd : decode c.code pc = .ok (.ireturn, 1)) (hz : nar t z = z') (hK : cells ≤ K) (hN : slots ≤ N)
    (hQ : ∀ vm, b.WarmedH vm → Q (some (.int z')) vm h locs) : Go p e s below K N (Hd Z ms) Q T (mkF m pc Ls (.int z :: rest)) := by
  obtain ⟨vm, k, rfl, hS, hk⟩ := B
  subst eT hz
  obtain ⟨fs, hr, hrun, hended, hW⟩ := X.leaveW hS hk (v := some (.int (nar t z))) (fun q => by rw [hret] at q; cases q) hlk
  exact ⟨_, _, Jvm.RoadKit.retN X hx hret ht hd hr, hrun, hended, _, _, rfl, hQ _ X.warmed, J.warm X.warmed, rend_mono hW hK hN⟩
theorem Go.retA (X : Stand p l e R b m args below meth c T locs cells slots) (hx : p.tables.exec = Jvm.exec) (hlk : meth.locks = false) (B : Bs s b h) (J : Hd Z ms b.vm h) (eT : T.heap = h) {pc : Nat} {Ls : Array Slot} {w : Value} {t : FieldType} {rest : List Value} (hret : meth.sig.returnType = some t) (ht : t.isReference = true) (hw : w.isRef = true) (hd : decode c.code pc = .ok (.areturn, 1)) (hK : cells ≤ K) (hN : slots ≤ N)
    (hQ : ∀ vm, b.WarmedH vm → Q (some w) vm h locs) : Go p e s below K N (Hd Z ms) Q T (mkF m pc Ls (w :: rest)) := by
  obtain ⟨vm, k, rfl, hS, hk⟩ := B
  subst eT
  obtain ⟨fs, hr, hrun, hended, hW⟩ := X.leaveW hS hk (v := some w) (fun q => by rw [hret] at q; cases q) hlk
  have hn : narrow t w = w := by
    cases t <;> first | (cases ht; done) | (cases w <;> first | rfl | (cases hw; done))
  exact ⟨_, _, retOut X hx hret hn (Or.inr (Or.inr (Or.inr (Or.inr ⟨rfl, ht, hw⟩)))) hd hr, hrun, hended, _, _, rfl, hQ _ X.warmed, J.warm X.warmed, rend_mono hW hK hN⟩
theorem Go.retV (X : Stand p l e R b m args below meth c T locs cells slots) (hx : p.tables.exec = Jvm.exec) (hlk : meth.locks = false) (B : Bs s b h) (J : Hd Z ms b.vm h) (eT : T.heap = h) {pc : Nat} {Ls : Array Slot} (hret : meth.sig.returnType = none) (hd : decode c.code pc = .ok (.return_, 1)) (hK : cells ≤ K) (hN : slots ≤ N)
    (hQ : ∀ vm, b.WarmedH vm → Q none vm h locs) : Go p e s below K N (Hd Z ms) Q T (mkF m pc Ls []) := by
  obtain ⟨vm, k, rfl, hS, hk⟩ := B
  subst eT
  obtain ⟨fs, hr, hrun, hended, hW⟩ := X.leaveW hS hk (v := none) (fun _ => rfl) hlk
  exact ⟨_, _, X.returnOut hx hret hd hr, hrun, hended, _, _, rfl, hQ _ X.warmed, J.warm X.warmed, rend_mono hW hK hN⟩
/-- a body's contract in this family -/
def Con (l : Launch) (Z : State) (ms : List Addr) (y : MethodName) (bytes : ByteArray) (maxL : Nat) (ret : Option FieldType) (ws : List Jvm.Cond) (rm : Room) (as' : Array Value) (h : Heap) (Q : Option Value → Vm → Heap → List Loc → Prop) : Prop :=
  MetFree l y (head1 (Jvm.Cond.code y bytes maxL ret :: ws) rm) (fun a U => a = as' ∧ Z.Warmed39 U.vm ∧ U.heap = h ∧ Hd Z ms U.vm U.heap) (fun _ _ _ _ _ => True) (fun _ U o U' => ∃ v L, o = .returned v ∧ Q v U'.vm U'.heap L ∧ Hd Z ms U'.vm U'.heap ∧ ReturnedEndW U o U' L rm.cells rm.slots)
/-- what a walk knows of the body that it walks -/
def Cx (Z : State) (p : Program) (b : State) (m : MethodId) (meth : Method) (c : Code) (own : String) (bytes : ByteArray) (ml : Nat) (nm : String) (rt : Option FieldType) : Prop :=
  p.tables.exec = Jvm.exec ∧ Z.Warmed39 b.vm ∧ b.vm.findClass own = some m.cls ∧ c.code = bytes ∧ c.maxLocals = ml ∧ meth.name = nm ∧ meth.sig.returnType = rt ∧ meth.locks = false
theorem Con.mk {y : MethodName} {bytes : ByteArray} {maxL : Nat} {ret : Option FieldType} {ws : List Jvm.Cond} {rm : Room} {as' : Array Value} (hp : plainFor y = true)
    (body : ∀ p e s m below meth c s₁, Cx Z p s m meth c y.cls bytes maxL y.name ret → Stand p l e rm s m as' below meth c s₁ [] 0 0 → s₁.heap = h → s.heap = h → Hd Z ms s.vm h → Bs s s h → s.methodNamed? y = some m → Go p e s below rm.cells rm.slots (Hd Z ms) Q s₁ (entryFrame m as' maxL)) : Con l Z ms y bytes maxL ret ws rm as' h Q := by
  refine MetFree.of_bodySF hp hisR ?_
  intro p e s m args below meth c s₁ Bd hml0 hP hK
  obtain ⟨rfl, hZ, hh, hJ⟩ := hP
  exact body p e s m below meth c s₁ ⟨Bd.exec, hZ, findClass_of_methodNamed Bd.named, Bd.bytes, hml0, (name_of_methodNamed Bd.named Bd.method).1, Bd.returns, Bd.notSynchronized⟩ (Stand.of_body Bd) (by rw [← hh, Bd.state]; rfl) hh (hh ▸ hJ) (Bs.start s h) Bd.named
section Calls
variable {y : MethodName} {bytes mybytes : ByteArray} {maxL ml : Nat} {ret rt : Option FieldType} {rm : Room} {own nm : String} {index W : Nat} {argsL rest : List Value} {Q' : Option Value → Vm → Heap → List Loc → Prop}
/-- two roads meet again behind calls that leave the heap as it was -/
theorem Go.joinC {Jq : Vm → Heap → Prop} {α : Type} {n : Nat} (Cc : Cx Z p b m meth c own mybytes ml nm rt) (X : Stand p l e R b m args below meth c T locs cells slots) (hJ : Hd Z ms b.vm h) (hN : Fr n locs) (P : α → Prop) (f : α → JFrame)
    (A : ∀ x b' T' locs', Cx Z p b' m meth c own mybytes ml nm rt → Stand p l e R b' m args below meth c T' locs' cells slots → T'.heap = h → Bs s b' h → Hd Z ms b'.vm h → Fr n locs' → P x → Go p e s below K N Jq Q T' (f x))
    (C : (∀ x b' T' locs', Cx Z p b' m meth c own mybytes ml nm rt → Stand p l e R b' m args below meth c T' locs' cells slots → T'.heap = h → Bs s b' h → Hd Z ms b'.vm h → Fr n locs' → P x → Go p e s below K N Jq Q T' (f x)) → Go p e s below K N Jq Q T g) : Go p e s below K N Jq Q T g := C A
/-- what a call leaves: the tables at hand may be others -/
def Called (Z : State) (ms : List Addr) (p : Program) (l : Launch) (e : Env) (R : Room) (s : State) (m : MethodId) (args : Array Value) (below : List Frame) (meth : Method) (c : Code) (own : String) (mybytes : ByteArray) (ml : Nat) (nm : String) (rt : Option FieldType) (locs : List Loc) (cells slots : Nat) (h : Heap) (Q' : Option Value → Vm → Heap → List Loc → Prop) (T : State) (g : JFrame) (len : Nat) (rest : List Value) : Prop :=
  ∃ v b' T' h' L, T'.heap = h' ∧ Cx Z p b' m meth c own mybytes ml nm rt ∧ Stand p l e R b' m args below meth c T' (locs ++ L) cells slots ∧ Bs s b' h' ∧ Hd Z ms b'.vm h' ∧ h.size ≤ h'.size ∧ Q' v b'.vm h' L ∧ ∀ t, Steps p.tables e below (T'.setTop { g with pc := g.pc + len, stack := v.toList ++ rest }) t → Steps p.tables e below (T.setTop g) t
theorem own_back {as' : Array Value} {len : Nat} (hM : Con l Z ms y bytes maxL ret [] rm as' h Q') (hZ : Z.Warmed39 b.vm) (J : Hd Z ms b.vm h) (wc : (Jvm.Cond.code y bytes maxL ret).before a0 Z = true) (wz : (Jvm.Cond.initialized y.cls).before a0 Z = true) (hf : rm.frames + 1 ≤ R.frames) (hl : W + (maxL + 11) + rm.locals ≤ R.locals) :
    BackS l R p e below b args y len W (fun A a => a = as' ∧ A.U.heap = h ∧ A.cells + rm.cells ≤ R.cells ∧ A.slots + rm.slots ≤ R.slots)
      (fun A _ v B => ∃ L, (Q' v B.U.vm B.U.heap L ∧ Hd Z ms B.U.vm B.U.heap) ∧ B.locs = A.locs ++ L ∧ B.cells = A.cells + rm.cells ∧ B.slots = A.slots + rm.slots) :=
  BackS.of_freeW (bytes := bytes) (maxL := maxL) (ret := ret) (E := fun _ _ o t L k n => k = rm.cells ∧ n = rm.slots ∧ ∃ v, o = .returned v ∧ Q' v t.vm t.heap L ∧ Hd Z ms t.vm t.heap) hM hf hl
    (fun m meth c A a Y hp => have hU : Z.Warmed39 A.U.vm := wtrans hZ Y.warmed
      ⟨by show (Jvm.Cond.and _ .tt).before a A.U = true; rw [Cond.before_and, mv hU wc]; rfl, mv hU wc, mv hU wz, hp.2.2.1, hp.2.2.2⟩)
    (fun m meth c A a g mk Y hp => ⟨hp.1, wtrans hZ Y.warmed, hp.2.1, by show Hd Z ms A.U.vm A.U.heap; rw [hp.2.1]; exact J.warm Y.warmed⟩) (fun _ _ _ _ _ _ _ _ _ => trivial)
    (fun _ _ _ _ ⟨v, L, h1, h2, h3, h4⟩ => ⟨L, _, _, h4, rfl, rfl, v, h1, h2, h3⟩)
    (fun m meth c A a g mk v t L k n Y hp _ _ ⟨e1, e2, v', e3, e4, e5⟩ => by cases e3; subst e1 e2; exact ⟨L, ⟨e4, e5⟩, rfl, rfl, rfl⟩)
theorem own_done {len : Nat} {v : Option Value} {B : Pt} (Cc : Cx Z p b m meth c own mybytes ml nm rt) (hB : Bs s b h) (eT : T.heap = h) (X1 : Stand p l e R (b.setVm B.U.vm) m args below meth c B.U B.locs B.cells B.slots) (hS : b.Since B.U.vm B.U.heap.size) (hg : T.heap.size ≤ B.U.heap.size)
    (hq : ∃ L, (Q' v B.U.vm B.U.heap L ∧ Hd Z ms B.U.vm B.U.heap) ∧ B.locs = locs ++ L ∧ B.cells = cells + rm.cells ∧ B.slots = slots + rm.slots) (st : ∀ t, Steps p.tables e below (B.U.setTop { g with pc := g.pc + len, stack := v.toList ++ rest }) t → Steps p.tables e below (T.setTop g) t) :
    Called Z ms p l e R s m args below meth c own mybytes ml nm rt locs (cells + rm.cells) (slots + rm.slots) h Q' T g len rest := by
  obtain ⟨T1, L1, k1, n1⟩ := B
  obtain ⟨Lc, ⟨hQ, hJ⟩, l1, y1, z1⟩ := hq
  dsimp only [Pt.U, Pt.locs, Pt.cells, Pt.slots] at X1 l1 y1 z1 st hQ hJ hS hg
  subst l1 y1 z1
  obtain ⟨vm, k, rfl, hS0, hk⟩ := hB
  obtain ⟨hx, hZ, hown, r⟩ := Cc
  exact ⟨v, (s.setVm vm).setVm T1.vm, T1, _, Lc, rfl, ⟨hx, State.Warmed39.trans hZ hS.1, (hS.1.alike.findClass _ _).trans hown, r⟩, X1, ⟨T1.vm, T1.heap.size, rfl, hS0.trans hS (Nat.le_trans hk (eT ▸ hg)), Nat.le_refl _⟩, hJ, eT ▸ hg, hQ, st⟩
theorem own_callS (Cc : Cx Z p b m meth c own mybytes ml nm rt) (hB : Bs s b h) (J : Hd Z ms b.vm h) (X : Stand p l e R b m args below meth c T locs cells slots)
    (wl : (Jvm.Cond.methodLink own index y).before a0 Z = true) (wst : (Jvm.Cond.static y).before a0 Z = true) (wi : (Jvm.Cond.initialized y.cls).before a0 Z = true) (wc : (Jvm.Cond.code y bytes maxL ret).before a0 Z = true) (hy : y.cls ≠ "java/lang/invoke/MethodHandle" ∧ y.cls ≠ "java/lang/invoke/VarHandle")
    (hM : Con l Z ms y bytes maxL ret [] rm argsL.toArray h Q') (eT : T.heap = h) (hg : g.method = m) (hsize : g.locals.size = c.maxLocals) (hlen : ∀ sig, parseMethodDescriptor y.desc = some sig → argsL.length = sig.parameters.length) (hstack : g.stack = argsL.reverse ++ rest)
    (hW : 2 * g.monitorRoom + (rest.map fun v => v.category).sum ≤ W) (hdg : decode c.code g.pc = .ok (.invokestatic index, 3)) (hf : rm.frames + 1 ≤ R.frames) (hl : W + (maxL + 11) + rm.locals ≤ R.locals) (hc : cells + rm.cells ≤ R.cells) (hs : slots + rm.slots ≤ R.slots) :
    Called Z ms p l e R s m args below meth c own mybytes ml nm rt locs (cells + rm.cells) (slots + rm.slots) h Q' T g 3 rest := by
  obtain ⟨hx, hZ, hown, -⟩ := id Cc
  obtain ⟨v, _, B, -, X1, hS, hgr, hq, st⟩ := callSS X hx (y := y) hown (mvT hZ wl) (mvT hZ wst) (mvT hZ wi) (mvT hZ wc) hy (own_back (W := W) hM hZ J wc wi hf hl) hg hsize (argsL := argsL) (rest := rest) hlen hstack hW hdg (fun _ _ => ⟨rfl, eT, hc, hs⟩)
  exact own_done Cc hB eT X1 hS hgr hq (fun _ hr => st.trans hr)
theorem own_callI (Cc : Cx Z p b m meth c own mybytes ml nm rt) (hB : Bs s b h) (J : Hd Z ms b.vm h) (X : Stand p l e R b m args below meth c T locs cells slots) (hin : y.name = "<init>")
    (wl : (Jvm.Cond.methodLink own index y).before a0 Z = true) (wim : (Jvm.Cond.instanceMethod y).before a0 Z = true) (wi : (Jvm.Cond.initialized y.cls).before a0 Z = true) (wc : (Jvm.Cond.code y bytes maxL none).before a0 Z = true) (hy : y.cls ≠ "java/lang/invoke/MethodHandle" ∧ y.cls ≠ "java/lang/invoke/VarHandle")
    {a : Addr} (hM : Con l Z ms y bytes maxL none [] rm (Value.ref a :: argsL).toArray h Q') (eT : T.heap = h) (hg : g.method = m) (hsize : g.locals.size = c.maxLocals) (hlen : ∀ sig, parseMethodDescriptor y.desc = some sig → argsL.length = sig.parameters.length) (hstack : g.stack = argsL.reverse ++ .ref a :: rest)
    (hW : 2 * g.monitorRoom + (rest.map fun v => v.category).sum ≤ W) (hdg : decode c.code g.pc = .ok (.invokespecial index, 3)) (hf : rm.frames + 1 ≤ R.frames) (hl : W + (maxL + 11) + rm.locals ≤ R.locals) (hc : cells + rm.cells ≤ R.cells) (hs : slots + rm.slots ≤ R.slots) :
    Called Z ms p l e R s m args below meth c own mybytes ml nm rt locs (cells + rm.cells) (slots + rm.slots) h Q' T g 3 rest := by
  obtain ⟨hx, hZ, hown, -⟩ := id Cc
  obtain ⟨v, _, B, -, X1, hS, hgr, hq, st⟩ := X.specialBackS hx (y := y) hin hown (mvT hZ wl) (mvT hZ wim) (mvT hZ wc) hy (own_back (W := W) hM hZ J wc wi hf hl) hg hsize (Steps.refl _) (a := a) (argsL := argsL) (rest := rest) hlen hstack hW hdg (fun _ _ => ⟨rfl, eT, hc, hs⟩)
  exact own_done Cc hB eT X1 hS hgr hq (fun _ hr => st.trans hr)
theorem own_callV (Cc : Cx Z p b m meth c own mybytes ml nm rt) (hB : Bs s b h) (J : Hd Z ms b.vm h) (X : Stand p l e R b m args below meth c T locs cells slots) {z : MethodName} {C : String}
    (wl : (Jvm.Cond.methodLink own index y).before a0 Z = true) (wd : (Jvm.Cond.declares y).before a0 Z = true) (nf : NotFace b y) (wsel : (Jvm.Cond.selects C y z).before a0 Z = true) (wim : (Jvm.Cond.instanceMethod z).before a0 Z = true) (wi : (Jvm.Cond.initialized z.cls).before a0 Z = true) (wc : (Jvm.Cond.code z bytes maxL ret).before a0 Z = true) (hy : y.cls ≠ "java/lang/invoke/MethodHandle" ∧ y.cls ≠ "java/lang/invoke/VarHandle")
    {a : Addr} (E : Exa Z h a C) (hM : Con l Z ms z bytes maxL ret [] rm (Value.ref a :: argsL).toArray h Q') (eT : T.heap = h) (hg : g.method = m) (hsize : g.locals.size = c.maxLocals) (hlen : ∀ sig, parseMethodDescriptor y.desc = some sig → argsL.length = sig.parameters.length) (hstack : g.stack = argsL.reverse ++ .ref a :: rest)
    (hW : 2 * g.monitorRoom + (rest.map fun v => v.category).sum ≤ W) (hdg : decode c.code g.pc = .ok (.invokevirtual index, 3)) (hf : rm.frames + 1 ≤ R.frames) (hl : W + (maxL + 11) + rm.locals ≤ R.locals) (hc : cells + rm.cells ≤ R.cells) (hs : slots + rm.slots ≤ R.slots) :
    Called Z ms p l e R s m args below meth c own mybytes ml nm rt locs (cells + rm.cells) (slots + rm.slots) h Q' T g 3 rest := by
  obtain ⟨hx, hZ, hown, -⟩ := id Cc
  obtain ⟨cq, kq, qa, qb, qc⟩ := isOf hZ eT E
  obtain ⟨v, _, B, -, X1, hS, hgr, hq, st⟩ := X.virtualBackS hx (y := y) (z := z) hown (mvT hZ wl) (mvT hZ wd) nf (mvT hZ wsel) (mvT hZ wim) hy (own_back (W := W) hM hZ J wc wi hf hl) qa qc hg hsize (Steps.refl _) (argsL := argsL) (rest := rest) hlen hstack hW hdg (fun _ _ => ⟨rfl, eT, hc, hs⟩)
  exact own_done Cc hB eT X1 hS hgr hq (fun _ hr => st.trans hr)
/-- an inherited method, by the class that the entry names -/
theorem own_callU (Cc : Cx Z p b m meth c own mybytes ml nm rt) (hB : Bs s b h) (J : Hd Z ms b.vm h) (X : Stand p l e R b m args below meth c T locs cells slots) {z : MethodName} {C owner : String}
    (wl : (Jvm.Cond.methodLink own index y).before a0 Z = true) (wsm : (Jvm.Cond.sameMethod y.cls owner y.name y.desc).before a0 Z = true) (wd : (Jvm.Cond.declares ⟨owner, y.name, y.desc⟩).before a0 Z = true) (wsel : (Jvm.Cond.selects C y z).before a0 Z = true) (wim : (Jvm.Cond.instanceMethod z).before a0 Z = true) (wi : (Jvm.Cond.initialized z.cls).before a0 Z = true) (wc : (Jvm.Cond.code z bytes maxL ret).before a0 Z = true) (ho : owner ≠ "java/lang/invoke/MethodHandle" ∧ owner ≠ "java/lang/invoke/VarHandle")
    {a : Addr} (E : Exa Z h a C) (hM : Con l Z ms z bytes maxL ret [] rm (Value.ref a :: argsL).toArray h Q') (eT : T.heap = h) (hg : g.method = m) (hsize : g.locals.size = c.maxLocals) (hlen : ∀ sig, parseMethodDescriptor y.desc = some sig → argsL.length = sig.parameters.length) (hstack : g.stack = argsL.reverse ++ .ref a :: rest)
    (hW : 2 * g.monitorRoom + (rest.map fun v => v.category).sum ≤ W) (hdg : decode c.code g.pc = .ok (.invokevirtual index, 3)) (hf : rm.frames + 1 ≤ R.frames) (hl : W + (maxL + 11) + rm.locals ≤ R.locals) (hc : cells + rm.cells ≤ R.cells) (hs : slots + rm.slots ≤ R.slots) :
    Called Z ms p l e R s m args below meth c own mybytes ml nm rt locs (cells + rm.cells) (slots + rm.slots) h Q' T g 3 rest := by
  obtain ⟨hx, hZ, hown, -⟩ := id Cc
  obtain ⟨cq, kq, qa, qb, qc⟩ := isOf hZ eT E
  obtain ⟨v, _, B, -, X1, hS, hgr, hq, st⟩ := X.virtualBackUpS hx (x := y) (y := z) hown (mvT hZ wl) (mvT hZ wsm) (mvT hZ wd) ho (mvT hZ wsel) (mvT hZ wim) (own_back (W := W) hM hZ J wc wi hf hl) qa qc hg hsize (Steps.refl _) (argsL := argsL) (rest := rest) hlen hstack hW hdg (fun _ _ => ⟨rfl, eT, hc, hs⟩)
  exact own_done Cc hB eT X1 hS hgr hq (fun _ hr => st.trans hr)
/-- through an interface -/
theorem own_callF (Cc : Cx Z p b m meth c own mybytes ml nm rt) (hB : Bs s b h) (J : Hd Z ms b.vm h) (X : Stand p l e R b m args below meth c T locs cells slots) {z : MethodName} {C : String} {count : Nat}
    (wl : (Jvm.Cond.methodLink own index y).before a0 Z = true) (wd : (Jvm.Cond.declares y).before a0 Z = true) (wfc : (Jvm.Cond.interfaceMethod y.cls y.cls y.name y.desc).before a0 Z = true) (hfc : ((Jvm.Cond.interfaceMethod y.cls y.cls y.name y.desc).onTables && (Jvm.Cond.interfaceMethod y.cls y.cls y.name y.desc).keepsFace) = true) (wsel : (Jvm.Cond.selects C y z).before a0 Z = true) (wim : (Jvm.Cond.instanceMethod z).before a0 Z = true) (wpb : (Jvm.Cond.publicMethod z).before a0 Z = true) (wun : (Jvm.Cond.unhidden C y.name y.desc).before a0 Z = true) (wca : (Jvm.Cond.castable C y.cls).before a0 Z = true)
    (wi : (Jvm.Cond.initialized z.cls).before a0 Z = true) (wc : (Jvm.Cond.code z bytes maxL ret).before a0 Z = true) (hy : y.cls ≠ "java/lang/invoke/MethodHandle" ∧ y.cls ≠ "java/lang/invoke/VarHandle")
    {a : Addr} (E : Exa Z h a C) (hM : Con l Z ms z bytes maxL ret [] rm (Value.ref a :: argsL).toArray h Q') (eT : T.heap = h) (hg : g.method = m) (hsize : g.locals.size = c.maxLocals) (hlen : ∀ sig, parseMethodDescriptor y.desc = some sig → argsL.length = sig.parameters.length) (hstack : g.stack = argsL.reverse ++ .ref a :: rest)
    (hW : 2 * g.monitorRoom + (rest.map fun v => v.category).sum ≤ W) (hdg : decode c.code g.pc = .ok (.invokeinterface index count, 5)) (hf : rm.frames + 1 ≤ R.frames) (hl : W + (maxL + 11) + rm.locals ≤ R.locals) (hc : cells + rm.cells ≤ R.cells) (hs : slots + rm.slots ≤ R.slots) :
    Called Z ms p l e R s m args below meth c own mybytes ml nm rt locs (cells + rm.cells) (slots + rm.slots) h Q' T g 5 rest := by
  obtain ⟨hx, hZ, hown, -⟩ := id Cc
  obtain ⟨cq, kq, qa, qb, qc⟩ := isOf hZ eT E
  obtain ⟨v, _, B, -, X1, hS, hgr, hq, st⟩ := X.interfaceBackS hx (xi := y) (y := z) hown (mvT hZ wl) (mvT hZ wd) (mvT hZ wfc hfc) (mvT hZ wsel) (mvT hZ wim) (mvT hZ wpb) (mvT hZ wun) (mvT hZ wca) hy (own_back (W := W) hM hZ J wc wi hf hl) qa qb qc hg hsize (Steps.refl _) (argsL := argsL) (rest := rest) hlen hstack hW hdg (fun _ _ => ⟨rfl, eT, hc, hs⟩)
  exact own_done Cc hB eT X1 hS hgr hq (fun _ hr => st.trans hr)
/-- super.m() -/
theorem own_callP (Cc : Cx Z p b m meth c own mybytes ml nm rt) (hB : Bs s b h) (J : Hd Z ms b.vm h) (X : Stand p l e R b m args below meth c T locs cells slots) {C : String}
    (wl : (Jvm.Cond.methodLink own index y).before a0 Z = true) (wsm : (Jvm.Cond.sameMethod y.cls y.cls y.name y.desc).before a0 Z = true) (wim : (Jvm.Cond.instanceMethod y).before a0 Z = true) (wsu : (Jvm.Cond.superclass own y.cls).before a0 Z = true) (hn : y.name ≠ "<init>") (wi : (Jvm.Cond.initialized y.cls).before a0 Z = true) (wc : (Jvm.Cond.code y bytes maxL ret).before a0 Z = true)
    {a : Addr} (E : Exa Z h a C) (hM : Con l Z ms y bytes maxL ret [] rm (Value.ref a :: argsL).toArray h Q') (eT : T.heap = h) (hg : g.method = m) (hsize : g.locals.size = c.maxLocals) (hlen : ∀ sig, parseMethodDescriptor y.desc = some sig → argsL.length = sig.parameters.length) (hstack : g.stack = argsL.reverse ++ .ref a :: rest)
    (hW : 2 * g.monitorRoom + (rest.map fun v => v.category).sum ≤ W) (hdg : decode c.code g.pc = .ok (.invokespecial index, 3)) (hf : rm.frames + 1 ≤ R.frames) (hl : W + (maxL + 11) + rm.locals ≤ R.locals) (hc : cells + rm.cells ≤ R.cells) (hs : slots + rm.slots ≤ R.slots) :
    Called Z ms p l e R s m args below meth c own mybytes ml nm rt locs (cells + rm.cells) (slots + rm.slots) h Q' T g 3 rest := by
  obtain ⟨hx, hZ, hown, -⟩ := id Cc
  obtain ⟨v, _, B, -, X1, hS, hgr, hq, st⟩ := superBackS X hx hZ (y := y) hown wl wsm wim wsu hn (own_back (W := W) hM hZ J wc wi hf hl) eT (Ins.self E) hg hsize wc (argsL := argsL) (rest := rest) hlen hstack hW hdg (fun _ _ => ⟨rfl, eT, hc, hs⟩)
  exact own_done Cc hB eT X1 hS hgr hq (fun _ hr => st.trans hr)
/-- a private method -/
theorem own_callR (Cc : Cx Z p b m meth c own mybytes ml nm rt) (hB : Bs s b h) (J : Hd Z ms b.vm h) (X : Stand p l e R b m args below meth c T locs cells slots) {C : String}
    (wl : (Jvm.Cond.methodLink own index y).before a0 Z = true) (wim : (Jvm.Cond.instanceMethod y).before a0 Z = true) (wsel : (Jvm.Cond.selects y.cls y y).before a0 Z = true) (wpr : (Jvm.Cond.privateMethod y).before a0 Z = true) (wi : (Jvm.Cond.initialized y.cls).before a0 Z = true) (wc : (Jvm.Cond.code y bytes maxL ret).before a0 Z = true) (hy : y.cls ≠ "java/lang/invoke/MethodHandle" ∧ y.cls ≠ "java/lang/invoke/VarHandle")
    {a : Addr} (E : Exa Z h a C) (hM : Con l Z ms y bytes maxL ret [] rm (Value.ref a :: argsL).toArray h Q') (eT : T.heap = h) (hg : g.method = m) (hsize : g.locals.size = c.maxLocals) (hlen : ∀ sig, parseMethodDescriptor y.desc = some sig → argsL.length = sig.parameters.length) (hstack : g.stack = argsL.reverse ++ .ref a :: rest)
    (hW : 2 * g.monitorRoom + (rest.map fun v => v.category).sum ≤ W) (hdg : decode c.code g.pc = .ok (.invokevirtual index, 3)) (hf : rm.frames + 1 ≤ R.frames) (hl : W + (maxL + 11) + rm.locals ≤ R.locals) (hc : cells + rm.cells ≤ R.cells) (hs : slots + rm.slots ≤ R.slots) :
    Called Z ms p l e R s m args below meth c own mybytes ml nm rt locs (cells + rm.cells) (slots + rm.slots) h Q' T g 3 rest := by
  obtain ⟨hx, hZ, hown, -⟩ := id Cc
  obtain ⟨cl, q1, q2⟩ := E.cell
  obtain ⟨v, _, B, -, X1, hS, hgr, hq, st⟩ := X.privateBackS hx (y := y) hown (mvT hZ wl) (mvT hZ wim) (mvT hZ wsel) (Cond.privateMethod_at (mvP hZ wpr (args := #[]))) (mvT hZ wc) hy (own_back (W := W) hM hZ J wc wi hf hl) hg hsize (Steps.refl _) (a := a) (by rw [eT]; exact q1) q2 (argsL := argsL) (rest := rest) hlen hstack hW hdg (fun _ _ => ⟨rfl, eT, hc, hs⟩)
  exact own_done Cc hB eT X1 hS hgr hq (fun _ hr => st.trans hr)
/-- a nest-mate's constructor -/
theorem own_callN (Cc : Cx Z p b m meth c own mybytes ml nm rt) (hB : Bs s b h) (J : Hd Z ms b.vm h) (X : Stand p l e R b m args below meth c T locs cells slots) (hin : y.name = "<init>") {host : String}
    (wl : (Jvm.Cond.methodLinkNest own index y host).before a0 Z = true) (wim : (Jvm.Cond.instanceMethod y).before a0 Z = true) (wi : (Jvm.Cond.initialized y.cls).before a0 Z = true) (wc : (Jvm.Cond.code y bytes maxL none).before a0 Z = true) (hy : y.cls ≠ "java/lang/invoke/MethodHandle" ∧ y.cls ≠ "java/lang/invoke/VarHandle")
    {a : Addr} (hM : Con l Z ms y bytes maxL none [] rm (Value.ref a :: argsL).toArray h Q') (eT : T.heap = h) (hg : g.method = m) (hsize : g.locals.size = c.maxLocals) (hlen : ∀ sig, parseMethodDescriptor y.desc = some sig → argsL.length = sig.parameters.length) (hstack : g.stack = argsL.reverse ++ .ref a :: rest)
    (hW : 2 * g.monitorRoom + (rest.map fun v => v.category).sum ≤ W) (hdg : decode c.code g.pc = .ok (.invokespecial index, 3)) (hf : rm.frames + 1 ≤ R.frames) (hl : W + (maxL + 11) + rm.locals ≤ R.locals) (hc : cells + rm.cells ≤ R.cells) (hs : slots + rm.slots ≤ R.slots) :
    Called Z ms p l e R s m args below meth c own mybytes ml nm rt locs (cells + rm.cells) (slots + rm.slots) h Q' T g 3 rest := by
  obtain ⟨hx, hZ, hown, -⟩ := id Cc
  have wl' : (Jvm.Cond.methodLinkNest own index y host).before args b = true := (Cond.methodLinkNest_wide hZ wl :)
  obtain ⟨v, _, B, -, X1, hS, hgr, hq, st⟩ := X.specialBackNestS hx (y := y) hin hown wl' (mvT hZ wim) (mvT hZ wc) hy (own_back (W := W) hM hZ J wc wi hf hl) hg hsize (Steps.refl _) (a := a) (argsL := argsL) (rest := rest) hlen hstack hW hdg (fun _ _ => ⟨rfl, eT, hc, hs⟩)
  exact own_done Cc hB eT X1 hS hgr hq (fun _ hr => st.trans hr)
end Calls
theorem own_nf {s : State} {args : Array Value} {C : String} {y z : MethodName} (hsel : (Jvm.Cond.selects C z z).before args s = true) (hc : z.cls = y.cls) : NotFace s y := fun r0 h0 => by
  obtain ⟨c2, r2, m2, -, -, q3, -⟩ := Cond.selects_spec hsel
  obtain ⟨kr, k1, k2⟩ := notFace_of_selects hsel m2 q3
  have a := findClass_of_methodNamed h0
  have b := findClass_of_methodNamed q3
  rw [hc] at b
  have e : r0.cls = m2.cls := Option.some.inj (a.symm.trans b)
  exact ⟨kr, by rw [e]; exact k1, k2⟩
theorem own_sm {y : MethodName} (wim : (Jvm.Cond.instanceMethod y).before a0 Z = true) (nf : NotFace Z y) (hy : y.cls ≠ "java/lang/invoke/MethodHandle" ∧ y.cls ≠ "java/lang/invoke/VarHandle") : (Jvm.Cond.sameMethod y.cls y.cls y.name y.desc).before a0 Z = true := by
  obtain ⟨mk, methM, hnamed, -⟩ := Cond.instanceMethod_spec wim
  obtain ⟨kr, k1, k2⟩ := nf _ hnamed
  have hf := State.methodFound?_of_named hnamed hy
  have hc := findClass_of_methodNamed hnamed
  have hn' : Z.methodNamed? ⟨y.cls, y.name, y.desc⟩ = some mk := hnamed
  simp [Cond.before, Cond.holds, Cond.value, hc, hf, hn', k1, k2]
theorem own_decl {y : MethodName} {bytes : ByteArray} {maxL : Nat} {ret : Option FieldType} (wim : (Jvm.Cond.instanceMethod y).before a0 Z = true) (wc : (Jvm.Cond.code y bytes maxL ret).before a0 Z = true) : (Jvm.Cond.declares y).before a0 Z = true := by
  obtain ⟨mk, methM, hnamed, hmethM, hst, -⟩ := Cond.instanceMethod_spec wim
  obtain ⟨m2, cM, q1, -, -, -, -, -, -, hsig⟩ := Cond.code_spec hnamed wc
  cases hmethM.symm.trans q1
  simp [Cond.before, Cond.holds, Cond.value, hnamed, hmethM, hst, hsig]
theorem keep_ext (q : Keep h h' []) : Ext h h' := ⟨q.1, fun a c r => q.2.1 a c r (fun z => nomatch z)⟩
theorem ext_keep (q : Ext h h') : Keep h h' [] := (Keep.refl h []).ext q
theorem own_ole {n0 : Nat} (O : Old Z n0 h) : n0 ≤ h.size := O.1 ▸ O.2.1
/-- an equation of the case's words -/
theorem own_eqI {t : Term} {n : Int32} (q : (Jvm.Cond.eq t (.int n)).value args s none s [] = some true) : t.eval args s none [] s = some (.int n) := by
  cases ha : t.eval args s none [] s with
  | none => simp [Cond.value, ha] at q
  | some x => cases x <;> simp [Cond.value, Term.eval, ha] at q ⊢; exact q
theorem own_sub1 {z : Addr} {ms L : List Addr} (q : z ∈ L) (r : ∀ x ∈ ms, x ∈ L) : ∀ x ∈ z :: ms, x ∈ L := fun x hx => (List.mem_cons.mp hx).elim (fun e => by rw [e]; exact q) (r x)
end OwnKit

section OwnLdc
variable {p : Program} {l : Launch} {e : Env} {R : Room} {s b : State} {m : MethodId} {args : Array Value} {below : List Frame} {meth : Method} {c : Code} {T : State} {locs : List Loc} {cells slots : Nat} {Z : State} {a0 : Array Value} {h : Heap} {ms : List Addr} {own nm text : String} {mybytes : ByteArray} {ml index n : Nat} {rt : Option FieldType} {g : JFrame}
/-- a constant that is booked at T', and whose address is older than this load, was held at the start -/
theorem own_heldZ {T' : State} {vm0 : Vm} {Ts : List String} {a : Addr} (hW : Z.Warmed39 T'.vm) (w : (Jvm.Cond.stringLink own index text).before a0 Z = true) (I : IB Z vm0 Ts) (hnot : text ∉ Ts) (lit : Lit T' own index a) (hHZ : ConstHeldL Z own index) {cO : ClassId} (hcO : Z.vm.findClass own = some cO)
    (hint : T'.vm.interned = vm0.interned ∨ ∃ (u : Array UInt16) (a' : Addr), T'.vm.interned = vm0.interned.push (u, a') ∧ a ≠ a') : ∃ units, SlOf Z a units := by
  obtain ⟨k, cf, i, units, hk, hcf, hp, hu, hnm, htext, -⟩ := Cond.stringLink_spec hcO w
  obtain ⟨k', hk', hke, -, ee, -⟩ := hW.2.2.2 cO k hk
  have hl : k'.resolved[index]? = some (some (.string a)) := by
    have q : T'.resolvedAt? own index = some (.string a) := lit
    have f : T'.vm.findClass own = some cO := by rw [hW.alike.findClass]; exact hcO
    simp only [State.resolvedAt?, f, hk', Option.bind_eq_bind, Option.bind_some] at q
    cases hr : k'.resolved[index]? with
    | none => simp [hr] at q
    | some y => cases y <;> simp [hr] at q; rw [q]
  have hfind : vm0.interned.find? (fun p => p.1 == units) = some (units, a) → Z.vm.interned.find? (fun p => p.1 == units) = some (units, a) := fun hf => by
    obtain ⟨more, e, hm⟩ := I
    rw [e, Array.find?_append] at hf
    cases hs : Z.vm.interned.find? (fun p => p.1 == units) with
    | some pr => rw [hs] at hf; simpa using hf
    | none =>
      rw [hs, Option.none_or] at hf
      obtain ⟨t, ht, hd⟩ := hm _ (Array.mem_of_find?_eq_some hf)
      cases htext.symm.trans hd
      exact absurd ht hnot
  rcases ee index with e0 | ⟨hop, r, e1, hr | ⟨a3, t, si, us, rfl, -, q3, q4, q5⟩⟩
  · exact ⟨units, hHZ cO k cf i units a hcO hk hcf hp hu (Or.inl (e0 ▸ hl))⟩
  · exfalso
    cases r <;> simp [State.rightAt, hk, hcf, hnm] at hr
  · rw [hcf] at q3 q4
    obtain rfl : si = i := by have := q3.symm.trans hp; simpa using this
    obtain rfl : us = units := by simpa [ConstantPool.utf8?, hu] using q4.symm
    obtain rfl : a3 = a := by have := e1.symm.trans hl; simpa using this
    refine ⟨us, hHZ cO k cf si us a3 hcO hk hcf hp hu (Or.inr ⟨hop, hfind ?_⟩)⟩
    rcases hint with q | ⟨u, a', q, hne⟩
    · rw [← q]; exact q5
    · rw [q, Array.find?_push] at q5
      cases hs : vm0.interned.find? (fun p => p.1 == us) with
      | some pr => rw [hs] at q5; simpa using q5
      | none =>
        rw [hs, Option.none_or] at q5
        split at q5
        · cases q5; exact absurd rfl hne
        · cases q5
theorem own_ldcV (Cc : Cx Z p b m meth c own mybytes ml nm rt) (hB : Bs s b h) (J : Hd Z ms b.vm h) (X : Stand p l e R b m args below meth c T locs cells slots) (hC : (own, index, text) ∈ litCs) (hD : ∀ q ∈ litCs, q.2.2 = text → q = (own, index, text))
    (w : (Jvm.Cond.stringLink own index text).before a0 Z = true) (wS : ∀ a ∈ Bundle.stringAtoms, a.before a0 Z = true) (hl : ∀ c ∈ text.toList, c.toNat < 256) (hsz : text.toList.length < 2147483648) (N : Fr s.heap.size locs) (hks : Ext Z.heap s.heap)
    (eT : T.heap = h) (hg : g.method = m) (hd : decode c.code g.pc = .ok (.ldc index, 2)) (hn : 4 * text.toList.length ≤ n) (hbig : n ≤ 536870912) (hc : cells + 2 ≤ R.cells) (hl' : slots + (n + 4) ≤ R.slots) :
    ∃ (a t : Addr) (k : ClassId) (b' T' : State) (h' : Heap), T'.heap = h' ∧ Cx Z p b' m meth c own mybytes ml nm rt ∧ Stand p l e R b' m args below meth c T' locs (cells + 2) (slots + (n + 4)) ∧ Bs s b' h' ∧ Hd Z ms b'.vm h' ∧ Ext h h' ∧ Says Z h' a t k text ∧ a ∉ ms ∧ t ∉ ms ∧ Lit b' own index a ∧ ∀ u, Steps p.tables e below (T'.setTop { g with pc := g.pc + 2, stack := .ref a :: g.stack }) u → Steps p.tables e below (T.setTop g) u := by
  obtain ⟨vm0, k0, rfl, hS, hk⟩ := hB
  obtain ⟨hx, hZ, hown, r⟩ := Cc
  obtain ⟨A, E, M, Ts, I, L⟩ := id J
  have hH : Jvm.Lit.constHeld Z own index := A.1 _ hC
  have hcw := A.2 a0
  rcases L _ hC with hnot | ⟨a, t, k, lit, says, n1, n2⟩
  · have wi : (Jvm.Cond.instantiable "java/lang/String" 4).before a0 Z = true := wS _ (by simp [Bundle.stringAtoms, Bundle.sN])
    have wa : (Jvm.Cond.arrayClass .byte).before a0 Z = true := wS _ (by simp [Bundle.stringAtoms])
    have hHZ : ConstHeldL Z own index := heldStart hH w hl hcw wa wi
    obtain ⟨a, T', X', hS', ⟨kk, hkk, hrr⟩, hb, hI1, hint, ⟨units, htext, hin⟩, st⟩ := X.ldcColdF (oldF X N) hx (own := own) hown (mvS hZ w) (fun d hd => by
      have q := wS d hd
      simp only [Bundle.stringAtoms, List.mem_cons, List.not_mem_nil, or_false] at hd
      rcases hd with rfl | rfl | rfl | rfl | rfl | rfl | rfl
      · exact mv (s := s.setVm vm0) hZ q
      · exact mv (s := s.setVm vm0) hZ q
      · exact mvA (s := s.setVm vm0) hZ q
      · exact mv (s := s.setVm vm0) hZ q
      · exact mv (s := s.setVm vm0) hZ q
      · exact mv (s := s.setVm vm0) hZ q
      · exact mv (s := s.setVm vm0) hZ q) (heldCarry hZ w I hnot hks.2 hHZ) (fun u hu => Jvm.ClassFile.lat_of_text hu hl) hg hd hn hbig hc hl'
    subst eT
    have E' := ext_of hb
    have hW : Z.Warmed39 T'.vm := State.Warmed39.trans (t := s.setVm vm0) hZ hS'.1
    have hTi : T.vm.interned = vm0.interned := X.warmed.interned_eq
    obtain ⟨t, k, says, hloc⟩ := slin_says hW.alike hin htext hl hsz
    have hf : T'.vm.findClass own = some m.cls := by rw [hS'.1.alike.findClass]; exact hown
    have lit : Lit (s.setVm T'.vm) own index a := by simp [Lit, State.resolvedAt?, hf, hkk, hrr]
    have EZ : Ext Z.heap T'.heap := ⟨Nat.le_trans E.1 E'.1, fun a c q => E'.2 a c (E.2 a c q)⟩
    have hap : (a < Z.heap.size ∧ t < Z.heap.size) ∨ (T.heap.size ≤ a ∧ T.heap.size ≤ t) := by
      rcases hloc with ⟨l1, l2⟩ | q
      · left
        have hcO : Z.vm.findClass own = some m.cls := by rw [← hW.alike.findClass]; exact hf
        have hsT : s.heap.size ≤ T.heap.size := X.same.2.1
        obtain ⟨us, q, cS, rfl, ⟨⟨s1, -, -, ⟨cv, kv, iv, s4, -⟩, -, -, -, s8, -, s10, -⟩, -⟩, -⟩ := own_heldZ (T' := T') hW w I hnot lit hHZ hcO (by
          rcases hI1.2 with q | ⟨u, a', q, q2, -⟩
          · exact Or.inl (q.trans hTi)
          · exact Or.inr ⟨u, a', by rw [q, hTi]; rfl, fun z => absurd l1 (Nat.not_lt.mpr (by rw [z]; exact Nat.le_trans hsT q2))⟩)
        obtain ⟨cell, cf, kf, i, f, f1, f2, -, -, -, -, f7⟩ := says.2.2.1
        cases (EZ.2 _ _ s1).symm.trans f1
        cases s4.symm.trans f2
        cases s8.symm.trans f7
        exact ⟨(Array.getElem?_eq_some_iff.mp s1).1, (Array.getElem?_eq_some_iff.mp s10).1⟩
      · exact Or.inr q
    have n1 : a ∉ ms := fun z => by
      obtain ⟨m1, m2⟩ := M a z
      rcases hap with ⟨h1, -⟩ | ⟨h1, -⟩
      · exact absurd h1 (Nat.not_lt.mpr m1)
      · exact absurd m2 (Nat.not_lt.mpr h1)
    have n2 : t ∉ ms := fun z => by
      obtain ⟨m1, m2⟩ := M t z
      rcases hap with ⟨-, h1⟩ | ⟨-, h1⟩
      · exact absurd h1 (Nat.not_lt.mpr m1)
      · exact absurd m2 (Nat.not_lt.mpr h1)
    refine ⟨a, t, k, s.setVm T'.vm, T', _, rfl, ⟨hx, hW, hf, r⟩, X', ⟨T'.vm, T'.heap.size, rfl, hS.trans hS' (Nat.le_trans hk E'.1), Nat.le_refl _⟩, ⟨A, EZ, fun y hy => ⟨(M y hy).1, Nat.lt_of_lt_of_le (M y hy).2 E'.1⟩, text :: Ts, I.step (by have q := hint; rw [hTi] at q; exact q), fun q hq => ?_⟩, E', says, n1, n2, lit, st⟩
    by_cases hqt : q.2.2 = text
    · obtain rfl := hD q hq hqt
      exact Or.inr ⟨a, t, k, lit, says, n1, n2⟩
    · rcases L q hq with h1 | ⟨a2, t2, k2, l2, s2, r2⟩
      · exact Or.inl (fun z => (List.mem_cons.mp z).elim hqt h1)
      · exact Or.inr ⟨a2, t2, k2, Lit.stays (s := s) (vm0 := vm0) l2 hS'.1, s2.ext E', r2⟩
  · exact ⟨a, t, k, s.setVm vm0, T, h, eT, ⟨hx, hZ, hown, r⟩, X.mono (by omega) (by omega), ⟨vm0, k0, rfl, hS, hk⟩, J, ⟨Nat.le_refl _, fun _ _ q => q⟩, says, n1, n2, lit, ldcAgain X hx hZ hown w lit hg hd⟩
/-- a second load in one walk -/
theorem own_ldcA {a : Addr} (Cc : Cx Z p b m meth c own mybytes ml nm rt) (X : Stand p l e R b m args below meth c T locs cells slots) (hB : Bs s b h) (w : (Jvm.Cond.stringLink own index text).before a0 Z = true) (lit : Lit b own index a) (hg : g.method = m) (hd : decode c.code g.pc = .ok (.ldc index, 2)) :
    ∀ u, Steps p.tables e below (T.setTop { g with pc := g.pc + 2, stack := .ref a :: g.stack }) u → Steps p.tables e below (T.setTop g) u := by
  obtain ⟨vm0, k0, rfl, hS, hk⟩ := hB
  exact ldcAgain X Cc.1 Cc.2.1 Cc.2.2.1 w lit hg hd
end OwnLdc

section OwnStr
abbrev lo8 (x : Int32) : Int32 := x.toInt8.toInt32
theorem oi_toInt {i : Nat} (h : i < 2147483648) : (Int32.ofNat i).toInt = i := Int32.toInt_ofNat_small h
theorem oi_nn {i : Nat} (h : i < 2147483648) : ¬ Int32.ofNat i < 0 := by
  rw [Int32.lt_iff_toInt_lt, oi_toInt h, Int32.toInt_zero]; omega
theorem oi_nat {i : Nat} (h : i < 2147483648) : (Int32.ofNat i).toNatClampNeg = i := by
  have q := nat_of (oi_nn h)
  rw [oi_toInt h] at q; omega
theorem oi_lt {i n : Nat} (hi : i < 2147483648) (hn : n < 2147483648) (q : i < n) : Int32.ofNat i < Int32.ofNat n := by
  rw [Int32.lt_iff_toInt_lt, oi_toInt hi, oi_toInt hn]; omega
theorem oi_nlt {i n : Nat} (hi : i < 2147483648) (hn : n < 2147483648) (q : ¬ i < n) : ¬ Int32.ofNat i < Int32.ofNat n := by
  rw [Int32.lt_iff_toInt_lt, oi_toInt hi, oi_toInt hn]; omega
theorem oi_succ {i : Nat} (h : i + 1 < 2147483648) : Int32.ofNat i + (1 : Int32) = Int32.ofNat (i + 1) := by
  have q := c_iadd (Int32.ofNat i) 1
  have r := rng32 (Int32.ofNat i + 1)
  rw [oi_toInt (by omega), show (1 : Int32).toInt = 1 from rfl] at q
  apply Int32.toInt_inj.mp
  rw [oi_toInt h]; omega
theorem nar_b (x : Int32) : nar .byte (lo8 x) = lo8 x := by
  have a := c_i2b x
  have b := c_i2b (x.toInt8.toInt32)
  apply Int32.toInt_inj.mp
  show (x.toInt8.toInt32.toInt8.toInt32).toInt = x.toInt8.toInt32.toInt
  omega
theorem fits_b (x : Int32) : fits .byte (.int (lo8 x)) = true := fits_nar_byte x
theorem c_rng {x : Int32} (h0 : ¬ x < 0) (h1 : ¬ 65535 < x) : 0 ≤ x.toInt ∧ x.toInt ≤ 65535 := by
  rw [Int32.lt_iff_toInt_lt] at h0 h1
  exact ⟨by simpa using h0, by simpa using h1⟩
theorem nar_c {x : Int32} (h0 : ¬ x < 0) (h1 : ¬ 65535 < x) : nar .char x = x := by
  have a := c_rng h0 h1
  have b := c_i2c x
  apply Int32.toInt_inj.mp
  show (x.toUInt32.toUInt16.toUInt32.toInt32).toInt = x.toInt
  omega
theorem fits_c {x : Int32} (h0 : ¬ x < 0) (h1 : ¬ 65535 < x) : fits .char (.int x) = true := by
  have q := fits_nar_char x
  rwa [nar_c h0 h1] at q
theorem le255 {x : Int32} (h1 : ¬ 255 < x) : ¬ 65535 < x := by
  rw [Int32.lt_iff_toInt_lt] at h1 ⊢
  have a : (255 : Int32).toInt = 255 := by decide
  have b : (65535 : Int32).toInt = 65535 := by decide
  omega
theorem chr8 (x : Int32) : ¬ (x &&& (255 : Int32)).toUInt32.toUInt16.toUInt32.toInt32 < 0 ∧ ¬ 255 < (x &&& (255 : Int32)).toUInt32.toUInt16.toUInt32.toInt32 := by
  rw [i2c_mask]
  have q := c_and x 255 (by decide)
  have a : (255 : Int32).toInt = 255 := by decide
  rw [Int32.lt_iff_toInt_lt, Int32.lt_iff_toInt_lt, Int32.toInt_zero]
  omega
theorem own_push {Z : State} {h h' : Heap} {a : Addr} {k : ClassId} {ty : FieldType} {z j : Int32} {vs : List Value} {v dv : Value} (V : Arv Z h a k ty z vs dv) (W : Wr h h' a j.toNatClampNeg v) (hj : j.toNatClampNeg = vs.length) (hv : fits ty v = true) : Arv Z h' a k ty z (vs ++ [v]) dv := by
  obtain ⟨c, A, q1, S, q3, H, G⟩ := V.pad (pad_rep vs dv 1)
  have q := Arv.set A q1 S q3 H G hv W vs.length hj (by simp)
  simpa [List.set_append] using q
theorem getD_int (cs : List Int32) (i : Nat) : (cs.map Value.int).getD i (.int 0) = .int (cs.getD i 0) := by
  simp only [List.getD_eq_getElem?_getD, List.getElem?_map]
  cases cs[i]? <;> rfl
theorem take_push (cs : List Int32) {i : Nat} (h : i < cs.length) (f : Int32 → Value) : (cs.take i).map f ++ [f (cs.getD i 0)] = (cs.take (i + 1)).map f := by
  rw [List.take_succ_eq_append_getElem h, List.map_append, List.getD_eq_getElem?_getD, List.getElem?_eq_getElem h]; rfl
theorem mem_getD {cs : List Int32} {i : Nat} (h : i < cs.length) : cs.getD i 0 ∈ cs := by
  rw [List.getD_eq_getElem?_getD, List.getElem?_eq_getElem h]; exact List.getElem_mem h
theorem oi_inj {a b : Nat} (ha : a < 2147483648) (hb : b < 2147483648) (q : Int32.ofNat a = Int32.ofNat b) : a = b := by
  have r := congrArg Int32.toInt q
  rw [oi_toInt ha, oi_toInt hb] at r; omega
theorem oi_nil {cs : List Int32} {n : Nat} (hn : cs.length ≤ n) (q : Int32.ofNat cs.length = 0) (hs : n < 2147483648 := by decide) : cs = [] := by
  have r := oi_inj (b := 0) (by omega) (by decide) q
  exact List.eq_nil_of_length_eq_zero r
theorem asB {Z : State} {h : Heap} {t : Addr} {k : ClassId} {cs : List Int32} {dv : Value} (q : Arv Z h t k .byte (Int32.ofNat cs.length) (cs.map fun x => Value.int (lo8 x)) dv) : Arv Z h t k .byte (Int32.ofNat (cs.map lo8).length) ((cs.map lo8).map Value.int) dv := by
  rw [List.length_map, List.map_map]; exact q
theorem teq_all {b1 b2 : List Int32} {i : Nat} (hl : b1.length = b2.length) (hi : i + 0 = b1.length) (h : b1.take i = b2.take i) : b1 = b2 := by
  have e : i = b1.length := by omega
  rw [e, List.take_length, hl, List.take_length] at h; exact h
theorem teq_step {b1 b2 : List Int32} {i : Nat} (h : b1.take i = b2.take i) (h1 : i < b1.length) (h2 : i < b2.length) (q : b1.getD i 0 = b2.getD i 0) : b1.take (i + 1) = b2.take (i + 1) := by
  rw [List.getD_eq_getElem?_getD, List.getD_eq_getElem?_getD, List.getElem?_eq_getElem h1, List.getElem?_eq_getElem h2] at q
  rw [List.take_succ_eq_append_getElem h1, List.take_succ_eq_append_getElem h2, h]
  exact congrArg (fun z => b2.take i ++ [z]) q
theorem nar_z {x : Int32} (h : x = 1 ∨ x = 0) : nar .boolean x = x := by rcases h with rfl | rfl <;> decide
theorem fits_z {x : Int32} (h : x = 1 ∨ x = 0) : fits .boolean (.int x) = true := by rcases h with rfl | rfl <;> decide
theorem and3 (x : Int32) : x &&& 3 = 0 ∨ x &&& 3 = 1 ∨ x &&& 3 = 2 ∨ x &&& 3 = 3 := by
  have q := c_and x 3 (by decide)
  have a : (3 : Int32).toInt = 3 := by decide
  have r : (x &&& 3).toInt = 0 ∨ (x &&& 3).toInt = 1 ∨ (x &&& 3).toInt = 2 ∨ (x &&& 3).toInt = 3 := by omega
  rcases r with r | r | r | r
  · exact Or.inl (Int32.toInt_inj.mp r)
  · exact Or.inr (Or.inl (Int32.toInt_inj.mp r))
  · exact Or.inr (Or.inr (Or.inl (Int32.toInt_inj.mp r)))
  · exact Or.inr (Or.inr (Or.inr (Int32.toInt_inj.mp r)))
theorem rem3 (x : Int32) : (x &&& 3) % 3 = 0 ∨ (x &&& 3) % 3 = 1 ∨ (x &&& 3) % 3 = 2 := by
  rcases and3 x with r | r | r | r <;> rw [r] <;> decide
theorem lo8_inj {x y : Int32} (hx : ¬ x < 0 ∧ ¬ 255 < x) (hy : ¬ y < 0 ∧ ¬ 255 < y) (h : lo8 x = lo8 y) : x = y := by
  obtain ⟨x0, x1⟩ := hx
  obtain ⟨y0, y1⟩ := hy
  have a : (255 : Int32).toInt = 255 := by decide
  rw [Int32.lt_iff_toInt_lt, Int32.toInt_zero] at x0 y0
  rw [Int32.lt_iff_toInt_lt] at x1 y1
  have q : x.toInt8.toInt32.toInt = y.toInt8.toInt32.toInt := congrArg Int32.toInt h
  have cx := c_i2b x
  have cy := c_i2b y
  apply Int32.toInt_inj.mp
  omega
theorem q_back {q : Int32} (h : ¬ q < 0) : Int32.ofNat q.toNatClampNeg = q := by
  have a := nat_of h
  have r := rng32 q
  apply Int32.toInt_inj.mp
  rw [oi_toInt (by omega), a]
theorem own_idx {j : Int32} {n : Nat} (h : ¬ (j < 0 ∨ n ≤ j.toNatClampNeg)) : j.toNatClampNeg.toInt32 = j := q_back (fun q => h (Or.inl q))
end OwnStr

theorem litI_nil : litI "" = [] := by decide +kernel
theorem asN {Z : State} {h : Heap} {t : Addr} {k : ClassId} {cs : List Int32} {dv : Value} (q : Arv Z h t k .byte (Int32.ofNat (litI "").length) ((litI "").map Value.int) dv) (e : cs = []) : Arv Z h t k .byte (Int32.ofNat (cs.map lo8).length) ((cs.map lo8).map Value.int) dv := by
  rw [litI_nil] at q; subst e; exact q
theorem own_compact {Z : State} {a1 a0 : Array Value} (q : (Jvm.Cond.not (Jvm.Cond.eq (Jvm.Term.static "java/lang/String" "COMPACT_STRINGS" "Z") (Jvm.Term.int 0))).before a1 Z = true) : Jvm.Lit.compactW.before a0 Z = true := q

theorem own_wS (Z : State) (a0 : Array Value) (hw : ∀ d ∈ tables_1, d.before a0 Z = true) : ∀ a ∈ Bundle.stringAtoms, a.before a0 Z = true := by
  intro a ha
  simp only [Bundle.stringAtoms, List.mem_cons, List.not_mem_nil, or_false] at ha
  rcases ha with rfl | rfl | rfl | rfl | rfl | rfl | rfl
  · exact (hw _ (List.mem_of_getElem? (i := 8) rfl))
  · exact (hw _ (List.mem_of_getElem? (i := 7) rfl))
  · exact (hw _ (List.mem_of_getElem? (i := 24) rfl))
  · exact (hw _ (List.mem_of_getElem? (i := 34) rfl))
  · exact (hw _ (List.mem_of_getElem? (i := 32) rfl))
  · exact (hw _ (List.mem_of_getElem? (i := 39) rfl))
  · exact (hw _ (List.mem_of_getElem? (i := 40) rfl))

def bR : List Int32 := [114, 101, 112, 101, 97, 116, 101, 100, 32, 115, 116, 114, 105, 110, 103]
def bS : List Int32 := [115, 116, 114, 105, 110, 103]
def atV (b : List Int32) (i q c : Int32) : Int32 := if i = q then c else if i < Int32.ofNat b.length then b.getD i.toNatClampNeg 0 else c
def outL (b : List Int32) (n : Nat) (q c : Int32) : List Int32 := (List.range n).map fun i => atV b (Int32.ofNat i) q c
abbrev rng (x : Int32) : Prop := ¬ x < 0 ∧ ¬ 255 < x
theorem atV_rng {b : List Int32} (hb : ∀ x ∈ b, rng x) {i q c : Int32} (hi : ¬ i < 0) (hn : b.length < 2147483648) (hc : rng c) : rng (atV b i q c) := by
  unfold atV
  split
  · exact hc
  · split
    · rename_i h
      refine hb _ (mem_getD ?_)
      rw [Int32.lt_iff_toInt_lt, oi_toInt hn, nat_of hi] at h; omega
    · exact hc
theorem outL_len (b : List Int32) (n : Nat) (q c : Int32) : (outL b n q c).length = n := by simp [outL]
theorem outL_push (b : List Int32) (i : Nat) (q c : Int32) : (outL b i q c).map Value.int ++ [.int (atV b (Int32.ofNat i) q c)] = (outL b (i + 1) q c).map Value.int := by
  simp [outL, List.range_succ]
theorem outL_rng {b : List Int32} (hb : ∀ x ∈ b, rng x) {n : Nat} {q c : Int32} (hm : n < 2147483648) (hn : b.length < 2147483648) (hc : rng c) : ∀ x ∈ outL b n q c, rng x := by
  intro x hx
  obtain ⟨i, hi, rfl⟩ := List.mem_map.mp hx
  have := List.mem_range.mp hi
  exact atV_rng hb (oi_nn (by omega)) hn hc
theorem bR_rng : ∀ x ∈ bR, rng x := by decide +kernel
theorem bS_rng : ∀ x ∈ bS, rng x := by decide +kernel
theorem outL_eq {b : List Int32} (hn : b.length < 2147483648) (hb : ∀ x ∈ b, rng x) {q c : Int32} (hc : rng c) (hq : ¬ q < 0) : (outL b b.length q c).map lo8 = b.map lo8 ↔ (¬ q < Int32.ofNat b.length ∨ c = b.getD q.toNatClampNeg 0) := by
  constructor
  · intro h
    by_cases hlt : q < Int32.ofNat b.length
    · right
      have hj : q.toNatClampNeg < b.length := by
        rw [Int32.lt_iff_toInt_lt, oi_toInt hn, nat_of hq] at hlt; omega
      have e := congrArg (fun l : List Int32 => l[q.toNatClampNeg]?) h
      simp only [outL, List.getElem?_map, List.getElem?_range hj, Option.map_some, List.getElem?_eq_getElem hj, Option.some.injEq, q_back hq] at e
      have e2 : atV b q q c = c := by simp [atV]
      rw [e2] at e
      rw [List.getD_eq_getElem?_getD, List.getElem?_eq_getElem hj]
      exact lo8_inj hc (hb _ (List.getElem_mem hj)) e
    · exact Or.inl hlt
  · intro h
    refine List.ext_getElem (by simp [outL]) fun i h1 h2 => ?_
    have hi : i < b.length := by simpa using h2
    simp only [outL, List.getElem_map, List.getElem_range]
    congr 1
    have hg : b.getD i 0 = b[i] := by rw [List.getD_eq_getElem?_getD, List.getElem?_eq_getElem hi]; rfl
    unfold atV
    by_cases e : Int32.ofNat i = q
    · rw [if_pos e]
      rcases h with h | h
      · exact absurd (e ▸ oi_lt (by omega) hn hi) h
      · rw [h, ← e, oi_nat (by omega), hg]
    · rw [if_neg e, if_pos (oi_lt (by omega) hn hi), oi_nat (by omega), hg]
theorem len_ne {b : List Int32} {n : Nat} {q c : Int32} {t : String} (h : n ≠ (litI t).length) (z : (outL b n q c).map lo8 = litI t) : False := h (by have r := congrArg List.length z; rwa [List.length_map, outL_len] at r)
theorem lR : litI "repeated string" = bR.map lo8 := by decide +kernel
theorem lS : litI "string" = bS.map lo8 := by decide +kernel
theorem dl3 (x : Int32) : ((x.toUInt32 >>> ((1 : Int32) &&& 31).toUInt32).toInt32 % (3 : Int32)) - (1 : Int32) = (-1 : Int32) ∨ ((x.toUInt32 >>> ((1 : Int32) &&& 31).toUInt32).toInt32 % (3 : Int32)) - (1 : Int32) = (0 : Int32) ∨ ((x.toUInt32 >>> ((1 : Int32) &&& 31).toUInt32).toInt32 % (3 : Int32)) - (1 : Int32) = (1 : Int32) := by
  have a := c_iushr x 1 1 (by decide) (by decide)
  have r := rng32 x
  generalize (x.toUInt32 >>> ((1 : Int32) &&& 31).toUInt32).toInt32 = y at a ⊢
  have hy : 0 ≤ y.toInt := by omega
  have b := (c_irem y 3 3 (by decide)).1 hy
  generalize hz : y % 3 = z at b ⊢
  have hz3 : z.toInt = 0 ∨ z.toInt = 1 ∨ z.toInt = 2 := by omega
  rcases hz3 with q | q | q
  · have : z = 0 := Int32.toInt_inj.mp q
    rw [this]; exact Or.inl (by decide)
  · have : z = 1 := Int32.toInt_inj.mp q
    rw [this]; exact Or.inr (Or.inl (by decide))
  · have : z = 2 := Int32.toInt_inj.mp q
    rw [this]; exact Or.inr (Or.inr (by decide))
theorem rem16 (x : Int32) : ¬ ((x &&& (2147483647 : Int32)) % (16 : Int32)) < 0 ∧ ((x &&& (2147483647 : Int32)) % (16 : Int32)).toInt < 16 := by
  have a := (c_and x 2147483647 (by decide)).1
  have b := (c_irem (x &&& 2147483647) 16 16 (by decide)).1 a
  rw [Int32.lt_iff_toInt_lt, Int32.toInt_zero]
  omega
def resV (rp : Int32) (b : List Int32) : Int32 := if rp = 0 then (if b = litI "string" then 1 else 0) else (if b = litI "repeated string" then 1 else 0)
theorem resV_z (rp : Int32) (b : List Int32) : resV rp b = 1 ∨ resV rp b = 0 := by
  unfold resV
  by_cases h : rp = 0
  · rw [if_pos h]
    by_cases g : b = litI "string"
    · exact Or.inl (if_pos g)
    · exact Or.inr (if_neg g)
  · rw [if_neg h]
    by_cases g : b = litI "repeated string"
    · exact Or.inl (if_pos g)
    · exact Or.inr (if_neg g)
theorem fin_R {rp q c : Int32} (hz : rp = 1 ∨ rp = 0) (hc : rng c) (hq : ¬ q < 0) : resV rp ((outL bR 15 q c).map lo8) = if ((1 : Int32) = rp ∧ (¬ q < 15 ∨ c = bR.getD q.toNatClampNeg 0)) then 1 else 0 := by
  unfold resV
  have E : (outL bR 15 q c).map lo8 = bR.map lo8 ↔ ¬ q < 15 ∨ c = bR.getD q.toNatClampNeg 0 := outL_eq (b := bR) (by decide) bR_rng hc hq
  rcases hz with rfl | rfl
  · rw [if_neg (by decide), lR]
    by_cases u : (¬ q < 15 ∨ c = bR.getD q.toNatClampNeg 0)
    · rw [if_pos (E.mpr u), if_pos ⟨rfl, u⟩]
    · rw [if_neg (fun z => u (E.mp z)), if_neg (fun z => u z.2)]
  · rw [if_pos rfl, if_neg (len_ne (by decide +kernel)), if_neg (fun z => absurd z.1 (by decide))]
theorem fin_S {rp q c : Int32} (hz : rp = 1 ∨ rp = 0) (hc : rng c) (hq : ¬ q < 0) : resV rp ((outL bS 6 q c).map lo8) = if ((0 : Int32) = rp ∧ (¬ q < 6 ∨ c = bS.getD q.toNatClampNeg 0)) then 1 else 0 := by
  unfold resV
  have E : (outL bS 6 q c).map lo8 = bS.map lo8 ↔ ¬ q < 6 ∨ c = bS.getD q.toNatClampNeg 0 := outL_eq (b := bS) (by decide) bS_rng hc hq
  rcases hz with rfl | rfl
  · rw [if_neg (by decide), if_neg (len_ne (by decide +kernel)), if_neg (fun z => absurd z.1 (by decide))]
  · rw [if_pos rfl, lS]
    by_cases u : (¬ q < 6 ∨ c = bS.getD q.toNatClampNeg 0)
    · rw [if_pos (E.mpr u), if_pos ⟨rfl, u⟩]
    · rw [if_neg (fun z => u (E.mp z)), if_neg (fun z => u z.2)]
theorem fin_N {rp q c : Int32} {b : List Int32} {n : Nat} (h1 : n ≠ (litI "string").length) (h2 : n ≠ (litI "repeated string").length) : resV rp ((outL b n q c).map lo8) = 0 := by
  unfold resV
  split
  · rw [if_neg (len_ne h1)]
  · rw [if_neg (len_ne h2)]

theorem Arv.fill0 {Z : State} {h : Heap} {a : Addr} {k : ClassId} {z : Int32} {vs : List Value} {q c : Int32} {b : List Int32} (V : Arv Z h a k .char z vs (.int 0)) (e : vs = List.replicate vs.length (.int 0) := by rfl) : Arv Z h a k .char z ((outL b 0 q c).map Value.int) (.int 0) := by
  obtain ⟨cl, A, q1, S, N, H, G⟩ := V
  have g0 : ∀ i, vs.getD i (.int 0) = .int 0 := fun i => by
    rw [e, List.getD_eq_getElem?_getD]
    by_cases hi : i < vs.length
    · rw [List.getElem?_replicate, if_pos hi]; rfl
    · rw [List.getElem?_replicate, if_neg hi]; rfl
  exact ⟨cl, A, q1, S, N, fun i hi => by rw [H i hi, g0]; rfl, fun i hi => by have r := G i hi; rw [g0] at r; exact r⟩

theorem d6_3 : decode jdk_52_method_21_code 3 = .ok (.iload 5, 2) := by decide +kernel
theorem d6_5 : decode jdk_52_method_21_code 5 = .ok (.iload 4, 2) := by decide +kernel
theorem d6_7 : decode jdk_52_method_21_code 7 = .ok (.if_icmp .ge 37, 3) := by decide +kernel
theorem d6_44 : decode jdk_52_method_21_code 44 = .ok (.iload 4, 2) := by decide +kernel
theorem d6_46 : decode jdk_52_method_21_code 46 = .ok (.ireturn, 1) := by decide +kernel
theorem d6_10 : decode jdk_52_method_21_code 10 = .ok (.aload_n 0, 1) := by decide +kernel
theorem d6_11 : decode jdk_52_method_21_code 11 = .ok (.iload_n 1, 1) := by decide +kernel
theorem d6_12 : decode jdk_52_method_21_code 12 = .ok (.caload, 1) := by decide +kernel
theorem d6_13 : decode jdk_52_method_21_code 13 = .ok (.istore 6, 2) := by decide +kernel
theorem d6_15 : decode jdk_52_method_21_code 15 = .ok (.iload 6, 2) := by decide +kernel
theorem d6_17 : decode jdk_52_method_21_code 17 = .ok (.sipush 255, 3) := by decide +kernel
theorem d6_20 : decode jdk_52_method_21_code 20 = .ok (.if_icmp .le 6, 3) := by decide +kernel
theorem d6_26 : decode jdk_52_method_21_code 26 = .ok (.aload_n 2, 1) := by decide +kernel
theorem d6_27 : decode jdk_52_method_21_code 27 = .ok (.iload_n 3, 1) := by decide +kernel
theorem d6_28 : decode jdk_52_method_21_code 28 = .ok (.iload 6, 2) := by decide +kernel
theorem d6_30 : decode jdk_52_method_21_code 30 = .ok (.i2b, 1) := by decide +kernel
theorem d6_31 : decode jdk_52_method_21_code 31 = .ok (.bastore, 1) := by decide +kernel
theorem d6_32 : decode jdk_52_method_21_code 32 = .ok (.iinc 1 1, 3) := by decide +kernel
theorem d6_35 : decode jdk_52_method_21_code 35 = .ok (.iinc 3 1, 3) := by decide +kernel
theorem d6_38 : decode jdk_52_method_21_code 38 = .ok (.iinc 5 1, 3) := by decide +kernel
theorem d6_41 : decode jdk_52_method_21_code 41 = .ok (.goto (-38), 3) := by decide +kernel
theorem own_st6 {v0 v1 v2 v3 v4 v5 : Value} {s6 : Slot} {x : Int32} (h : One s6) : storeLocals #[.val v0, .val v1, .val v2, .val v3, .val v4, .val v5, s6] 6 (.int x) = some #[.val v0, .val v1, .val v2, .val v3, .val v4, .val v5, .val (.int x)] := by
  rcases h with rfl | ⟨w, rfl, hw⟩
  · rfl
  · cases w <;> first | rfl | (simp [Value.category] at hw)

set_option maxRecDepth 65536 in
set_option maxHeartbeats 40000000 in
theorem cloop {l : Launch} {Z : State} {p : Program} {e : Env} {R : Room} {s b : State} {m : MethodId} {args : Array Value} {below : List Frame} {meth : Method} {c : Code} {K N : Nat} {Q : Option Value → Vm → Heap → List Loc → Prop} {ms : List Addr} {h0 : Heap} {n0 nb : Nat} (Cc : Cx Z p b m meth c "java/lang/StringUTF16" jdk_52_method_21_code 7 "compress" (some .int)) (a1 a2 : Addr) (k1 k2 : ClassId) (cs : List Int32) (hn : cs.length ≤ 16) (hr : ∀ x ∈ cs, ¬ x < 0 ∧ ¬ 255 < x) (ne12 : a1 ≠ a2) (hb0 : n0 ≤ nb) (hnb : nb ≤ h0.size) (fr_a2 : nb ≤ a2) (hm_a2 : a2 ∈ ms)
    (hQ : ∀ vm h L, Keep h0 h [a2] → Fr nb L → Arv Z h a2 k2 .byte (Int32.ofNat cs.length) (cs.map fun x => Value.int (lo8 x)) (.int 0) → Q (some (.int (Int32.ofNat cs.length))) vm h L) :
    ∀ (r i : Nat), i + r = cs.length → ∀ (T : State) (h : Heap) (locs : List Loc) (cells slots : Nat) (s6 : Slot), One s6 → Stand p l e R b m args below meth c T locs cells slots → T.heap = h → Old Z n0 h → Fr nb locs → Keep h0 h [a2] → Hd Z ms b.vm h → Bs s b h → Arv Z h a1 k1 .char (Int32.ofNat cs.length) (cs.map Value.int) (.int 0) → Arv Z h a2 k2 .byte (Int32.ofNat cs.length) ((cs.take i).map fun x => Value.int (lo8 x)) (.int 0) → cells ≤ K → slots ≤ N →
      Go p e s below K N (Hd Z ms) Q T (mkF m 3 #[.val (.ref a1), .val (.int (Int32.ofNat i)), .val (.ref a2), .val (.int (Int32.ofNat i)), .val (.int (Int32.ofNat cs.length)), .val (.int (Int32.ofNat i)), s6] []) := by
  obtain ⟨hx, hZ, hown, hby, hml, hnm, hret, hlk⟩ := id Cc
  intro r
  induction r with
  | zero =>
    intro i hi T h locs cells slots s6 one6 X eT O0 N0 K0 J0 B0 V1 V2 hK hN
    show Go p e s below _ _ _ _ T (mkF m 3 #[.val (.ref a1), .val (.int (Int32.ofNat i)), .val (.ref a2), .val (.int (Int32.ofNat i)), .val (.int (Int32.ofNat cs.length)), .val (.int (Int32.ofNat i)), s6] [])
    refine Go.of (fun _ hr => XS.iload X.here hx rfl (hb hby d6_3) rfl  hr) ?_
    show Go p e s below _ _ _ _ T (mkF m 5 #[.val (.ref a1), .val (.int (Int32.ofNat i)), .val (.ref a2), .val (.int (Int32.ofNat i)), .val (.int (Int32.ofNat cs.length)), .val (.int (Int32.ofNat i)), s6] [(.int (Int32.ofNat i))])
    refine Go.of (fun _ hr => XS.iload X.here hx rfl (hb hby d6_5) rfl  hr) ?_
    show Go p e s below _ _ _ _ T (mkF m 7 #[.val (.ref a1), .val (.int (Int32.ofNat i)), .val (.ref a2), .val (.int (Int32.ofNat i)), .val (.int (Int32.ofNat cs.length)), .val (.int (Int32.ofNat i)), s6] [(.int (Int32.ofNat cs.length)), (.int (Int32.ofNat i))])
    refine Go.of (fun _ hr => XS.icmpYes X.here hx rfl (pc0 := 7) (pc' := 44) rfl (hb hby d6_7) rfl (flt (oi_nlt (by omega) (by omega) (by omega))).2.1 (by decide) (by decide) hr) ?_
    show Go p e s below _ _ _ _ T (mkF m 44 #[.val (.ref a1), .val (.int (Int32.ofNat i)), .val (.ref a2), .val (.int (Int32.ofNat i)), .val (.int (Int32.ofNat cs.length)), .val (.int (Int32.ofNat i)), s6] [])
    refine Go.of (fun _ hr => XS.iload X.here hx rfl (hb hby d6_44) rfl  hr) ?_
    show Go p e s below _ _ _ _ T (mkF m 46 #[.val (.ref a1), .val (.int (Int32.ofNat i)), .val (.ref a2), .val (.int (Int32.ofNat i)), .val (.int (Int32.ofNat cs.length)), .val (.int (Int32.ofNat i)), s6] [(.int (Int32.ofNat cs.length))])
    exact Go.retI X hx hlk B0 J0 eT hret (hb hby d6_46) (by omega) (by omega) (fun _ _ => hQ _ _ _ K0 N0 (by have q := V2; rw [show i = cs.length by omega, List.take_length] at q; exact q))
  | succ r ih =>
    intro i hi T h locs cells slots s6 one6 X eT O0 N0 K0 J0 B0 V1 V2 hK hN
    show Go p e s below _ _ _ _ T (mkF m 3 #[.val (.ref a1), .val (.int (Int32.ofNat i)), .val (.ref a2), .val (.int (Int32.ofNat i)), .val (.int (Int32.ofNat cs.length)), .val (.int (Int32.ofNat i)), s6] [])
    refine Go.of (fun _ hr => XS.iload X.here hx rfl (hb hby d6_3) rfl  hr) ?_
    show Go p e s below _ _ _ _ T (mkF m 5 #[.val (.ref a1), .val (.int (Int32.ofNat i)), .val (.ref a2), .val (.int (Int32.ofNat i)), .val (.int (Int32.ofNat cs.length)), .val (.int (Int32.ofNat i)), s6] [(.int (Int32.ofNat i))])
    refine Go.of (fun _ hr => XS.iload X.here hx rfl (hb hby d6_5) rfl  hr) ?_
    show Go p e s below _ _ _ _ T (mkF m 7 #[.val (.ref a1), .val (.int (Int32.ofNat i)), .val (.ref a2), .val (.int (Int32.ofNat i)), .val (.int (Int32.ofNat cs.length)), .val (.int (Int32.ofNat i)), s6] [(.int (Int32.ofNat cs.length)), (.int (Int32.ofNat i))])
    refine Go.of (fun _ hr => XS.icmpNo X.here hx rfl (hb hby d6_7) rfl (tlt (oi_lt (by omega) (by omega) (by omega))).2.1 hr) ?_
    show Go p e s below _ _ _ _ T (mkF m 10 #[.val (.ref a1), .val (.int (Int32.ofNat i)), .val (.ref a2), .val (.int (Int32.ofNat i)), .val (.int (Int32.ofNat cs.length)), .val (.int (Int32.ofNat i)), s6] [])
    refine Go.of (fun _ hr => XS.aloadN X.here hx rfl (hb hby d6_10) rfl rfl hr) ?_
    show Go p e s below _ _ _ _ T (mkF m 11 #[.val (.ref a1), .val (.int (Int32.ofNat i)), .val (.ref a2), .val (.int (Int32.ofNat i)), .val (.int (Int32.ofNat cs.length)), .val (.int (Int32.ofNat i)), s6] [(.ref a1)])
    refine Go.of (fun _ hr => XS.iloadN X.here hx rfl (hb hby d6_11) rfl  hr) ?_
    show Go p e s below _ _ _ _ T (mkF m 12 #[.val (.ref a1), .val (.int (Int32.ofNat i)), .val (.ref a2), .val (.int (Int32.ofNat i)), .val (.int (Int32.ofNat cs.length)), .val (.int (Int32.ofNat i)), s6] [(.int (Int32.ofNat i)), (.ref a1)])
    obtain ⟨x, hxe⟩ : ∃ x, cs.getD i 0 = x := ⟨_, rfl⟩
    have hxr := hr _ (hxe ▸ mem_getD (show i < cs.length by omega))
    obtain ⟨cl101, Ar101, q101, S101, N101_, H101, G101⟩ := id V1
    have hin101 : ¬ ((Int32.ofNat i) < 0 ∨ cl101.slots.size ≤ ((Int32.ofNat i)).toNatClampNeg) := inb_of S101 ⟨oi_nn (by omega), oi_lt (by omega) (by omega) (by omega)⟩
    refine Go.of (fun _ hr => X.caload hx (j := (Int32.ofNat i)) (v := (.int x)) (by rw [eT]; exact Ar101.1) (State.isArrayOf_alike hZ.alike Ar101.2.1) Ar101.2.2 hin101 (H101.at hin101 (by rw [oi_nat (by omega), getD_int, hxe])) (g := (mkF m 12 #[.val (.ref a1), .val (.int (Int32.ofNat i)), .val (.ref a2), .val (.int (Int32.ofNat i)), .val (.int (Int32.ofNat cs.length)), .val (.int (Int32.ofNat i)), s6] [(.int (Int32.ofNat i)), (.ref a1)])) rfl rfl (hb hby d6_12) _ hr) ?_
    show Go p e s below _ _ _ _ T (mkF m 13 #[.val (.ref a1), .val (.int (Int32.ofNat i)), .val (.ref a2), .val (.int (Int32.ofNat i)), .val (.int (Int32.ofNat cs.length)), .val (.int (Int32.ofNat i)), s6] [(.int x)])
    refine Go.of (fun _ hr => XS.istore X.here hx rfl (hb hby d6_13) rfl (l' := #[.val (.ref a1), .val (.int (Int32.ofNat i)), .val (.ref a2), .val (.int (Int32.ofNat i)), .val (.int (Int32.ofNat cs.length)), .val (.int (Int32.ofNat i)), .val (.int x)]) (own_st6 one6) hr) ?_
    show Go p e s below _ _ _ _ T (mkF m 15 #[.val (.ref a1), .val (.int (Int32.ofNat i)), .val (.ref a2), .val (.int (Int32.ofNat i)), .val (.int (Int32.ofNat cs.length)), .val (.int (Int32.ofNat i)), .val (.int x)] [])
    refine Go.of (fun _ hr => XS.iload X.here hx rfl (hb hby d6_15) rfl  hr) ?_
    show Go p e s below _ _ _ _ T (mkF m 17 #[.val (.ref a1), .val (.int (Int32.ofNat i)), .val (.ref a2), .val (.int (Int32.ofNat i)), .val (.int (Int32.ofNat cs.length)), .val (.int (Int32.ofNat i)), .val (.int x)] [(.int x)])
    refine Go.of (fun _ hr => XS.sipush X.here hx rfl (hb hby d6_17) hr) ?_
    show Go p e s below _ _ _ _ T (mkF m 20 #[.val (.ref a1), .val (.int (Int32.ofNat i)), .val (.ref a2), .val (.int (Int32.ofNat i)), .val (.int (Int32.ofNat cs.length)), .val (.int (Int32.ofNat i)), .val (.int x)] [(.int (255 : Int32)), (.int x)])
    refine Go.of (fun _ hr => XS.icmpYes X.here hx rfl (pc0 := 20) (pc' := 26) rfl (hb hby d6_20) rfl (flt hxr.2).2.2.2 (by decide) (by decide) hr) ?_
    show Go p e s below _ _ _ _ T (mkF m 26 #[.val (.ref a1), .val (.int (Int32.ofNat i)), .val (.ref a2), .val (.int (Int32.ofNat i)), .val (.int (Int32.ofNat cs.length)), .val (.int (Int32.ofNat i)), .val (.int x)] [])
    refine Go.of (fun _ hr => XS.aloadN X.here hx rfl (hb hby d6_26) rfl rfl hr) ?_
    show Go p e s below _ _ _ _ T (mkF m 27 #[.val (.ref a1), .val (.int (Int32.ofNat i)), .val (.ref a2), .val (.int (Int32.ofNat i)), .val (.int (Int32.ofNat cs.length)), .val (.int (Int32.ofNat i)), .val (.int x)] [(.ref a2)])
    refine Go.of (fun _ hr => XS.iloadN X.here hx rfl (hb hby d6_27) rfl  hr) ?_
    show Go p e s below _ _ _ _ T (mkF m 28 #[.val (.ref a1), .val (.int (Int32.ofNat i)), .val (.ref a2), .val (.int (Int32.ofNat i)), .val (.int (Int32.ofNat cs.length)), .val (.int (Int32.ofNat i)), .val (.int x)] [(.int (Int32.ofNat i)), (.ref a2)])
    refine Go.of (fun _ hr => XS.iload X.here hx rfl (hb hby d6_28) rfl  hr) ?_
    show Go p e s below _ _ _ _ T (mkF m 30 #[.val (.ref a1), .val (.int (Int32.ofNat i)), .val (.ref a2), .val (.int (Int32.ofNat i)), .val (.int (Int32.ofNat cs.length)), .val (.int (Int32.ofNat i)), .val (.int x)] [(.int x), (.int (Int32.ofNat i)), (.ref a2)])
    refine Go.of (fun _ hr => XS.i2b X.here hx rfl (hb hby d6_30) rfl hr) ?_
    show Go p e s below _ _ _ _ T (mkF m 31 #[.val (.ref a1), .val (.int (Int32.ofNat i)), .val (.ref a2), .val (.int (Int32.ofNat i)), .val (.int (Int32.ofNat cs.length)), .val (.int (Int32.ofNat i)), .val (.int x)] [(.int (x.toInt8.toInt32)), (.int (Int32.ofNat i)), (.ref a2)])
    obtain ⟨cl102, Ar102, q102, S102, N102_, H102, G102⟩ := id V2
    have hin102 : ¬ (Int32.ofNat i < 0 ∨ cl102.slots.size ≤ (Int32.ofNat i).toNatClampNeg) := inb_of S102 ⟨oi_nn (by omega), oi_lt (by omega) (by omega) (by omega)⟩
    obtain ⟨T102, h102, X102, e102, W102, st102⟩ := stB X hx hZ eT Ar102 (j := Int32.ofNat i) hin102 (g := (mkF m 31 #[.val (.ref a1), .val (.int (Int32.ofNat i)), .val (.ref a2), .val (.int (Int32.ofNat i)), .val (.int (Int32.ofNat cs.length)), .val (.int (Int32.ofNat i)), .val (.int x)] [(.int (x.toInt8.toInt32)), (.int (Int32.ofNat i)), (.ref a2)])) rfl rfl (hb hby d6_31)
    rw [nar_b] at W102
    have V102 : Arv Z h102 a2 k2 .byte (Int32.ofNat cs.length) ((cs.take (i + 1)).map fun x => Value.int (lo8 x)) (.int 0) := by
        have q := own_push V2 W102 (by rw [oi_nat (by omega)]; simp; omega) (fits_b x)
        rw [← hxe, take_push cs (show i < cs.length by omega) (fun x => Value.int (lo8 x))] at q; exact q
    have N102 := Fr.snoc X102 N0 fr_a2
    have J102 := J0.wr W102 hm_a2
    have B102 := B0.mono (Nat.le_of_eq W102.size.symm)
    have O102 := O0.wr W102 (Nat.le_trans hb0 fr_a2)
    have K102 := K0.wr W102 (Or.inl (List.mem_of_getElem? (i := 0) rfl))
    refine Go.of (fun _ hr => st102 _ hr) ?_
    show Go p e s below _ _ _ _ T102 (mkF m 32 #[.val (.ref a1), .val (.int (Int32.ofNat i)), .val (.ref a2), .val (.int (Int32.ofNat i)), .val (.int (Int32.ofNat cs.length)), .val (.int (Int32.ofNat i)), .val (.int x)] [])
    refine Go.of (fun _ hr => XS.iinc X102.here hx rfl (hb hby d6_32) rfl (l' := #[.val (.ref a1), .val (.int ((Int32.ofNat i) + (1 : Int32))), .val (.ref a2), .val (.int (Int32.ofNat i)), .val (.int (Int32.ofNat cs.length)), .val (.int (Int32.ofNat i)), .val (.int x)]) rfl hr) ?_
    show Go p e s below _ _ _ _ T102 (mkF m 35 #[.val (.ref a1), .val (.int ((Int32.ofNat i) + (1 : Int32))), .val (.ref a2), .val (.int (Int32.ofNat i)), .val (.int (Int32.ofNat cs.length)), .val (.int (Int32.ofNat i)), .val (.int x)] [])
    refine Go.of (fun _ hr => XS.iinc X102.here hx rfl (hb hby d6_35) rfl (l' := #[.val (.ref a1), .val (.int ((Int32.ofNat i) + (1 : Int32))), .val (.ref a2), .val (.int ((Int32.ofNat i) + (1 : Int32))), .val (.int (Int32.ofNat cs.length)), .val (.int (Int32.ofNat i)), .val (.int x)]) rfl hr) ?_
    show Go p e s below _ _ _ _ T102 (mkF m 38 #[.val (.ref a1), .val (.int ((Int32.ofNat i) + (1 : Int32))), .val (.ref a2), .val (.int ((Int32.ofNat i) + (1 : Int32))), .val (.int (Int32.ofNat cs.length)), .val (.int (Int32.ofNat i)), .val (.int x)] [])
    refine Go.of (fun _ hr => XS.iinc X102.here hx rfl (hb hby d6_38) rfl (l' := #[.val (.ref a1), .val (.int ((Int32.ofNat i) + (1 : Int32))), .val (.ref a2), .val (.int ((Int32.ofNat i) + (1 : Int32))), .val (.int (Int32.ofNat cs.length)), .val (.int ((Int32.ofNat i) + (1 : Int32))), .val (.int x)]) rfl hr) ?_
    show Go p e s below _ _ _ _ T102 (mkF m 41 #[.val (.ref a1), .val (.int ((Int32.ofNat i) + (1 : Int32))), .val (.ref a2), .val (.int ((Int32.ofNat i) + (1 : Int32))), .val (.int (Int32.ofNat cs.length)), .val (.int ((Int32.ofNat i) + (1 : Int32))), .val (.int x)] [])
    refine Go.of (fun _ hr => XS.goto X102.here hx rfl (pc0 := 41) (pc' := 3) rfl (hb hby d6_41) (by decide) (by decide) hr) ?_
    show Go p e s below _ _ _ _ T102 (mkF m 3 #[.val (.ref a1), .val (.int ((Int32.ofNat i) + (1 : Int32))), .val (.ref a2), .val (.int ((Int32.ofNat i) + (1 : Int32))), .val (.int (Int32.ofNat cs.length)), .val (.int ((Int32.ofNat i) + (1 : Int32))), .val (.int x)] [])
    simp only [oi_succ (show i + 1 < 2147483648 by omega)]
    have f103 := (V1.other W102 ne12)
    exact ih (i + 1) (by omega) T102 h102 _ _ _ _ (One.val rfl) X102 e102 O102 N102 K102 J102 B102 f103 V102 hK hN

theorem pn0 : plainName "java/lang/StringUTF16" = true := by first | (simp [plainName, overriddenIn]; done) | decide +kernel
theorem d6_0 : decode jdk_52_method_21_code 0 = .ok (.iconst 0, 1) := by decide +kernel
theorem d6_1 : decode jdk_52_method_21_code 1 = .ok (.istore 5, 2) := by decide +kernel
set_option maxRecDepth 65536 in
set_option maxHeartbeats 40000000 in
theorem rm6 (l : Launch) (Z : State) (a0 : Array Value) (hw : ∀ d ∈ tables_1, d.before a0 Z = true) (ws : List Jvm.Cond) (a1 a2 : Addr) (k1 k2 : ClassId) (cs : List Int32) (ms : List Addr) (h0 : Heap) (n0 : Nat) (O0 : Old Z n0 h0) (nb : Nat) (hb0 : n0 ≤ nb) (hnb : nb ≤ h0.size) (fr_a2 : nb ≤ a2) (hm_a2 : a2 ∈ ms) (hn : cs.length ≤ 16) (hr : ∀ x ∈ cs, ¬ x < 0 ∧ ¬ 255 < x) (ne12 : a1 ≠ a2) (V1 : Arv Z h0 a1 k1 .char (Int32.ofNat cs.length) (cs.map Value.int) (.int 0)) (V2 : Arv Z h0 a2 k2 .byte (Int32.ofNat cs.length) [] (.int 0)) :
    Con l Z ms (⟨"java/lang/StringUTF16", "compress", "([CI[BII)I"⟩ : MethodName) jdk_52_method_21_code 7 (some .int) ws ({ frames := 0, cells := 0, slots := 0, locals := 0 } : Room) #[(.ref a1), (.int (0 : Int32)), (.ref a2), (.int (0 : Int32)), (.int (Int32.ofNat cs.length))] h0 (fun v vm h L => v = some (.int (Int32.ofNat cs.length)) ∧ Fr nb L ∧ Keep h0 h [a2] ∧ Arv Z h a2 k2 .byte (Int32.ofNat cs.length) (cs.map fun x => Value.int (lo8 x)) (.int 0)) := by
  refine Con.mk (plainFor_of_name pn0) ?_
  intro p e s m below meth c s₁ Cc X0 e0 eb J0 B0 M0
  obtain ⟨hx, hZ, hown, hby, hml, hnm, hret, hlk⟩ := id Cc
  have N0 := Fr.nil nb
  have K0 := Keep.refl h0 [a2]
  show Go p e s below _ _ _ _ s₁ (mkF m 0 #[.val (.ref a1), .val (.int (0 : Int32)), .val (.ref a2), .val (.int (0 : Int32)), .val (.int (Int32.ofNat cs.length)), .unset, .unset] [])
  refine Go.of (fun _ hr => XS.iconst X0.here hx rfl (hb hby d6_0) hr) ?_
  show Go p e s below _ _ _ _ s₁ (mkF m 1 #[.val (.ref a1), .val (.int (0 : Int32)), .val (.ref a2), .val (.int (0 : Int32)), .val (.int (Int32.ofNat cs.length)), .unset, .unset] [(.int (0 : Int32))])
  refine Go.of (fun _ hr => XS.istore X0.here hx rfl (hb hby d6_1) rfl (l' := #[.val (.ref a1), .val (.int (0 : Int32)), .val (.ref a2), .val (.int (0 : Int32)), .val (.int (Int32.ofNat cs.length)), .val (.int (0 : Int32)), .unset]) rfl hr) ?_
  show Go p e s below _ _ _ _ s₁ (mkF m 3 #[.val (.ref a1), .val (.int (0 : Int32)), .val (.ref a2), .val (.int (0 : Int32)), .val (.int (Int32.ofNat cs.length)), .val (.int (0 : Int32)), .unset] [])
  exact cloop Cc a1 a2 k1 k2 cs hn hr ne12 hb0 hnb fr_a2 hm_a2 (fun vm h L q1 q2 q3 => ⟨rfl, q2, q1, q3⟩) cs.length 0 (Nat.zero_add _) s₁ h0 _ _ _ _ One.u X0 e0 O0 N0 K0 J0 B0 V1 V2 (by decide) (by decide)

theorem d5_0 : decode jdk_52_method_16_code 0 = .ok (.iload_n 2, 1) := by decide +kernel
theorem d5_1 : decode jdk_52_method_16_code 1 = .ok (.newarray .byte, 2) := by decide +kernel
theorem d5_3 : decode jdk_52_method_16_code 3 = .ok (.astore_n 3, 1) := by decide +kernel
theorem d5_4 : decode jdk_52_method_16_code 4 = .ok (.aload_n 0, 1) := by decide +kernel
theorem d5_5 : decode jdk_52_method_16_code 5 = .ok (.iload_n 1, 1) := by decide +kernel
theorem d5_6 : decode jdk_52_method_16_code 6 = .ok (.aload_n 3, 1) := by decide +kernel
theorem d5_7 : decode jdk_52_method_16_code 7 = .ok (.iconst 0, 1) := by decide +kernel
theorem d5_8 : decode jdk_52_method_16_code 8 = .ok (.iload_n 2, 1) := by decide +kernel
theorem d5_9 : decode jdk_52_method_16_code 9 = .ok (.invokestatic 115, 3) := by decide +kernel
theorem pd0 : parseMethodDescriptor "([CI[BII)I" = some ⟨[(.array .char), .int, (.array .byte), .int, .int], some .int⟩ := by decide +kernel
theorem d5_12 : decode jdk_52_method_16_code 12 = .ok (.istore 4, 2) := by decide +kernel
theorem d5_14 : decode jdk_52_method_16_code 14 = .ok (.iload 4, 2) := by decide +kernel
theorem d5_16 : decode jdk_52_method_16_code 16 = .ok (.iload_n 2, 1) := by decide +kernel
theorem d5_17 : decode jdk_52_method_16_code 17 = .ok (.if_icmp .eq 40, 3) := by decide +kernel
theorem d5_57 : decode jdk_52_method_16_code 57 = .ok (.aload_n 3, 1) := by decide +kernel
theorem d5_58 : decode jdk_52_method_16_code 58 = .ok (.areturn, 1) := by decide +kernel
set_option maxRecDepth 65536 in
set_option maxHeartbeats 40000000 in
theorem rm5 (l : Launch) (Z : State) (a0 : Array Value) (hw : ∀ d ∈ tables_1, d.before a0 Z = true) (ws : List Jvm.Cond) (a1 : Addr) (k1 : ClassId) (cs : List Int32) (ms : List Addr) (h0 : Heap) (n0 : Nat) (O0 : Old Z n0 h0) (nb : Nat) (hb0 : n0 ≤ nb) (hnb : nb ≤ h0.size) (hn : cs.length ≤ 16) (hr : ∀ x ∈ cs, ¬ x < 0 ∧ ¬ 255 < x) (V1 : Arv Z h0 a1 k1 .char (Int32.ofNat cs.length) (cs.map Value.int) (.int 0)) :
    Con l Z ms (⟨"java/lang/StringUTF16", "compress", "([CII)[B"⟩ : MethodName) jdk_52_method_16_code 6 (some (.array .byte)) ws ({ frames := 1, cells := 1, slots := 16, locals := 18 } : Room) #[(.ref a1), (.int (0 : Int32)), (.int (Int32.ofNat cs.length))] h0 (fun v vm h L => ∃ d k, v = some (.ref d) ∧ Fr nb L ∧ Ext h0 h ∧ h0.size ≤ d ∧ Arv Z h d k .byte (Int32.ofNat cs.length) (cs.map fun x => Value.int (lo8 x)) (.int 0)) := by
  refine Con.mk (plainFor_of_name pn0) ?_
  intro p e s m below meth c s₁ Cc X0 e0 eb J0 B0 M0
  obtain ⟨hx, hZ, hown, hby, hml, hnm, hret, hlk⟩ := id Cc
  have N0 := Fr.nil h0.size
  have K0 := Keep.refl h0 []
  show Go p e s below _ _ _ _ s₁ (mkF m 0 #[.val (.ref a1), .val (.int (0 : Int32)), .val (.int (Int32.ofNat cs.length)), .unset, .unset, .unset] [])
  refine Go.of (fun _ hr => XS.iloadN X0.here hx rfl (hb hby d5_0) rfl  hr) ?_
  show Go p e s below _ _ _ _ s₁ (mkF m 1 #[.val (.ref a1), .val (.int (0 : Int32)), .val (.int (Int32.ofNat cs.length)), .unset, .unset, .unset] [(.int (Int32.ofNat cs.length))])
  obtain ⟨T101, h101, k101, X101, e101, E101, A101, st101⟩ := newP X0 hx hZ (hw _ (List.mem_of_getElem? (i := 24) rfl)) e0 (g := (mkF m 1 #[.val (.ref a1), .val (.int (0 : Int32)), .val (.int (Int32.ofNat cs.length)), .unset, .unset, .unset] [(.int (Int32.ofNat cs.length))])) rfl (hb hby d5_1) rfl (oi_nn (by omega)) (cap := 16) (by rw [oi_nat (by omega)]; exact hn) (by decide) (by decide) (by decide)
  obtain ⟨o101, g101⟩ : ∃ z, z = h0.size := ⟨_, rfl⟩
  rw [← g101] at A101 st101
  have ne_a1_o101 : a1 ≠ o101 := Nat.ne_of_lt (Nat.lt_of_lt_of_le V1.lt (Nat.le_of_eq g101.symm))
  have V101 := Arv.new A101 (oi_nn (by omega))
  have lt101 : o101 < h101.size := A101.lt
  have J101 := J0.add E101 g101 lt101
  have B101 := B0.mono E101.1
  have O101 := O0.ext E101
  have sz101 : h0.size ≤ o101 := Nat.le_trans K0.1 (Nat.le_of_eq g101.symm)
  have fr101 : h0.size ≤ o101 := sz101
  have K101 := K0.ext E101
  refine Go.of (fun _ hr => st101 _ hr) ?_
  show Go p e s below _ _ _ _ T101 (mkF m 3 #[.val (.ref a1), .val (.int (0 : Int32)), .val (.int (Int32.ofNat cs.length)), .unset, .unset, .unset] [(.ref o101)])
  refine Go.of (fun _ hr => XS.astoreN X101.here hx rfl (hb hby d5_3) rfl rfl (l' := #[.val (.ref a1), .val (.int (0 : Int32)), .val (.int (Int32.ofNat cs.length)), .val (.ref o101), .unset, .unset]) rfl hr) ?_
  show Go p e s below _ _ _ _ T101 (mkF m 4 #[.val (.ref a1), .val (.int (0 : Int32)), .val (.int (Int32.ofNat cs.length)), .val (.ref o101), .unset, .unset] [])
  refine Go.of (fun _ hr => XS.aloadN X101.here hx rfl (hb hby d5_4) rfl rfl hr) ?_
  show Go p e s below _ _ _ _ T101 (mkF m 5 #[.val (.ref a1), .val (.int (0 : Int32)), .val (.int (Int32.ofNat cs.length)), .val (.ref o101), .unset, .unset] [(.ref a1)])
  refine Go.of (fun _ hr => XS.iloadN X101.here hx rfl (hb hby d5_5) rfl  hr) ?_
  show Go p e s below _ _ _ _ T101 (mkF m 6 #[.val (.ref a1), .val (.int (0 : Int32)), .val (.int (Int32.ofNat cs.length)), .val (.ref o101), .unset, .unset] [(.int (0 : Int32)), (.ref a1)])
  refine Go.of (fun _ hr => XS.aloadN X101.here hx rfl (hb hby d5_6) rfl rfl hr) ?_
  show Go p e s below _ _ _ _ T101 (mkF m 7 #[.val (.ref a1), .val (.int (0 : Int32)), .val (.int (Int32.ofNat cs.length)), .val (.ref o101), .unset, .unset] [(.ref o101), (.int (0 : Int32)), (.ref a1)])
  refine Go.of (fun _ hr => XS.iconst X101.here hx rfl (hb hby d5_7) hr) ?_
  show Go p e s below _ _ _ _ T101 (mkF m 8 #[.val (.ref a1), .val (.int (0 : Int32)), .val (.int (Int32.ofNat cs.length)), .val (.ref o101), .unset, .unset] [(.int (0 : Int32)), (.ref o101), (.int (0 : Int32)), (.ref a1)])
  refine Go.of (fun _ hr => XS.iloadN X101.here hx rfl (hb hby d5_8) rfl  hr) ?_
  show Go p e s below _ _ _ _ T101 (mkF m 9 #[.val (.ref a1), .val (.int (0 : Int32)), .val (.int (Int32.ofNat cs.length)), .val (.ref o101), .unset, .unset] [(.int (Int32.ofNat cs.length)), (.int (0 : Int32)), (.ref o101), (.int (0 : Int32)), (.ref a1)])
  have f103 := (V1.ext E101)
  obtain ⟨_, b102, T102, h102, L102, e102, Cc102, X102, B102, J102, g102, hQ102, st102⟩ := own_callS Cc B101 J101 X101 (hw _ (List.mem_of_getElem? (i := 25) rfl)) (hw _ (List.mem_of_getElem? (i := 26) rfl)) (hw _ (List.mem_of_getElem? (i := 22) rfl)) (hw _ (List.mem_of_getElem? (i := 27) rfl)) (by decide) (rm6 l Z a0 hw [] a1 o101 _ _ cs _ h101 n0 O101 h0.size (own_ole O0) K101.1 fr101 (List.mem_cons_self ..) hn hr ne_a1_o101 f103 V101) e101 (g := (mkF m 9 #[.val (.ref a1), .val (.int (0 : Int32)), .val (.int (Int32.ofNat cs.length)), .val (.ref o101), .unset, .unset] [(.int (Int32.ofNat cs.length)), (.int (0 : Int32)), (.ref o101), (.int (0 : Int32)), (.ref a1)])) rfl (by rw [hml]; rfl) (argsL := [(.ref a1), (.int (0 : Int32)), (.ref o101), (.int (0 : Int32)), (.int (Int32.ofNat cs.length))]) (rest := []) (lenOf pd0 rfl) rfl (W := 0) (by show 2 * 0 + _ ≤ _; exact Nat.le_of_eq rfl) (hb hby d5_9) (by decide) (by decide) (by decide) (by decide)
  obtain ⟨rfl, Nq102, Kq102, Vd102⟩ := hQ102
  have N102 := Fr.app N0 Nq102
  obtain ⟨hx, hZ, hown, hby, hml, hnm, hret, hlk⟩ := id Cc102
  have K102 := K101.trans Kq102 (allS (Or.inr sz101) all0)
  have O102 := O101.keep Kq102 (allS (Nat.le_trans (own_ole O0) fr101) all0)
  refine Go.of st102 ?_
  show Go p e s below _ _ _ _ T102 (mkF m 12 #[.val (.ref a1), .val (.int (0 : Int32)), .val (.int (Int32.ofNat cs.length)), .val (.ref o101), .unset, .unset] [(.int (Int32.ofNat cs.length))])
  refine Go.of (fun _ hr => XS.istore X102.here hx rfl (hb hby d5_12) rfl (l' := #[.val (.ref a1), .val (.int (0 : Int32)), .val (.int (Int32.ofNat cs.length)), .val (.ref o101), .val (.int (Int32.ofNat cs.length)), .unset]) rfl hr) ?_
  show Go p e s below _ _ _ _ T102 (mkF m 14 #[.val (.ref a1), .val (.int (0 : Int32)), .val (.int (Int32.ofNat cs.length)), .val (.ref o101), .val (.int (Int32.ofNat cs.length)), .unset] [])
  refine Go.of (fun _ hr => XS.iload X102.here hx rfl (hb hby d5_14) rfl  hr) ?_
  show Go p e s below _ _ _ _ T102 (mkF m 16 #[.val (.ref a1), .val (.int (0 : Int32)), .val (.int (Int32.ofNat cs.length)), .val (.ref o101), .val (.int (Int32.ofNat cs.length)), .unset] [(.int (Int32.ofNat cs.length))])
  refine Go.of (fun _ hr => XS.iloadN X102.here hx rfl (hb hby d5_16) rfl  hr) ?_
  show Go p e s below _ _ _ _ T102 (mkF m 17 #[.val (.ref a1), .val (.int (0 : Int32)), .val (.int (Int32.ofNat cs.length)), .val (.ref o101), .val (.int (Int32.ofNat cs.length)), .unset] [(.int (Int32.ofNat cs.length)), (.int (Int32.ofNat cs.length))])
  refine Go.of (fun _ hr => XS.icmpYes X102.here hx rfl (pc0 := 17) (pc' := 57) rfl (hb hby d5_17) rfl (teq rfl).1 (by decide) (by decide) hr) ?_
  show Go p e s below _ _ _ _ T102 (mkF m 57 #[.val (.ref a1), .val (.int (0 : Int32)), .val (.int (Int32.ofNat cs.length)), .val (.ref o101), .val (.int (Int32.ofNat cs.length)), .unset] [])
  refine Go.of (fun _ hr => XS.aloadN X102.here hx rfl (hb hby d5_57) rfl rfl hr) ?_
  show Go p e s below _ _ _ _ T102 (mkF m 58 #[.val (.ref a1), .val (.int (0 : Int32)), .val (.int (Int32.ofNat cs.length)), .val (.ref o101), .val (.int (Int32.ofNat cs.length)), .unset] [(.ref o101)])
  exact Go.retA X102 hx hlk B102 (J102.sub fun x hx => (List.mem_cons_of_mem _ hx)) e102 hret rfl rfl (hb hby d5_58) (by decide) (by decide) (fun vm_ hw_ => ⟨_, _, rfl, (fun y hy => Nat.le_trans hnb (N102 y hy)), keep_ext K102, sz101, Vd102⟩)

theorem d7_0 : decode jdk_52_method_15_code 0 = .ok (.iload_n 1, 1) := by decide +kernel
theorem d7_1 : decode jdk_52_method_15_code 1 = .ok (.aload_n 0, 1) := by decide +kernel
theorem d7_2 : decode jdk_52_method_15_code 2 = .ok (.arraylength, 1) := by decide +kernel
theorem d7_3 : decode jdk_52_method_15_code 3 = .ok (.isub, 1) := by decide +kernel
theorem d7_4 : decode jdk_52_method_15_code 4 = .ok (.bipush 31, 2) := by decide +kernel
theorem d7_6 : decode jdk_52_method_15_code 6 = .ok (.iushr, 1) := by decide +kernel
theorem d7_7 : decode jdk_52_method_15_code 7 = .ok (.i2b, 1) := by decide +kernel
theorem d7_8 : decode jdk_52_method_15_code 8 = .ok (.ireturn, 1) := by decide +kernel
set_option maxRecDepth 65536 in
set_option maxHeartbeats 40000000 in
theorem rm7 (l : Launch) (Z : State) (a0 : Array Value) (hw : ∀ d ∈ tables_1, d.before a0 Z = true) (ws : List Jvm.Cond) (a1 : Addr) (k1 : ClassId) (z1 : Int32) (vs : List Value) (dv : Value) (ms : List Addr) (h0 : Heap) (n0 : Nat) (O0 : Old Z n0 h0) (nb : Nat) (hb0 : n0 ≤ nb) (hnb : nb ≤ h0.size) (V1 : Arv Z h0 a1 k1 .byte z1 vs dv) :
    Con l Z ms (⟨"java/lang/StringUTF16", "coderFromArrayLen", "([BI)B"⟩ : MethodName) jdk_52_method_15_code 2 (some .byte) ws ({ frames := 0, cells := 0, slots := 0, locals := 0 } : Room) #[(.ref a1), (.int z1)] h0 (fun v vm h L => v = some (.int 0) ∧ Fr nb L ∧ h = h0) := by
  refine Con.mk (plainFor_of_name pn0) ?_
  intro p e s m below meth c s₁ Cc X0 e0 eb J0 B0 M0
  obtain ⟨hx, hZ, hown, hby, hml, hnm, hret, hlk⟩ := id Cc
  have N0 := Fr.nil h0.size
  have K0 := Keep.refl h0 []
  show Go p e s below _ _ _ _ s₁ (mkF m 0 #[.val (.ref a1), .val (.int z1)] [])
  refine Go.of (fun _ hr => XS.iloadN X0.here hx rfl (hb hby d7_0) rfl  hr) ?_
  show Go p e s below _ _ _ _ s₁ (mkF m 1 #[.val (.ref a1), .val (.int z1)] [(.int z1)])
  refine Go.of (fun _ hr => XS.aloadN X0.here hx rfl (hb hby d7_1) rfl rfl hr) ?_
  show Go p e s below _ _ _ _ s₁ (mkF m 2 #[.val (.ref a1), .val (.int z1)] [(.ref a1), (.int z1)])
  obtain ⟨cl101, Ar101, q101, S101, N101_, H101, G101⟩ := id V1
  refine Go.of (fun _ hr => X0.arraylength hx (by rw [e0]; exact Ar101.1) (State.isArrayOf_alike hZ.alike Ar101.2.1) (g := (mkF m 2 #[.val (.ref a1), .val (.int z1)] [(.ref a1), (.int z1)])) rfl rfl (hb hby d7_2) _ hr) ?_
  rw [len_of S101 N101_]
  show Go p e s below _ _ _ _ s₁ (mkF m 3 #[.val (.ref a1), .val (.int z1)] [(.int z1), (.int z1)])
  refine Go.of (fun _ hr => XS.isub X0.here hx rfl (hb hby d7_3) rfl hr) ?_
  show Go p e s below _ _ _ _ s₁ (mkF m 4 #[.val (.ref a1), .val (.int z1)] [(.int (z1 - z1))])
  rw [Int32.sub_self]
  show Go p e s below _ _ _ _ s₁ (mkF m 4 #[.val (.ref a1), .val (.int z1)] [(.int (0 : Int32))])
  refine Go.of (fun _ hr => XS.bipush X0.here hx rfl (hb hby d7_4) hr) ?_
  show Go p e s below _ _ _ _ s₁ (mkF m 6 #[.val (.ref a1), .val (.int z1)] [(.int (31 : Int32)), (.int (0 : Int32))])
  refine Go.of (fun _ hr => XS.iushr X0.here hx rfl (hb hby d7_6) rfl hr) ?_
  show Go p e s below _ _ _ _ s₁ (mkF m 7 #[.val (.ref a1), .val (.int z1)] [(.int (((0 : Int32).toUInt32 >>> ((31 : Int32) &&& 31).toUInt32).toInt32))])
  refine Go.of (fun _ hr => XS.i2b X0.here hx rfl (hb hby d7_7) rfl hr) ?_
  show Go p e s below _ _ _ _ s₁ (mkF m 8 #[.val (.ref a1), .val (.int z1)] [(.int ((((0 : Int32).toUInt32 >>> ((31 : Int32) &&& 31).toUInt32).toInt32).toInt8.toInt32))])
  exact Go.retN X0 hx hlk B0 J0 e0 (t := .byte) (z' := ((((0 : Int32).toUInt32 >>> ((31 : Int32) &&& 31).toUInt32).toInt32).toInt8.toInt32)) hret (by simp) (hb hby d7_8) (by decide) (by decide) (by decide) (fun vm_ hw_ => ⟨rfl, (fun y hy => Nat.le_trans hnb (N0 y hy)), rfl⟩)

theorem pn1 : plainName "java/lang/String" = true := by first | (simp [plainName, overriddenIn]; done) | decide +kernel
theorem d3_0 : decode jdk_42_method_149_code 0 = .ok (.aload_n 0, 1) := by decide +kernel
theorem d3_1 : decode jdk_42_method_149_code 1 = .ok (.invokespecial 1, 3) := by decide +kernel
theorem d3_4 : decode jdk_42_method_149_code 4 = .ok (.iload_n 3, 1) := by decide +kernel
theorem d3_5 : decode jdk_42_method_149_code 5 = .ok (.ifCond .ne 22, 3) := by decide +kernel
theorem d3_27 : decode jdk_42_method_149_code 27 = .ok (.getstatic 38, 3) := by decide +kernel
theorem d3_30 : decode jdk_42_method_149_code 30 = .ok (.ifCond .eq 28, 3) := by decide +kernel
theorem d3_33 : decode jdk_42_method_149_code 33 = .ok (.aload_n 1, 1) := by decide +kernel
theorem d3_34 : decode jdk_42_method_149_code 34 = .ok (.iload_n 2, 1) := by decide +kernel
theorem d3_35 : decode jdk_42_method_149_code 35 = .ok (.iload_n 3, 1) := by decide +kernel
theorem d3_36 : decode jdk_42_method_149_code 36 = .ok (.invokestatic 177, 3) := by decide +kernel
theorem pd1 : parseMethodDescriptor "([CII)[B" = some ⟨[(.array .char), .int, .int], some (.array .byte)⟩ := by decide +kernel
theorem d3_39 : decode jdk_42_method_149_code 39 = .ok (.astore 5, 2) := by decide +kernel
theorem d3_41 : decode jdk_42_method_149_code 41 = .ok (.aload_n 0, 1) := by decide +kernel
theorem d3_42 : decode jdk_42_method_149_code 42 = .ok (.aload 5, 2) := by decide +kernel
theorem d3_44 : decode jdk_42_method_149_code 44 = .ok (.iload_n 3, 1) := by decide +kernel
theorem d3_45 : decode jdk_42_method_149_code 45 = .ok (.invokestatic 47, 3) := by decide +kernel
theorem pd2 : parseMethodDescriptor "([BI)B" = some ⟨[(.array .byte), .int], some .byte⟩ := by decide +kernel
theorem d3_48 : decode jdk_42_method_149_code 48 = .ok (.putfield 15, 3) := by decide +kernel
theorem d3_51 : decode jdk_42_method_149_code 51 = .ok (.aload_n 0, 1) := by decide +kernel
theorem d3_52 : decode jdk_42_method_149_code 52 = .ok (.aload 5, 2) := by decide +kernel
theorem d3_54 : decode jdk_42_method_149_code 54 = .ok (.putfield 9, 3) := by decide +kernel
theorem d3_57 : decode jdk_42_method_149_code 57 = .ok (.return_, 1) := by decide +kernel
set_option maxRecDepth 65536 in
set_option maxHeartbeats 40000000 in
theorem rm3 (l : Launch) (Z : State) (a0 : Array Value) (hw : ∀ d ∈ tables_1, d.before a0 Z = true) (ws : List Jvm.Cond) (a1 a2 : Addr) (k2 : ClassId) (cs : List Int32) (u1 u2 : Value) (zc : Int32) (ms : List Addr) (h0 : Heap) (n0 : Nat) (O0 : Old Z n0 h0) (nb : Nat) (hb0 : n0 ≤ nb) (hnb : nb ≤ h0.size) (fr_a1 : nb ≤ a1) (hm_a1 : a1 ∈ ms) (hn : cs.length ≤ 16) (hr : ∀ x ∈ cs, ¬ x < 0 ∧ ¬ 255 < x) (hpos : 0 < cs.length) (V1 : Arv Z h0 a2 k2 .char (Int32.ofNat cs.length) (cs.map Value.int) (.int 0)) (ne12 : a2 ≠ a1) (E1 : Exa Z h0 a1 "java/lang/String") (F1 : Fld Z h0 a1 "java/lang/String" "value" "[B" u1) (F2 : Fld Z h0 a1 "java/lang/String" "coder" "B" u2) (S_C : Sta Z Z.heap "java/lang/String" "COMPACT_STRINGS" "Z" (.int zc)) (hzc : ¬ zc = 0) :
    Con l Z ms (⟨"java/lang/String", "<init>", "([CIILjava/lang/Void;)V"⟩ : MethodName) jdk_42_method_149_code 6 none ws ({ frames := 2, cells := 1, slots := 16, locals := 35 } : Room) #[(.ref a1), (.ref a2), (.int (0 : Int32)), (.int (Int32.ofNat cs.length)), .null] h0 (fun v vm h L => v = none ∧ Fr nb L ∧ Keep h0 h [a1] ∧ ∃ t k, t ∉ ms ∧ Fld Z h a1 "java/lang/String" "value" "[B" (.ref t) ∧ Fld Z h a1 "java/lang/String" "coder" "B" (.int 0) ∧ Arv Z h t k .byte (Int32.ofNat (cs.map lo8).length) ((cs.map lo8).map Value.int) (.int 0)) := by
  refine Con.mk (plainFor_of_name pn1) ?_
  intro p e s m below meth c s₁ Cc X0 e0 eb J0 B0 M0
  obtain ⟨hx, hZ, hown, hby, hml, hnm, hret, hlk⟩ := id Cc
  have N0 := Fr.nil nb
  have K0 := Keep.refl h0 [a1]
  show Go p e s below _ _ _ _ s₁ (mkF m 0 #[.val (.ref a1), .val (.ref a2), .val (.int (0 : Int32)), .val (.int (Int32.ofNat cs.length)), .val .null, .unset] [])
  refine Go.of (fun _ hr => XS.aloadN X0.here hx rfl (hb hby d3_0) rfl rfl hr) ?_
  show Go p e s below _ _ _ _ s₁ (mkF m 1 #[.val (.ref a1), .val (.ref a2), .val (.int (0 : Int32)), .val (.int (Int32.ofNat cs.length)), .val .null, .unset] [(.ref a1)])
  obtain ⟨T101, X101, e101, st101⟩ := initO X0 hx hZ hown (hw _ (List.mem_of_getElem? (i := 16) rfl)) (hw _ (List.mem_of_getElem? (i := 17) rfl)) (hw _ (List.mem_of_getElem? (i := 18) rfl)) e0 (g := (mkF m 1 #[.val (.ref a1), .val (.ref a2), .val (.int (0 : Int32)), .val (.int (Int32.ofNat cs.length)), .val .null, .unset] [(.ref a1)])) rfl (by rw [hml]; rfl) rfl (hb hby d3_1) (by decide) (W := 0) (by show 2 * 0 + _ ≤ _; exact Nat.le_of_eq rfl) (by decide)
  refine Go.of (fun _ hr => st101 _ hr) ?_
  show Go p e s below _ _ _ _ T101 (mkF m 4 #[.val (.ref a1), .val (.ref a2), .val (.int (0 : Int32)), .val (.int (Int32.ofNat cs.length)), .val .null, .unset] [])
  refine Go.of (fun _ hr => XS.iloadN X101.here hx rfl (hb hby d3_4) rfl  hr) ?_
  show Go p e s below _ _ _ _ T101 (mkF m 5 #[.val (.ref a1), .val (.ref a2), .val (.int (0 : Int32)), .val (.int (Int32.ofNat cs.length)), .val .null, .unset] [(.int (Int32.ofNat cs.length))])
  refine Go.of (fun _ hr => XS.ifYes X101.here hx rfl (pc0 := 5) (pc' := 27) rfl (hb hby d3_5) rfl ((if0 _ _).trans (feq (fun q => by have r := congrArg Int32.toInt q; rw [oi_toInt (by omega), Int32.toInt_zero] at r; omega)).2) (by decide) (by decide) hr) ?_
  show Go p e s below _ _ _ _ T101 (mkF m 27 #[.val (.ref a1), .val (.ref a2), .val (.int (0 : Int32)), .val (.int (Int32.ofNat cs.length)), .val .null, .unset] [])
  obtain ⟨T102, X102, e102, st102⟩ := getS2 X101 hx hZ hown (host := "") (Or.inl (hw _ (List.mem_of_getElem? (i := 19) rfl))) Via.refl e101 (S_C.ext O0.2) (g := (mkF m 27 #[.val (.ref a1), .val (.ref a2), .val (.int (0 : Int32)), .val (.int (Int32.ofNat cs.length)), .val .null, .unset] [])) rfl (hb hby d3_27)
  refine Go.of (fun _ hr => st102 _ hr) ?_
  show Go p e s below _ _ _ _ T102 (mkF m 30 #[.val (.ref a1), .val (.ref a2), .val (.int (0 : Int32)), .val (.int (Int32.ofNat cs.length)), .val .null, .unset] [(.int zc)])
  refine Go.of (fun _ hr => XS.ifNo X102.here hx rfl (hb hby d3_30) rfl ((if0 _ _).trans (feq hzc).1) hr) ?_
  show Go p e s below _ _ _ _ T102 (mkF m 33 #[.val (.ref a1), .val (.ref a2), .val (.int (0 : Int32)), .val (.int (Int32.ofNat cs.length)), .val .null, .unset] [])
  refine Go.of (fun _ hr => XS.aloadN X102.here hx rfl (hb hby d3_33) rfl rfl hr) ?_
  show Go p e s below _ _ _ _ T102 (mkF m 34 #[.val (.ref a1), .val (.ref a2), .val (.int (0 : Int32)), .val (.int (Int32.ofNat cs.length)), .val .null, .unset] [(.ref a2)])
  refine Go.of (fun _ hr => XS.iloadN X102.here hx rfl (hb hby d3_34) rfl  hr) ?_
  show Go p e s below _ _ _ _ T102 (mkF m 35 #[.val (.ref a1), .val (.ref a2), .val (.int (0 : Int32)), .val (.int (Int32.ofNat cs.length)), .val .null, .unset] [(.int (0 : Int32)), (.ref a2)])
  refine Go.of (fun _ hr => XS.iloadN X102.here hx rfl (hb hby d3_35) rfl  hr) ?_
  show Go p e s below _ _ _ _ T102 (mkF m 36 #[.val (.ref a1), .val (.ref a2), .val (.int (0 : Int32)), .val (.int (Int32.ofNat cs.length)), .val .null, .unset] [(.int (Int32.ofNat cs.length)), (.int (0 : Int32)), (.ref a2)])
  obtain ⟨_, b103, T103, h103, L103, e103, Cc103, X103, B103, J103, g103, hQ103, st103⟩ := own_callS Cc B0 J0 X102 (hw _ (List.mem_of_getElem? (i := 20) rfl)) (hw _ (List.mem_of_getElem? (i := 21) rfl)) (hw _ (List.mem_of_getElem? (i := 22) rfl)) (hw _ (List.mem_of_getElem? (i := 23) rfl)) (by decide) (rm5 l Z a0 hw [] a2 _ cs _ h0 n0 O0 h0.size (own_ole O0) K0.1 hn hr V1) e102 (g := (mkF m 36 #[.val (.ref a1), .val (.ref a2), .val (.int (0 : Int32)), .val (.int (Int32.ofNat cs.length)), .val .null, .unset] [(.int (Int32.ofNat cs.length)), (.int (0 : Int32)), (.ref a2)])) rfl (by rw [hml]; rfl) (argsL := [(.ref a2), (.int (0 : Int32)), (.int (Int32.ofNat cs.length))]) (rest := []) (lenOf pd1 rfl) rfl (W := 0) (by show 2 * 0 + _ ≤ _; exact Nat.le_of_eq rfl) (hb hby d3_36) (by decide) (by decide) (by decide) (by decide)
  obtain ⟨r103, kr103, rfl, Nq103, Eq103, R_r103, Vr103⟩ := hQ103
  have N103 := Fr.app N0 (show Fr nb _ from fun y hy => Nat.le_trans hnb (Nq103 y hy))
  have NS103 := Fr.app (Fr.nil _) Nq103
  obtain ⟨hx, hZ, hown, hby, hml, hnm, hret, hlk⟩ := id Cc103
  have sz_r103 : h0.size ≤ r103 := Nat.le_trans K0.1 R_r103
  have fr_r103 : nb ≤ r103 := Nat.le_trans hnb sz_r103
  have ne_a1_r103 : a1 ≠ r103 := Nat.ne_of_lt (Nat.lt_of_lt_of_le E1.lt R_r103)
  have ne_a2_r103 : a2 ≠ r103 := Nat.ne_of_lt (Nat.lt_of_lt_of_le V1.lt R_r103)
  have K103 := K0.ext Eq103
  have O103 := O0.ext Eq103
  refine Go.of st103 ?_
  show Go p e s below _ _ _ _ T103 (mkF m 39 #[.val (.ref a1), .val (.ref a2), .val (.int (0 : Int32)), .val (.int (Int32.ofNat cs.length)), .val .null, .unset] [(.ref r103)])
  refine Go.of (fun _ hr => XS.astore X103.here hx rfl (hb hby d3_39) rfl rfl (l' := #[.val (.ref a1), .val (.ref a2), .val (.int (0 : Int32)), .val (.int (Int32.ofNat cs.length)), .val .null, .val (.ref r103)]) rfl hr) ?_
  show Go p e s below _ _ _ _ T103 (mkF m 41 #[.val (.ref a1), .val (.ref a2), .val (.int (0 : Int32)), .val (.int (Int32.ofNat cs.length)), .val .null, .val (.ref r103)] [])
  refine Go.of (fun _ hr => XS.aloadN X103.here hx rfl (hb hby d3_41) rfl rfl hr) ?_
  show Go p e s below _ _ _ _ T103 (mkF m 42 #[.val (.ref a1), .val (.ref a2), .val (.int (0 : Int32)), .val (.int (Int32.ofNat cs.length)), .val .null, .val (.ref r103)] [(.ref a1)])
  refine Go.of (fun _ hr => XS.aload X103.here hx rfl (hb hby d3_42) rfl rfl hr) ?_
  show Go p e s below _ _ _ _ T103 (mkF m 44 #[.val (.ref a1), .val (.ref a2), .val (.int (0 : Int32)), .val (.int (Int32.ofNat cs.length)), .val .null, .val (.ref r103)] [(.ref r103), (.ref a1)])
  refine Go.of (fun _ hr => XS.iloadN X103.here hx rfl (hb hby d3_44) rfl  hr) ?_
  show Go p e s below _ _ _ _ T103 (mkF m 45 #[.val (.ref a1), .val (.ref a2), .val (.int (0 : Int32)), .val (.int (Int32.ofNat cs.length)), .val .null, .val (.ref r103)] [(.int (Int32.ofNat cs.length)), (.ref r103), (.ref a1)])
  obtain ⟨_, b104, T104, h104, L104, e104, Cc104, X104, B104, J104, g104, hQ104, st104⟩ := own_callS Cc103 B103 J103 X103 (hw _ (List.mem_of_getElem? (i := 28) rfl)) (hw _ (List.mem_of_getElem? (i := 29) rfl)) (hw _ (List.mem_of_getElem? (i := 22) rfl)) (hw _ (List.mem_of_getElem? (i := 30) rfl)) (by decide) (rm7 l Z a0 hw [] r103 _ (Int32.ofNat cs.length) _ _ _ h103 n0 O103 h0.size (own_ole O0) K103.1 Vr103) e103 (g := (mkF m 45 #[.val (.ref a1), .val (.ref a2), .val (.int (0 : Int32)), .val (.int (Int32.ofNat cs.length)), .val .null, .val (.ref r103)] [(.int (Int32.ofNat cs.length)), (.ref r103), (.ref a1)])) rfl (by rw [hml]; rfl) (argsL := [(.ref r103), (.int (Int32.ofNat cs.length))]) (rest := [(.ref a1)]) (lenOf pd2 rfl) rfl (W := 1) (by show 2 * 0 + _ ≤ _; exact Nat.le_of_eq rfl) (hb hby d3_45) (by decide) (by decide) (by decide) (by decide)
  obtain ⟨rfl, Nq104, hh104⟩ := hQ104
  have N104 := Fr.app N103 (show Fr nb _ from fun y hy => Nat.le_trans hnb (Nq104 y hy))
  have NS104 := Fr.app NS103 Nq104
  obtain ⟨hx, hZ, hown, hby, hml, hnm, hret, hlk⟩ := id Cc104
  rw [hh104] at e104 B104 J104
  refine Go.of st104 ?_
  show Go p e s below _ _ _ _ T104 (mkF m 48 #[.val (.ref a1), .val (.ref a2), .val (.int (0 : Int32)), .val (.int (Int32.ofNat cs.length)), .val .null, .val (.ref r103)] [(.int (0 : Int32)), (.ref a1)])
  have f106 := (F2.ext Eq103)
  have f107 := (E1.ext Eq103)
  obtain ⟨T105, h105, X105, e105, W105, st105⟩ := putFN X104 hx hZ hown (hw _ (List.mem_of_getElem? (i := 31) rfl)) Via.refl e104 f106 f107 (Or.inr ⟨(hw _ (List.mem_of_getElem? (i := 32) rfl)), rfl, hnm⟩) (hw _ (List.mem_of_getElem? (i := 7) rfl)) (ty := .byte) (v := (.int (0 : Int32))) (v' := (.int (0 : Int32))) (by decide) rfl rfl (g := (mkF m 48 #[.val (.ref a1), .val (.ref a2), .val (.int (0 : Int32)), .val (.int (Int32.ofNat cs.length)), .val .null, .val (.ref r103)] [(.int (0 : Int32)), (.ref a1)])) rfl rfl (hb hby d3_48)
  have N105 := Fr.snoc X105 N104 fr_a1
  have J105 := J104.wr W105 hm_a1
  have B105 := B104.mono (Nat.le_of_eq W105.size.symm)
  have O105 := O103.wr W105 (Nat.le_trans hb0 fr_a1)
  have K105 := K103.wr W105 (Or.inl (List.mem_of_getElem? (i := 0) rfl))
  have Fw105 := f106.same W105
  refine Go.of (fun _ hr => st105 _ hr) ?_
  show Go p e s below _ _ _ _ T105 (mkF m 51 #[.val (.ref a1), .val (.ref a2), .val (.int (0 : Int32)), .val (.int (Int32.ofNat cs.length)), .val .null, .val (.ref r103)] [])
  refine Go.of (fun _ hr => XS.aloadN X105.here hx rfl (hb hby d3_51) rfl rfl hr) ?_
  show Go p e s below _ _ _ _ T105 (mkF m 52 #[.val (.ref a1), .val (.ref a2), .val (.int (0 : Int32)), .val (.int (Int32.ofNat cs.length)), .val .null, .val (.ref r103)] [(.ref a1)])
  refine Go.of (fun _ hr => XS.aload X105.here hx rfl (hb hby d3_52) rfl rfl hr) ?_
  show Go p e s below _ _ _ _ T105 (mkF m 54 #[.val (.ref a1), .val (.ref a2), .val (.int (0 : Int32)), .val (.int (Int32.ofNat cs.length)), .val .null, .val (.ref r103)] [(.ref r103), (.ref a1)])
  have f109 := ((F1.ext Eq103).other W105 (Or.inr (slot_ne (Or.inr (hw _ (List.mem_of_getElem? (i := 34) rfl))) (Or.inr (hw _ (List.mem_of_getElem? (i := 32) rfl))) (by decide) (t := (.array .byte)) (t' := .byte) (by decide) (by decide))))
  have f110 := (f107.wr W105)
  obtain ⟨T108, h108, X108, e108, W108, st108⟩ := putF X105 hx hZ hown (host := "") (Or.inl (hw _ (List.mem_of_getElem? (i := 33) rfl))) Via.refl e105 f109 f110 (Or.inr ⟨(hw _ (List.mem_of_getElem? (i := 34) rfl)), rfl, hnm⟩) (hw _ (List.mem_of_getElem? (i := 7) rfl)) (ty := (.array .byte)) (by decide) rfl rfl (g := (mkF m 54 #[.val (.ref a1), .val (.ref a2), .val (.int (0 : Int32)), .val (.int (Int32.ofNat cs.length)), .val .null, .val (.ref r103)] [(.ref r103), (.ref a1)])) rfl rfl (hb hby d3_54)
  have N108 := Fr.snoc X108 N105 fr_a1
  have J108 := J105.wr W108 hm_a1
  have B108 := B105.mono (Nat.le_of_eq W108.size.symm)
  have O108 := O105.wr W108 (Nat.le_trans hb0 fr_a1)
  have K108 := K105.wr W108 (Or.inl (List.mem_of_getElem? (i := 0) rfl))
  have Fw108 := f109.same W108
  refine Go.of (fun _ hr => st108 _ hr) ?_
  show Go p e s below _ _ _ _ T108 (mkF m 57 #[.val (.ref a1), .val (.ref a2), .val (.int (0 : Int32)), .val (.int (Int32.ofNat cs.length)), .val .null, .val (.ref r103)] [])
  have f111 := ((Vr103.other W105 (Ne.symm ne_a1_r103)).other W108 (Ne.symm ne_a1_r103))
  have f112 := (Fw105.other W108 (Or.inr (slot_ne (Or.inr (hw _ (List.mem_of_getElem? (i := 32) rfl))) (Or.inr (hw _ (List.mem_of_getElem? (i := 34) rfl))) (by decide) (t := .byte) (t' := (.array .byte)) (by decide) (by decide))))
  exact Go.retV X108 hx hlk B108 J108 e108 hret (hb hby d3_57) (by decide) (by decide) (fun vm_ hw_ => ⟨rfl, N108, K108, _, _, (J0.nms sz_r103), Fw108, f112, asB f111⟩)

theorem d2_0 : decode jdk_42_method_3_code 0 = .ok (.aload_n 0, 1) := by decide +kernel
theorem d2_1 : decode jdk_42_method_3_code 1 = .ok (.aload_n 1, 1) := by decide +kernel
theorem d2_2 : decode jdk_42_method_3_code 2 = .ok (.iconst 0, 1) := by decide +kernel
theorem d2_3 : decode jdk_42_method_3_code 3 = .ok (.aload_n 1, 1) := by decide +kernel
theorem d2_4 : decode jdk_42_method_3_code 4 = .ok (.arraylength, 1) := by decide +kernel
theorem d2_5 : decode jdk_42_method_3_code 5 = .ok (.aconst_null, 1) := by decide +kernel
theorem d2_6 : decode jdk_42_method_3_code 6 = .ok (.invokespecial 27, 3) := by decide +kernel
theorem pd3 : parseMethodDescriptor "([CIILjava/lang/Void;)V" = some ⟨[(.array .char), .int, .int, (.object "java/lang/Void")], none⟩ := by decide +kernel
theorem d2_9 : decode jdk_42_method_3_code 9 = .ok (.return_, 1) := by decide +kernel
set_option maxRecDepth 65536 in
set_option maxHeartbeats 40000000 in
theorem rm2 (l : Launch) (Z : State) (a0 : Array Value) (hw : ∀ d ∈ tables_1, d.before a0 Z = true) (ws : List Jvm.Cond) (a1 a2 : Addr) (k2 : ClassId) (cs : List Int32) (u1 u2 : Value) (zc : Int32) (ms : List Addr) (h0 : Heap) (n0 : Nat) (O0 : Old Z n0 h0) (nb : Nat) (hb0 : n0 ≤ nb) (hnb : nb ≤ h0.size) (fr_a1 : nb ≤ a1) (hm_a1 : a1 ∈ ms) (hn : cs.length ≤ 16) (hr : ∀ x ∈ cs, ¬ x < 0 ∧ ¬ 255 < x) (hpos : 0 < cs.length) (V1 : Arv Z h0 a2 k2 .char (Int32.ofNat cs.length) (cs.map Value.int) (.int 0)) (ne12 : a2 ≠ a1) (E1 : Exa Z h0 a1 "java/lang/String") (F1 : Fld Z h0 a1 "java/lang/String" "value" "[B" u1) (F2 : Fld Z h0 a1 "java/lang/String" "coder" "B" u2) (S_C : Sta Z Z.heap "java/lang/String" "COMPACT_STRINGS" "Z" (.int zc)) (hzc : ¬ zc = 0) :
    Con l Z ms (⟨"java/lang/String", "<init>", "([C)V"⟩ : MethodName) jdk_42_method_3_code 2 none ws ({ frames := 3, cells := 1, slots := 16, locals := 52 } : Room) #[(.ref a1), (.ref a2)] h0 (fun v vm h L => v = none ∧ Fr nb L ∧ Keep h0 h [a1] ∧ ∃ t k, t ∉ ms ∧ Fld Z h a1 "java/lang/String" "value" "[B" (.ref t) ∧ Fld Z h a1 "java/lang/String" "coder" "B" (.int 0) ∧ Arv Z h t k .byte (Int32.ofNat (cs.map lo8).length) ((cs.map lo8).map Value.int) (.int 0)) := by
  refine Con.mk (plainFor_of_name pn1) ?_
  intro p e s m below meth c s₁ Cc X0 e0 eb J0 B0 M0
  obtain ⟨hx, hZ, hown, hby, hml, hnm, hret, hlk⟩ := id Cc
  have N0 := Fr.nil nb
  have K0 := Keep.refl h0 [a1]
  show Go p e s below _ _ _ _ s₁ (mkF m 0 #[.val (.ref a1), .val (.ref a2)] [])
  refine Go.of (fun _ hr => XS.aloadN X0.here hx rfl (hb hby d2_0) rfl rfl hr) ?_
  show Go p e s below _ _ _ _ s₁ (mkF m 1 #[.val (.ref a1), .val (.ref a2)] [(.ref a1)])
  refine Go.of (fun _ hr => XS.aloadN X0.here hx rfl (hb hby d2_1) rfl rfl hr) ?_
  show Go p e s below _ _ _ _ s₁ (mkF m 2 #[.val (.ref a1), .val (.ref a2)] [(.ref a2), (.ref a1)])
  refine Go.of (fun _ hr => XS.iconst X0.here hx rfl (hb hby d2_2) hr) ?_
  show Go p e s below _ _ _ _ s₁ (mkF m 3 #[.val (.ref a1), .val (.ref a2)] [(.int (0 : Int32)), (.ref a2), (.ref a1)])
  refine Go.of (fun _ hr => XS.aloadN X0.here hx rfl (hb hby d2_3) rfl rfl hr) ?_
  show Go p e s below _ _ _ _ s₁ (mkF m 4 #[.val (.ref a1), .val (.ref a2)] [(.ref a2), (.int (0 : Int32)), (.ref a2), (.ref a1)])
  obtain ⟨cl101, Ar101, q101, S101, N101_, H101, G101⟩ := id V1
  refine Go.of (fun _ hr => X0.arraylength hx (by rw [e0]; exact Ar101.1) (State.isArrayOf_alike hZ.alike Ar101.2.1) (g := (mkF m 4 #[.val (.ref a1), .val (.ref a2)] [(.ref a2), (.int (0 : Int32)), (.ref a2), (.ref a1)])) rfl rfl (hb hby d2_4) _ hr) ?_
  rw [len_of S101 N101_]
  show Go p e s below _ _ _ _ s₁ (mkF m 5 #[.val (.ref a1), .val (.ref a2)] [(.int (Int32.ofNat cs.length)), (.int (0 : Int32)), (.ref a2), (.ref a1)])
  refine Go.of (fun _ hr => XS.aconstNull X0.here hx rfl (hb hby d2_5) hr) ?_
  show Go p e s below _ _ _ _ s₁ (mkF m 6 #[.val (.ref a1), .val (.ref a2)] [.null, (.int (Int32.ofNat cs.length)), (.int (0 : Int32)), (.ref a2), (.ref a1)])
  obtain ⟨_, b102, T102, h102, L102, e102, Cc102, X102, B102, J102, g102, hQ102, st102⟩ := own_callI Cc B0 J0 X0 rfl (hw _ (List.mem_of_getElem? (i := 12) rfl)) (hw _ (List.mem_of_getElem? (i := 13) rfl)) (hw _ (List.mem_of_getElem? (i := 8) rfl)) (hw _ (List.mem_of_getElem? (i := 15) rfl)) (by decide) (rm3 l Z a0 hw [] a1 a2 _ cs _ _ zc _ h0 n0 O0 nb hb0 (Nat.le_trans hnb K0.1) fr_a1 hm_a1 hn hr hpos V1 ne12 E1 F1 F2 S_C hzc) e0 (g := (mkF m 6 #[.val (.ref a1), .val (.ref a2)] [.null, (.int (Int32.ofNat cs.length)), (.int (0 : Int32)), (.ref a2), (.ref a1)])) rfl (by rw [hml]; rfl) (argsL := [(.ref a2), (.int (0 : Int32)), (.int (Int32.ofNat cs.length)), .null]) (rest := []) (lenOf pd3 rfl) rfl (W := 0) (by show 2 * 0 + _ ≤ _; exact Nat.le_of_eq rfl) (hb hby d2_6) (by decide) (by decide) (by decide) (by decide)
  obtain ⟨rfl, Nq102, Kq102, t102, kt102, nt102, Fv102, Fc102, Vt102⟩ := hQ102
  have N102 := Fr.app N0 Nq102
  obtain ⟨hx, hZ, hown, hby, hml, hnm, hret, hlk⟩ := id Cc102
  have K102 := K0.trans Kq102 (allS (Or.inl (List.mem_of_getElem? (i := 0) rfl)) all0)
  have O102 := O0.keep Kq102 (allS (Nat.le_trans hb0 fr_a1) all0)
  refine Go.of st102 ?_
  have nx_t102_a1 : t102 ≠ a1 := fun q => nt102 (by rw [q]; exact hm_a1)
  show Go p e s below _ _ _ _ T102 (mkF m 9 #[.val (.ref a1), .val (.ref a2)] [])
  exact Go.retV X102 hx hlk B102 J102 e102 hret (hb hby d2_9) (by decide) (by decide) (fun vm_ hw_ => ⟨rfl, N102, K102, _, _, (fun hz => nt102 hz), Fv102, Fc102, Vt102⟩)

theorem d12_9 : decode jdk_43_method_13_code 9 = .ok (.iload_n 2, 1) := by decide +kernel
theorem d12_10 : decode jdk_43_method_13_code 10 = .ok (.aload_n 0, 1) := by decide +kernel
theorem d12_11 : decode jdk_43_method_13_code 11 = .ok (.arraylength, 1) := by decide +kernel
theorem d12_12 : decode jdk_43_method_13_code 12 = .ok (.if_icmp .ge 20, 3) := by decide +kernel
theorem d12_32 : decode jdk_43_method_13_code 32 = .ok (.iconst 1, 1) := by decide +kernel
theorem d12_33 : decode jdk_43_method_13_code 33 = .ok (.ireturn, 1) := by decide +kernel
theorem d12_15 : decode jdk_43_method_13_code 15 = .ok (.aload_n 0, 1) := by decide +kernel
theorem d12_16 : decode jdk_43_method_13_code 16 = .ok (.iload_n 2, 1) := by decide +kernel
theorem d12_17 : decode jdk_43_method_13_code 17 = .ok (.baload, 1) := by decide +kernel
theorem d12_18 : decode jdk_43_method_13_code 18 = .ok (.aload_n 1, 1) := by decide +kernel
theorem d12_19 : decode jdk_43_method_13_code 19 = .ok (.iload_n 2, 1) := by decide +kernel
theorem d12_20 : decode jdk_43_method_13_code 20 = .ok (.baload, 1) := by decide +kernel
theorem d12_21 : decode jdk_43_method_13_code 21 = .ok (.if_icmp .eq 5, 3) := by decide +kernel
theorem d12_26 : decode jdk_43_method_13_code 26 = .ok (.iinc 2 1, 3) := by decide +kernel
theorem d12_29 : decode jdk_43_method_13_code 29 = .ok (.goto (-20), 3) := by decide +kernel
theorem d12_24 : decode jdk_43_method_13_code 24 = .ok (.iconst 0, 1) := by decide +kernel
theorem d12_25 : decode jdk_43_method_13_code 25 = .ok (.ireturn, 1) := by decide +kernel
set_option maxRecDepth 65536 in
set_option maxHeartbeats 40000000 in
theorem eqloop {l : Launch} {Z : State} {p : Program} {e : Env} {R : Room} {s b : State} {m : MethodId} {args : Array Value} {below : List Frame} {meth : Method} {c : Code} {K N : Nat} {Q : Option Value → Vm → Heap → List Loc → Prop} {ms : List Addr} {h0 : Heap} (Cc : Cx Z p b m meth c "java/lang/StringLatin1" jdk_43_method_13_code 3 "equals" (some .boolean)) (a1 a2 : Addr) (k1 k2 : ClassId) (b1 b2 : List Int32) (hl : b1.length = b2.length) (hn : b1.length < 2147483648) (V1 : Arv Z h0 a1 k1 .byte (Int32.ofNat b1.length) (b1.map Value.int) (.int 0)) (V2 : Arv Z h0 a2 k2 .byte (Int32.ofNat b2.length) (b2.map Value.int) (.int 0)) {T : State} {locs : List Loc} {cells slots : Nat} (hK : cells ≤ K) (hN : slots ≤ N)
    (hQ : ∀ vm, Q (some (.int (if b1 = b2 then 1 else 0))) vm h0 locs) :
    ∀ (r i : Nat), i + r = b1.length → b1.take i = b2.take i → Stand p l e R b m args below meth c T locs cells slots → T.heap = h0 → Hd Z ms b.vm h0 → Bs s b h0 →
      Go p e s below K N (Hd Z ms) Q T (mkF m 9 #[.val (.ref a1), .val (.ref a2), .val (.int (Int32.ofNat i))] []) := by
  obtain ⟨hx, hZ, hown, hby, hml, hnm, hret, hlk⟩ := id Cc
  intro r
  induction r with
  | zero =>
    intro i hi heq X eT J0 B0
    show Go p e s below _ _ _ _ T (mkF m 9 #[.val (.ref a1), .val (.ref a2), .val (.int (Int32.ofNat i))] [])
    refine Go.of (fun _ hr => XS.iloadN X.here hx rfl (hb hby d12_9) rfl  hr) ?_
    show Go p e s below _ _ _ _ T (mkF m 10 #[.val (.ref a1), .val (.ref a2), .val (.int (Int32.ofNat i))] [(.int (Int32.ofNat i))])
    refine Go.of (fun _ hr => XS.aloadN X.here hx rfl (hb hby d12_10) rfl rfl hr) ?_
    show Go p e s below _ _ _ _ T (mkF m 11 #[.val (.ref a1), .val (.ref a2), .val (.int (Int32.ofNat i))] [(.ref a1), (.int (Int32.ofNat i))])
    obtain ⟨cl101, Ar101, q101, S101, N101_, H101, G101⟩ := id V1
    refine Go.of (fun _ hr => X.arraylength hx (by rw [eT]; exact Ar101.1) (State.isArrayOf_alike hZ.alike Ar101.2.1) (g := (mkF m 11 #[.val (.ref a1), .val (.ref a2), .val (.int (Int32.ofNat i))] [(.ref a1), (.int (Int32.ofNat i))])) rfl rfl (hb hby d12_11) _ hr) ?_
    rw [len_of S101 N101_]
    show Go p e s below _ _ _ _ T (mkF m 12 #[.val (.ref a1), .val (.ref a2), .val (.int (Int32.ofNat i))] [(.int (Int32.ofNat b1.length)), (.int (Int32.ofNat i))])
    refine Go.of (fun _ hr => XS.icmpYes X.here hx rfl (pc0 := 12) (pc' := 32) rfl (hb hby d12_12) rfl (flt (oi_nlt (by omega) (by omega) (by omega))).2.1 (by decide) (by decide) hr) ?_
    show Go p e s below _ _ _ _ T (mkF m 32 #[.val (.ref a1), .val (.ref a2), .val (.int (Int32.ofNat i))] [])
    refine Go.of (fun _ hr => XS.iconst X.here hx rfl (hb hby d12_32) hr) ?_
    show Go p e s below _ _ _ _ T (mkF m 33 #[.val (.ref a1), .val (.ref a2), .val (.int (Int32.ofNat i))] [(.int (1 : Int32))])
    exact Go.retN X hx hlk B0 J0 eT (t := .boolean) (z' := (1 : Int32)) hret (by simp) (hb hby d12_33) rfl (by omega) (by omega) (fun vm _ => by have q := hQ vm; rw [if_pos (teq_all hl hi heq)] at q; exact q)
  | succ r ih =>
    intro i hi heq X eT J0 B0
    show Go p e s below _ _ _ _ T (mkF m 9 #[.val (.ref a1), .val (.ref a2), .val (.int (Int32.ofNat i))] [])
    refine Go.of (fun _ hr => XS.iloadN X.here hx rfl (hb hby d12_9) rfl  hr) ?_
    show Go p e s below _ _ _ _ T (mkF m 10 #[.val (.ref a1), .val (.ref a2), .val (.int (Int32.ofNat i))] [(.int (Int32.ofNat i))])
    refine Go.of (fun _ hr => XS.aloadN X.here hx rfl (hb hby d12_10) rfl rfl hr) ?_
    show Go p e s below _ _ _ _ T (mkF m 11 #[.val (.ref a1), .val (.ref a2), .val (.int (Int32.ofNat i))] [(.ref a1), (.int (Int32.ofNat i))])
    obtain ⟨cl102, Ar102, q102, S102, N102_, H102, G102⟩ := id V1
    refine Go.of (fun _ hr => X.arraylength hx (by rw [eT]; exact Ar102.1) (State.isArrayOf_alike hZ.alike Ar102.2.1) (g := (mkF m 11 #[.val (.ref a1), .val (.ref a2), .val (.int (Int32.ofNat i))] [(.ref a1), (.int (Int32.ofNat i))])) rfl rfl (hb hby d12_11) _ hr) ?_
    rw [len_of S102 N102_]
    show Go p e s below _ _ _ _ T (mkF m 12 #[.val (.ref a1), .val (.ref a2), .val (.int (Int32.ofNat i))] [(.int (Int32.ofNat b1.length)), (.int (Int32.ofNat i))])
    refine Go.of (fun _ hr => XS.icmpNo X.here hx rfl (hb hby d12_12) rfl (tlt (oi_lt (by omega) (by omega) (by omega))).2.1 hr) ?_
    show Go p e s below _ _ _ _ T (mkF m 15 #[.val (.ref a1), .val (.ref a2), .val (.int (Int32.ofNat i))] [])
    refine Go.of (fun _ hr => XS.aloadN X.here hx rfl (hb hby d12_15) rfl rfl hr) ?_
    show Go p e s below _ _ _ _ T (mkF m 16 #[.val (.ref a1), .val (.ref a2), .val (.int (Int32.ofNat i))] [(.ref a1)])
    refine Go.of (fun _ hr => XS.iloadN X.here hx rfl (hb hby d12_16) rfl  hr) ?_
    show Go p e s below _ _ _ _ T (mkF m 17 #[.val (.ref a1), .val (.ref a2), .val (.int (Int32.ofNat i))] [(.int (Int32.ofNat i)), (.ref a1)])
    obtain ⟨cl103, Ar103, q103, S103, N103_, H103, G103⟩ := id V1
    have hin103 : ¬ ((Int32.ofNat i) < 0 ∨ cl103.slots.size ≤ ((Int32.ofNat i)).toNatClampNeg) := inb_of S103 ⟨oi_nn (by omega), oi_lt (by omega) (by omega) (by omega)⟩
    refine Go.of (fun _ hr => X.baloadBytes hx (j := (Int32.ofNat i)) (v := (.int (b1.getD i 0))) (by rw [eT]; exact Ar103.1) (State.isArrayOf_alike hZ.alike Ar103.2.1) Ar103.2.2 hin103 (H103.at hin103 (by rw [oi_nat (by omega), getD_int])) (g := (mkF m 17 #[.val (.ref a1), .val (.ref a2), .val (.int (Int32.ofNat i))] [(.int (Int32.ofNat i)), (.ref a1)])) rfl rfl (hb hby d12_17) _ hr) ?_
    show Go p e s below _ _ _ _ T (mkF m 18 #[.val (.ref a1), .val (.ref a2), .val (.int (Int32.ofNat i))] [(.int (b1.getD i 0))])
    refine Go.of (fun _ hr => XS.aloadN X.here hx rfl (hb hby d12_18) rfl rfl hr) ?_
    show Go p e s below _ _ _ _ T (mkF m 19 #[.val (.ref a1), .val (.ref a2), .val (.int (Int32.ofNat i))] [(.ref a2), (.int (b1.getD i 0))])
    refine Go.of (fun _ hr => XS.iloadN X.here hx rfl (hb hby d12_19) rfl  hr) ?_
    show Go p e s below _ _ _ _ T (mkF m 20 #[.val (.ref a1), .val (.ref a2), .val (.int (Int32.ofNat i))] [(.int (Int32.ofNat i)), (.ref a2), (.int (b1.getD i 0))])
    obtain ⟨cl104, Ar104, q104, S104, N104_, H104, G104⟩ := id V2
    have hin104 : ¬ ((Int32.ofNat i) < 0 ∨ cl104.slots.size ≤ ((Int32.ofNat i)).toNatClampNeg) := inb_of S104 ⟨oi_nn (by omega), oi_lt (by omega) (by omega) (by omega)⟩
    refine Go.of (fun _ hr => X.baloadBytes hx (j := (Int32.ofNat i)) (v := (.int (b2.getD i 0))) (by rw [eT]; exact Ar104.1) (State.isArrayOf_alike hZ.alike Ar104.2.1) Ar104.2.2 hin104 (H104.at hin104 (by rw [oi_nat (by omega), getD_int])) (g := (mkF m 20 #[.val (.ref a1), .val (.ref a2), .val (.int (Int32.ofNat i))] [(.int (Int32.ofNat i)), (.ref a2), (.int (b1.getD i 0))])) rfl rfl (hb hby d12_20) _ hr) ?_
    show Go p e s below _ _ _ _ T (mkF m 21 #[.val (.ref a1), .val (.ref a2), .val (.int (Int32.ofNat i))] [(.int (b2.getD i 0)), (.int (b1.getD i 0))])
    by_cases hb21_105 : (b1.getD i 0) = (b2.getD i 0)
    · refine Go.of (fun _ hr => XS.icmpYes X.here hx rfl (pc0 := 21) (pc' := 26) rfl (hb hby d12_21) rfl (teq hb21_105).1 (by decide) (by decide) hr) ?_
      show Go p e s below _ _ _ _ T (mkF m 26 #[.val (.ref a1), .val (.ref a2), .val (.int (Int32.ofNat i))] [])
      refine Go.of (fun _ hr => XS.iinc X.here hx rfl (hb hby d12_26) rfl (l' := #[.val (.ref a1), .val (.ref a2), .val (.int ((Int32.ofNat i) + (1 : Int32)))]) rfl hr) ?_
      show Go p e s below _ _ _ _ T (mkF m 29 #[.val (.ref a1), .val (.ref a2), .val (.int ((Int32.ofNat i) + (1 : Int32)))] [])
      refine Go.of (fun _ hr => XS.goto X.here hx rfl (pc0 := 29) (pc' := 9) rfl (hb hby d12_29) (by decide) (by decide) hr) ?_
      show Go p e s below _ _ _ _ T (mkF m 9 #[.val (.ref a1), .val (.ref a2), .val (.int ((Int32.ofNat i) + (1 : Int32)))] [])
      simp only [oi_succ (show i + 1 < 2147483648 by omega)]
      exact ih (i + 1) (by omega) (teq_step heq (by omega) (by omega) hb21_105) X eT J0 B0
    · refine Go.of (fun _ hr => XS.icmpNo X.here hx rfl (hb hby d12_21) rfl (feq hb21_105).1 hr) ?_
      show Go p e s below _ _ _ _ T (mkF m 24 #[.val (.ref a1), .val (.ref a2), .val (.int (Int32.ofNat i))] [])
      refine Go.of (fun _ hr => XS.iconst X.here hx rfl (hb hby d12_24) hr) ?_
      show Go p e s below _ _ _ _ T (mkF m 25 #[.val (.ref a1), .val (.ref a2), .val (.int (Int32.ofNat i))] [(.int (0 : Int32))])
      exact Go.retN X hx hlk B0 J0 eT (t := .boolean) (z' := (0 : Int32)) hret (by simp) (hb hby d12_25) rfl (by omega) (by omega) (fun vm _ => by have q := hQ vm; rw [if_neg (fun z => hb21_105 (by rw [z]))] at q; exact q)

theorem pn2 : plainName "java/lang/StringLatin1" = true := by first | (simp [plainName, overriddenIn]; done) | decide +kernel
theorem d12_0 : decode jdk_43_method_13_code 0 = .ok (.aload_n 0, 1) := by decide +kernel
theorem d12_1 : decode jdk_43_method_13_code 1 = .ok (.arraylength, 1) := by decide +kernel
theorem d12_2 : decode jdk_43_method_13_code 2 = .ok (.aload_n 1, 1) := by decide +kernel
theorem d12_3 : decode jdk_43_method_13_code 3 = .ok (.arraylength, 1) := by decide +kernel
theorem d12_4 : decode jdk_43_method_13_code 4 = .ok (.if_icmp .ne 30, 3) := by decide +kernel
theorem d12_7 : decode jdk_43_method_13_code 7 = .ok (.iconst 0, 1) := by decide +kernel
theorem d12_8 : decode jdk_43_method_13_code 8 = .ok (.istore_n 2, 1) := by decide +kernel
theorem d12_34 : decode jdk_43_method_13_code 34 = .ok (.iconst 0, 1) := by decide +kernel
theorem d12_35 : decode jdk_43_method_13_code 35 = .ok (.ireturn, 1) := by decide +kernel
set_option maxRecDepth 65536 in
set_option maxHeartbeats 40000000 in
theorem rm12 (l : Launch) (Z : State) (a0 : Array Value) (hw : ∀ d ∈ tables_1, d.before a0 Z = true) (ws : List Jvm.Cond) (a1 a2 : Addr) (k1 k2 : ClassId) (b1 b2 : List Int32) (ms : List Addr) (h0 : Heap) (n0 : Nat) (O0 : Old Z n0 h0) (nb : Nat) (hb0 : n0 ≤ nb) (hnb : nb ≤ h0.size) (hn1 : b1.length < 2147483648) (hn2 : b2.length < 2147483648) (V1 : Arv Z h0 a1 k1 .byte (Int32.ofNat b1.length) (b1.map Value.int) (.int 0)) (V2 : Arv Z h0 a2 k2 .byte (Int32.ofNat b2.length) (b2.map Value.int) (.int 0)) :
    Con l Z ms (⟨"java/lang/StringLatin1", "equals", "([B[B)Z"⟩ : MethodName) jdk_43_method_13_code 3 (some .boolean) ws ({ frames := 0, cells := 0, slots := 0, locals := 0 } : Room) #[(.ref a1), (.ref a2)] h0 (fun v vm h L => v = some (.int (if b1 = b2 then 1 else 0)) ∧ Fr nb L ∧ h = h0) := by
  refine Con.mk (plainFor_of_name pn2) ?_
  intro p e s m below meth c s₁ Cc X0 e0 eb J0 B0 M0
  obtain ⟨hx, hZ, hown, hby, hml, hnm, hret, hlk⟩ := id Cc
  have N0 := Fr.nil h0.size
  have K0 := Keep.refl h0 []
  show Go p e s below _ _ _ _ s₁ (mkF m 0 #[.val (.ref a1), .val (.ref a2), .unset] [])
  refine Go.of (fun _ hr => XS.aloadN X0.here hx rfl (hb hby d12_0) rfl rfl hr) ?_
  show Go p e s below _ _ _ _ s₁ (mkF m 1 #[.val (.ref a1), .val (.ref a2), .unset] [(.ref a1)])
  obtain ⟨cl101, Ar101, q101, S101, N101_, H101, G101⟩ := id V1
  refine Go.of (fun _ hr => X0.arraylength hx (by rw [e0]; exact Ar101.1) (State.isArrayOf_alike hZ.alike Ar101.2.1) (g := (mkF m 1 #[.val (.ref a1), .val (.ref a2), .unset] [(.ref a1)])) rfl rfl (hb hby d12_1) _ hr) ?_
  rw [len_of S101 N101_]
  show Go p e s below _ _ _ _ s₁ (mkF m 2 #[.val (.ref a1), .val (.ref a2), .unset] [(.int (Int32.ofNat b1.length))])
  refine Go.of (fun _ hr => XS.aloadN X0.here hx rfl (hb hby d12_2) rfl rfl hr) ?_
  show Go p e s below _ _ _ _ s₁ (mkF m 3 #[.val (.ref a1), .val (.ref a2), .unset] [(.ref a2), (.int (Int32.ofNat b1.length))])
  obtain ⟨cl102, Ar102, q102, S102, N102_, H102, G102⟩ := id V2
  refine Go.of (fun _ hr => X0.arraylength hx (by rw [e0]; exact Ar102.1) (State.isArrayOf_alike hZ.alike Ar102.2.1) (g := (mkF m 3 #[.val (.ref a1), .val (.ref a2), .unset] [(.ref a2), (.int (Int32.ofNat b1.length))])) rfl rfl (hb hby d12_3) _ hr) ?_
  rw [len_of S102 N102_]
  show Go p e s below _ _ _ _ s₁ (mkF m 4 #[.val (.ref a1), .val (.ref a2), .unset] [(.int (Int32.ofNat b2.length)), (.int (Int32.ofNat b1.length))])
  by_cases hb4_103 : (Int32.ofNat b1.length) = (Int32.ofNat b2.length)
  · refine Go.of (fun _ hr => XS.icmpNo X0.here hx rfl (hb hby d12_4) rfl (teq hb4_103).2 hr) ?_
    show Go p e s below _ _ _ _ s₁ (mkF m 7 #[.val (.ref a1), .val (.ref a2), .unset] [])
    refine Go.of (fun _ hr => XS.iconst X0.here hx rfl (hb hby d12_7) hr) ?_
    show Go p e s below _ _ _ _ s₁ (mkF m 8 #[.val (.ref a1), .val (.ref a2), .unset] [(.int (0 : Int32))])
    refine Go.of (fun _ hr => XS.istoreN X0.here hx rfl (hb hby d12_8) rfl (l' := #[.val (.ref a1), .val (.ref a2), .val (.int (0 : Int32))]) rfl hr) ?_
    show Go p e s below _ _ _ _ s₁ (mkF m 9 #[.val (.ref a1), .val (.ref a2), .val (.int (0 : Int32))] [])
    exact eqloop Cc a1 a2 k1 k2 b1 b2 (oi_inj hn1 hn2 hb4_103) hn1 V1 V2 (by decide) (by decide) (fun vm => ⟨rfl, (fun y hy => Nat.le_trans hnb (N0 y hy)), rfl⟩) b1.length 0 (Nat.zero_add _) rfl X0 e0 J0 B0
  · refine Go.of (fun _ hr => XS.icmpYes X0.here hx rfl (pc0 := 4) (pc' := 34) rfl (hb hby d12_4) rfl (feq hb4_103).2 (by decide) (by decide) hr) ?_
    show Go p e s below _ _ _ _ s₁ (mkF m 34 #[.val (.ref a1), .val (.ref a2), .unset] [])
    refine Go.of (fun _ hr => XS.iconst X0.here hx rfl (hb hby d12_34) hr) ?_
    show Go p e s below _ _ _ _ s₁ (mkF m 35 #[.val (.ref a1), .val (.ref a2), .unset] [(.int (0 : Int32))])
    exact Go.retN X0 hx hlk B0 J0 e0 (t := .boolean) (z' := (0 : Int32)) hret (by simp) (hb hby d12_35) rfl (by decide) (by decide) (fun vm_ hw_ => ⟨(by rw [if_neg (fun q => hb4_103 (by rw [q]))]), (fun y hy => Nat.le_trans hnb (N0 y hy)), rfl⟩)

theorem d11_0 : decode jdk_42_method_66_code 0 = .ok (.aload_n 0, 1) := by decide +kernel
theorem d11_1 : decode jdk_42_method_66_code 1 = .ok (.aload_n 1, 1) := by decide +kernel
theorem d11_2 : decode jdk_42_method_66_code 2 = .ok (.if_acmp .ne 5, 3) := by decide +kernel
theorem d11_7 : decode jdk_42_method_66_code 7 = .ok (.aload_n 1, 1) := by decide +kernel
theorem d11_8 : decode jdk_42_method_66_code 8 = .ok (.instanceof 10, 3) := by decide +kernel
theorem d11_11 : decode jdk_42_method_66_code 11 = .ok (.ifCond .eq 43, 3) := by decide +kernel
theorem d11_14 : decode jdk_42_method_66_code 14 = .ok (.aload_n 1, 1) := by decide +kernel
theorem d11_15 : decode jdk_42_method_66_code 15 = .ok (.checkcast 10, 3) := by decide +kernel
theorem d11_18 : decode jdk_42_method_66_code 18 = .ok (.astore_n 2, 1) := by decide +kernel
theorem d11_19 : decode jdk_42_method_66_code 19 = .ok (.getstatic 38, 3) := by decide +kernel
theorem d11_22 : decode jdk_42_method_66_code 22 = .ok (.ifCond .eq 14, 3) := by decide +kernel
theorem d11_25 : decode jdk_42_method_66_code 25 = .ok (.aload_n 0, 1) := by decide +kernel
theorem d11_26 : decode jdk_42_method_66_code 26 = .ok (.getfield 15, 3) := by decide +kernel
theorem d11_29 : decode jdk_42_method_66_code 29 = .ok (.aload_n 2, 1) := by decide +kernel
theorem d11_30 : decode jdk_42_method_66_code 30 = .ok (.getfield 15, 3) := by decide +kernel
theorem d11_33 : decode jdk_42_method_66_code 33 = .ok (.if_icmp .ne 21, 3) := by decide +kernel
theorem d11_36 : decode jdk_42_method_66_code 36 = .ok (.aload_n 0, 1) := by decide +kernel
theorem d11_37 : decode jdk_42_method_66_code 37 = .ok (.getfield 9, 3) := by decide +kernel
theorem d11_40 : decode jdk_42_method_66_code 40 = .ok (.aload_n 2, 1) := by decide +kernel
theorem d11_41 : decode jdk_42_method_66_code 41 = .ok (.getfield 9, 3) := by decide +kernel
theorem d11_44 : decode jdk_42_method_66_code 44 = .ok (.invokestatic 541, 3) := by decide +kernel
theorem pd4 : parseMethodDescriptor "([B[B)Z" = some ⟨[(.array .byte), (.array .byte)], some .boolean⟩ := by decide +kernel
theorem d11_47 : decode jdk_42_method_66_code 47 = .ok (.ifCond .eq 7, 3) := by decide +kernel
theorem d11_54 : decode jdk_42_method_66_code 54 = .ok (.iconst 0, 1) := by decide +kernel
theorem d11_55 : decode jdk_42_method_66_code 55 = .ok (.ireturn, 1) := by decide +kernel
theorem d11_50 : decode jdk_42_method_66_code 50 = .ok (.iconst 1, 1) := by decide +kernel
theorem d11_51 : decode jdk_42_method_66_code 51 = .ok (.goto 4, 3) := by decide +kernel
set_option maxRecDepth 65536 in
set_option maxHeartbeats 40000000 in
theorem rm11 (l : Launch) (Z : State) (a0 : Array Value) (hw : ∀ d ∈ tables_1, d.before a0 Z = true) (ws : List Jvm.Cond) (a1 a2 t1 t2 : Addr) (k1 k2 : ClassId) (b1 b2 : List Int32) (zc : Int32) (ms : List Addr) (h0 : Heap) (n0 : Nat) (O0 : Old Z n0 h0) (nb : Nat) (hb0 : n0 ≤ nb) (hnb : nb ≤ h0.size) (hn1 : b1.length < 2147483648) (hn2 : b2.length < 2147483648) (ne12 : a1 ≠ a2) (E2 : Exa Z h0 a2 "java/lang/String") (Fv1 : Fld Z h0 a1 "java/lang/String" "value" "[B" (.ref t1)) (Fc1 : Fld Z h0 a1 "java/lang/String" "coder" "B" (.int 0)) (Fv2 : Fld Z h0 a2 "java/lang/String" "value" "[B" (.ref t2)) (Fc2 : Fld Z h0 a2 "java/lang/String" "coder" "B" (.int 0)) (V1 : Arv Z h0 t1 k1 .byte (Int32.ofNat b1.length) (b1.map Value.int) (.int 0)) (V2 : Arv Z h0 t2 k2 .byte (Int32.ofNat b2.length) (b2.map Value.int) (.int 0)) (S_C : Sta Z Z.heap "java/lang/String" "COMPACT_STRINGS" "Z" (.int zc)) (hzc : ¬ zc = 0) :
    Con l Z ms (⟨"java/lang/String", "equals", "(Ljava/lang/Object;)Z"⟩ : MethodName) jdk_42_method_66_code 3 (some .boolean) ws ({ frames := 1, cells := 0, slots := 0, locals := 14 } : Room) #[(.ref a1), (.ref a2)] h0 (fun v vm h L => v = some (.int (if b1 = b2 then 1 else 0)) ∧ Fr nb L ∧ h = h0) := by
  refine Con.mk (plainFor_of_name pn1) ?_
  intro p e s m below meth c s₁ Cc X0 e0 eb J0 B0 M0
  obtain ⟨hx, hZ, hown, hby, hml, hnm, hret, hlk⟩ := id Cc
  have N0 := Fr.nil h0.size
  have K0 := Keep.refl h0 []
  show Go p e s below _ _ _ _ s₁ (mkF m 0 #[.val (.ref a1), .val (.ref a2), .unset] [])
  refine Go.of (fun _ hr => XS.aloadN X0.here hx rfl (hb hby d11_0) rfl rfl hr) ?_
  show Go p e s below _ _ _ _ s₁ (mkF m 1 #[.val (.ref a1), .val (.ref a2), .unset] [(.ref a1)])
  refine Go.of (fun _ hr => XS.aloadN X0.here hx rfl (hb hby d11_1) rfl rfl hr) ?_
  show Go p e s below _ _ _ _ s₁ (mkF m 2 #[.val (.ref a1), .val (.ref a2), .unset] [(.ref a2), (.ref a1)])
  refine Go.of (fun _ hr => Jvm.RoadKit.acmp (g := (mkF m 2 #[.val (.ref a1), .val (.ref a2), .unset] [(.ref a2), (.ref a1)])) X0 hx rfl rfl rfl (pc0 := 2) (pc' := 7) (same := false) rfl (hb hby d11_2) rfl (decide_eq_false (fun q => ne12 (Value.ref.inj q))) (by decide) (by decide) hr) ?_
  show Go p e s below _ _ _ _ s₁ (mkF m 7 #[.val (.ref a1), .val (.ref a2), .unset] [])
  refine Go.of (fun _ hr => XS.aloadN X0.here hx rfl (hb hby d11_7) rfl rfl hr) ?_
  show Go p e s below _ _ _ _ s₁ (mkF m 8 #[.val (.ref a1), .val (.ref a2), .unset] [(.ref a2)])
  obtain ⟨T101, X101, e101, st101⟩ := instY X0 hx hZ hown (hw _ (List.mem_of_getElem? (i := 73) rfl)) e0 (Ins.self E2) (g := (mkF m 8 #[.val (.ref a1), .val (.ref a2), .unset] [(.ref a2)])) rfl rfl (hb hby d11_8)
  refine Go.of (fun _ hr => st101 _ hr) ?_
  show Go p e s below _ _ _ _ T101 (mkF m 11 #[.val (.ref a1), .val (.ref a2), .unset] [(.int (1 : Int32))])
  refine Go.of (fun _ hr => XS.ifNo X101.here hx rfl (hb hby d11_11) rfl ((if0 _ _).trans (feq (by decide : ¬ ((1 : Int32) = (0 : Int32)))).1) hr) ?_
  show Go p e s below _ _ _ _ T101 (mkF m 14 #[.val (.ref a1), .val (.ref a2), .unset] [])
  refine Go.of (fun _ hr => XS.aloadN X101.here hx rfl (hb hby d11_14) rfl rfl hr) ?_
  show Go p e s below _ _ _ _ T101 (mkF m 15 #[.val (.ref a1), .val (.ref a2), .unset] [(.ref a2)])
  obtain ⟨T102, X102, e102, st102⟩ := castY X101 hx hZ hown (hw _ (List.mem_of_getElem? (i := 73) rfl)) e101 (Ins.self E2) (g := (mkF m 15 #[.val (.ref a1), .val (.ref a2), .unset] [(.ref a2)])) rfl rfl (hb hby d11_15)
  refine Go.of (fun _ hr => st102 _ hr) ?_
  show Go p e s below _ _ _ _ T102 (mkF m 18 #[.val (.ref a1), .val (.ref a2), .unset] [(.ref a2)])
  refine Go.of (fun _ hr => XS.astoreN X102.here hx rfl (hb hby d11_18) rfl rfl (l' := #[.val (.ref a1), .val (.ref a2), .val (.ref a2)]) rfl hr) ?_
  show Go p e s below _ _ _ _ T102 (mkF m 19 #[.val (.ref a1), .val (.ref a2), .val (.ref a2)] [])
  obtain ⟨T103, X103, e103, st103⟩ := getS2 X102 hx hZ hown (host := "") (Or.inl (hw _ (List.mem_of_getElem? (i := 19) rfl))) Via.refl e102 (S_C.ext O0.2) (g := (mkF m 19 #[.val (.ref a1), .val (.ref a2), .val (.ref a2)] [])) rfl (hb hby d11_19)
  refine Go.of (fun _ hr => st103 _ hr) ?_
  show Go p e s below _ _ _ _ T103 (mkF m 22 #[.val (.ref a1), .val (.ref a2), .val (.ref a2)] [(.int zc)])
  refine Go.of (fun _ hr => XS.ifNo X103.here hx rfl (hb hby d11_22) rfl ((if0 _ _).trans (feq hzc).1) hr) ?_
  show Go p e s below _ _ _ _ T103 (mkF m 25 #[.val (.ref a1), .val (.ref a2), .val (.ref a2)] [])
  refine Go.of (fun _ hr => XS.aloadN X103.here hx rfl (hb hby d11_25) rfl rfl hr) ?_
  show Go p e s below _ _ _ _ T103 (mkF m 26 #[.val (.ref a1), .val (.ref a2), .val (.ref a2)] [(.ref a1)])
  obtain ⟨T104, X104, e104, st104⟩ := getF X103 hx hZ hown (host := "") (Or.inl (hw _ (List.mem_of_getElem? (i := 31) rfl))) Via.refl e103 Fc1 (g := (mkF m 26 #[.val (.ref a1), .val (.ref a2), .val (.ref a2)] [(.ref a1)])) rfl rfl (hb hby d11_26)
  refine Go.of (fun _ hr => st104 _ hr) ?_
  show Go p e s below _ _ _ _ T104 (mkF m 29 #[.val (.ref a1), .val (.ref a2), .val (.ref a2)] [(.int (0 : Int32))])
  refine Go.of (fun _ hr => XS.aloadN X104.here hx rfl (hb hby d11_29) rfl rfl hr) ?_
  show Go p e s below _ _ _ _ T104 (mkF m 30 #[.val (.ref a1), .val (.ref a2), .val (.ref a2)] [(.ref a2), (.int (0 : Int32))])
  obtain ⟨T105, X105, e105, st105⟩ := getF X104 hx hZ hown (host := "") (Or.inl (hw _ (List.mem_of_getElem? (i := 31) rfl))) Via.refl e104 Fc2 (g := (mkF m 30 #[.val (.ref a1), .val (.ref a2), .val (.ref a2)] [(.ref a2), (.int (0 : Int32))])) rfl rfl (hb hby d11_30)
  refine Go.of (fun _ hr => st105 _ hr) ?_
  show Go p e s below _ _ _ _ T105 (mkF m 33 #[.val (.ref a1), .val (.ref a2), .val (.ref a2)] [(.int (0 : Int32)), (.int (0 : Int32))])
  refine Go.of (fun _ hr => XS.icmpNo X105.here hx rfl (hb hby d11_33) rfl (teq (by decide : ((0 : Int32) = (0 : Int32)))).2 hr) ?_
  show Go p e s below _ _ _ _ T105 (mkF m 36 #[.val (.ref a1), .val (.ref a2), .val (.ref a2)] [])
  refine Go.of (fun _ hr => XS.aloadN X105.here hx rfl (hb hby d11_36) rfl rfl hr) ?_
  show Go p e s below _ _ _ _ T105 (mkF m 37 #[.val (.ref a1), .val (.ref a2), .val (.ref a2)] [(.ref a1)])
  obtain ⟨T106, X106, e106, st106⟩ := getF X105 hx hZ hown (host := "") (Or.inl (hw _ (List.mem_of_getElem? (i := 33) rfl))) Via.refl e105 Fv1 (g := (mkF m 37 #[.val (.ref a1), .val (.ref a2), .val (.ref a2)] [(.ref a1)])) rfl rfl (hb hby d11_37)
  refine Go.of (fun _ hr => st106 _ hr) ?_
  show Go p e s below _ _ _ _ T106 (mkF m 40 #[.val (.ref a1), .val (.ref a2), .val (.ref a2)] [(.ref t1)])
  refine Go.of (fun _ hr => XS.aloadN X106.here hx rfl (hb hby d11_40) rfl rfl hr) ?_
  show Go p e s below _ _ _ _ T106 (mkF m 41 #[.val (.ref a1), .val (.ref a2), .val (.ref a2)] [(.ref a2), (.ref t1)])
  obtain ⟨T107, X107, e107, st107⟩ := getF X106 hx hZ hown (host := "") (Or.inl (hw _ (List.mem_of_getElem? (i := 33) rfl))) Via.refl e106 Fv2 (g := (mkF m 41 #[.val (.ref a1), .val (.ref a2), .val (.ref a2)] [(.ref a2), (.ref t1)])) rfl rfl (hb hby d11_41)
  refine Go.of (fun _ hr => st107 _ hr) ?_
  show Go p e s below _ _ _ _ T107 (mkF m 44 #[.val (.ref a1), .val (.ref a2), .val (.ref a2)] [(.ref t2), (.ref t1)])
  obtain ⟨_, b108, T108, h108, L108, e108, Cc108, X108, B108, J108, g108, hQ108, st108⟩ := own_callS Cc B0 J0 X107 (hw _ (List.mem_of_getElem? (i := 74) rfl)) (hw _ (List.mem_of_getElem? (i := 75) rfl)) (hw _ (List.mem_of_getElem? (i := 76) rfl)) (hw _ (List.mem_of_getElem? (i := 77) rfl)) (by decide) (rm12 l Z a0 hw [] t1 t2 _ _ b1 b2 _ h0 n0 O0 h0.size (own_ole O0) K0.1 hn1 hn2 V1 V2) e107 (g := (mkF m 44 #[.val (.ref a1), .val (.ref a2), .val (.ref a2)] [(.ref t2), (.ref t1)])) rfl (by rw [hml]; rfl) (argsL := [(.ref t1), (.ref t2)]) (rest := []) (lenOf pd4 rfl) rfl (W := 0) (by show 2 * 0 + _ ≤ _; exact Nat.le_of_eq rfl) (hb hby d11_44) (by decide) (by decide) (by decide) (by decide)
  obtain ⟨rfl, Nq108, hh108⟩ := hQ108
  have N108 := Fr.app N0 Nq108
  obtain ⟨hx, hZ, hown, hby, hml, hnm, hret, hlk⟩ := id Cc108
  rw [hh108] at e108 B108 J108
  refine Go.of st108 ?_
  show Go p e s below _ _ _ _ T108 (mkF m 47 #[.val (.ref a1), .val (.ref a2), .val (.ref a2)] [(.int (if b1 = b2 then 1 else 0))])
  by_cases hb47_109 : (if b1 = b2 then 1 else 0) = (0 : Int32)
  · refine Go.of (fun _ hr => XS.ifYes X108.here hx rfl (pc0 := 47) (pc' := 54) rfl (hb hby d11_47) rfl ((if0 _ _).trans (teq hb47_109).1) (by decide) (by decide) hr) ?_
    show Go p e s below _ _ _ _ T108 (mkF m 54 #[.val (.ref a1), .val (.ref a2), .val (.ref a2)] [])
    refine Go.of (fun _ hr => XS.iconst X108.here hx rfl (hb hby d11_54) hr) ?_
    show Go p e s below _ _ _ _ T108 (mkF m 55 #[.val (.ref a1), .val (.ref a2), .val (.ref a2)] [(.int (0 : Int32))])
    exact Go.retN X108 hx hlk B108 J108 e108 (t := .boolean) (z' := (0 : Int32)) hret (by simp) (hb hby d11_55) rfl (by decide) (by decide) (fun vm_ hw_ => ⟨(by rw [if_neg (fun q => by rw [if_pos q] at hb47_109; exact absurd hb47_109 (by decide))]), (fun y hy => Nat.le_trans hnb (N108 y hy)), rfl⟩)
  · refine Go.of (fun _ hr => XS.ifNo X108.here hx rfl (hb hby d11_47) rfl ((if0 _ _).trans (feq hb47_109).1) hr) ?_
    show Go p e s below _ _ _ _ T108 (mkF m 50 #[.val (.ref a1), .val (.ref a2), .val (.ref a2)] [])
    refine Go.of (fun _ hr => XS.iconst X108.here hx rfl (hb hby d11_50) hr) ?_
    show Go p e s below _ _ _ _ T108 (mkF m 51 #[.val (.ref a1), .val (.ref a2), .val (.ref a2)] [(.int (1 : Int32))])
    refine Go.of (fun _ hr => XS.goto X108.here hx rfl (pc0 := 51) (pc' := 55) rfl (hb hby d11_51) (by decide) (by decide) hr) ?_
    show Go p e s below _ _ _ _ T108 (mkF m 55 #[.val (.ref a1), .val (.ref a2), .val (.ref a2)] [(.int (1 : Int32))])
    exact Go.retN X108 hx hlk B108 J108 e108 (t := .boolean) (z' := (1 : Int32)) hret (by simp) (hb hby d11_55) rfl (by decide) (by decide) (fun vm_ hw_ => ⟨(by rw [if_pos (Decidable.byContradiction fun q => by rw [if_neg q] at hb47_109; exact hb47_109 rfl)]), (fun y hy => Nat.le_trans hnb (N108 y hy)), rfl⟩)

theorem pn3 : plainName "com/example/mthd/mthd/model/FieldHoldsStringsPinLaw" = true := by first | (simp [plainName, overriddenIn]; done) | decide +kernel
theorem d1_0 : decode method_3_code 0 = .ok (.iload_n 1, 1) := by decide +kernel
theorem d1_1 : decode method_3_code 1 = .ok (.iload_n 2, 1) := by decide +kernel
theorem d1_2 : decode method_3_code 2 = .ok (.if_icmp .ne 5, 3) := by decide +kernel
theorem d1_5 : decode method_3_code 5 = .ok (.iload_n 3, 1) := by decide +kernel
theorem d1_6 : decode method_3_code 6 = .ok (.ireturn, 1) := by decide +kernel
theorem d1_7 : decode method_3_code 7 = .ok (.iload_n 1, 1) := by decide +kernel
theorem d1_8 : decode method_3_code 8 = .ok (.aload_n 0, 1) := by decide +kernel
theorem d1_9 : decode method_3_code 9 = .ok (.arraylength, 1) := by decide +kernel
theorem d1_10 : decode method_3_code 10 = .ok (.if_icmp .ge 7, 3) := by decide +kernel
theorem d1_13 : decode method_3_code 13 = .ok (.aload_n 0, 1) := by decide +kernel
theorem d1_14 : decode method_3_code 14 = .ok (.iload_n 1, 1) := by decide +kernel
theorem d1_15 : decode method_3_code 15 = .ok (.caload, 1) := by decide +kernel
theorem d1_16 : decode method_3_code 16 = .ok (.ireturn, 1) := by decide +kernel
theorem d1_17 : decode method_3_code 17 = .ok (.iload_n 3, 1) := by decide +kernel
theorem d1_18 : decode method_3_code 18 = .ok (.ireturn, 1) := by decide +kernel
set_option maxRecDepth 65536 in
set_option maxHeartbeats 40000000 in
theorem rm1 (l : Launch) (Z : State) (a0 : Array Value) (hw : ∀ d ∈ tables_1, d.before a0 Z = true) (ws : List Jvm.Cond) (a1 : Addr) (k1 : ClassId) (i1 q1 c1 : Int32) (bL : List Int32) (ms : List Addr) (h0 : Heap) (n0 : Nat) (O0 : Old Z n0 h0) (nb : Nat) (hb0 : n0 ≤ nb) (hnb : nb ≤ h0.size) (hbr : ∀ x ∈ bL, rng x) (hi : ¬ i1 < 0) (hbn : bL.length < 2147483648) (hq_c1 : rng c1) (V1 : Arv Z h0 a1 k1 .char (Int32.ofNat bL.length) (bL.map Value.int) (.int 0)) :
    Con l Z ms (⟨"com/example/mthd/mthd/model/FieldHoldsStringsPinLaw", "at", "([CIIC)C"⟩ : MethodName) method_3_code 4 (some .char) ws ({ frames := 0, cells := 0, slots := 0, locals := 0 } : Room) #[(.ref a1), (.int i1), (.int q1), (.int c1)] h0 (fun v vm h L => v = some (.int (atV bL i1 q1 c1)) ∧ Fr nb L ∧ h = h0) := by
  refine Con.mk (plainFor_of_name pn3) ?_
  intro p e s m below meth c s₁ Cc X0 e0 eb J0 B0 M0
  obtain ⟨hx, hZ, hown, hby, hml, hnm, hret, hlk⟩ := id Cc
  have N0 := Fr.nil h0.size
  have K0 := Keep.refl h0 []
  show Go p e s below _ _ _ _ s₁ (mkF m 0 #[.val (.ref a1), .val (.int i1), .val (.int q1), .val (.int c1)] [])
  refine Go.of (fun _ hr => XS.iloadN X0.here hx rfl (hb hby d1_0) rfl  hr) ?_
  show Go p e s below _ _ _ _ s₁ (mkF m 1 #[.val (.ref a1), .val (.int i1), .val (.int q1), .val (.int c1)] [(.int i1)])
  refine Go.of (fun _ hr => XS.iloadN X0.here hx rfl (hb hby d1_1) rfl  hr) ?_
  show Go p e s below _ _ _ _ s₁ (mkF m 2 #[.val (.ref a1), .val (.int i1), .val (.int q1), .val (.int c1)] [(.int q1), (.int i1)])
  by_cases hb2_101 : i1 = q1
  · refine Go.of (fun _ hr => XS.icmpNo X0.here hx rfl (hb hby d1_2) rfl (teq hb2_101).2 hr) ?_
    show Go p e s below _ _ _ _ s₁ (mkF m 5 #[.val (.ref a1), .val (.int i1), .val (.int q1), .val (.int c1)] [])
    refine Go.of (fun _ hr => XS.iloadN X0.here hx rfl (hb hby d1_5) rfl  hr) ?_
    show Go p e s below _ _ _ _ s₁ (mkF m 6 #[.val (.ref a1), .val (.int i1), .val (.int q1), .val (.int c1)] [(.int c1)])
    exact Go.retN X0 hx hlk B0 J0 e0 (t := .char) (z' := (atV bL i1 q1 c1)) hret (by simp) (hb hby d1_6) ((congrArg (nar .char) (show c1 = atV bL i1 q1 c1 by simp [atV, hb2_101])).trans (nar_c (atV_rng hbr hi hbn hq_c1).1 (le255 (atV_rng hbr hi hbn hq_c1).2))) (by decide) (by decide) (fun vm_ hw_ => ⟨rfl, (fun y hy => Nat.le_trans hnb (N0 y hy)), rfl⟩)
  · refine Go.of (fun _ hr => XS.icmpYes X0.here hx rfl (pc0 := 2) (pc' := 7) rfl (hb hby d1_2) rfl (feq hb2_101).2 (by decide) (by decide) hr) ?_
    show Go p e s below _ _ _ _ s₁ (mkF m 7 #[.val (.ref a1), .val (.int i1), .val (.int q1), .val (.int c1)] [])
    refine Go.of (fun _ hr => XS.iloadN X0.here hx rfl (hb hby d1_7) rfl  hr) ?_
    show Go p e s below _ _ _ _ s₁ (mkF m 8 #[.val (.ref a1), .val (.int i1), .val (.int q1), .val (.int c1)] [(.int i1)])
    refine Go.of (fun _ hr => XS.aloadN X0.here hx rfl (hb hby d1_8) rfl rfl hr) ?_
    show Go p e s below _ _ _ _ s₁ (mkF m 9 #[.val (.ref a1), .val (.int i1), .val (.int q1), .val (.int c1)] [(.ref a1), (.int i1)])
    obtain ⟨cl102, Ar102, q102, S102, N102_, H102, G102⟩ := id V1
    refine Go.of (fun _ hr => X0.arraylength hx (by rw [e0]; exact Ar102.1) (State.isArrayOf_alike hZ.alike Ar102.2.1) (g := (mkF m 9 #[.val (.ref a1), .val (.int i1), .val (.int q1), .val (.int c1)] [(.ref a1), (.int i1)])) rfl rfl (hb hby d1_9) _ hr) ?_
    rw [len_of S102 N102_]
    show Go p e s below _ _ _ _ s₁ (mkF m 10 #[.val (.ref a1), .val (.int i1), .val (.int q1), .val (.int c1)] [(.int (Int32.ofNat bL.length)), (.int i1)])
    by_cases hb10_103 : i1 < (Int32.ofNat bL.length)
    · refine Go.of (fun _ hr => XS.icmpNo X0.here hx rfl (hb hby d1_10) rfl (tlt hb10_103).2.1 hr) ?_
      show Go p e s below _ _ _ _ s₁ (mkF m 13 #[.val (.ref a1), .val (.int i1), .val (.int q1), .val (.int c1)] [])
      refine Go.of (fun _ hr => XS.aloadN X0.here hx rfl (hb hby d1_13) rfl rfl hr) ?_
      show Go p e s below _ _ _ _ s₁ (mkF m 14 #[.val (.ref a1), .val (.int i1), .val (.int q1), .val (.int c1)] [(.ref a1)])
      refine Go.of (fun _ hr => XS.iloadN X0.here hx rfl (hb hby d1_14) rfl  hr) ?_
      show Go p e s below _ _ _ _ s₁ (mkF m 15 #[.val (.ref a1), .val (.int i1), .val (.int q1), .val (.int c1)] [(.int i1), (.ref a1)])
      obtain ⟨cl104, Ar104, q104, S104, N104_, H104, G104⟩ := id V1
      have hin104 : ¬ (i1 < 0 ∨ cl104.slots.size ≤ (i1).toNatClampNeg) := inb_of S104 ⟨hi, hb10_103⟩
      refine Go.of (fun _ hr => X0.caload hx (j := i1) (v := (.int (bL.getD i1.toNatClampNeg 0))) (by rw [e0]; exact Ar104.1) (State.isArrayOf_alike hZ.alike Ar104.2.1) Ar104.2.2 hin104 (H104.at hin104 (by rw [getD_int])) (g := (mkF m 15 #[.val (.ref a1), .val (.int i1), .val (.int q1), .val (.int c1)] [(.int i1), (.ref a1)])) rfl rfl (hb hby d1_15) _ hr) ?_
      show Go p e s below _ _ _ _ s₁ (mkF m 16 #[.val (.ref a1), .val (.int i1), .val (.int q1), .val (.int c1)] [(.int (bL.getD i1.toNatClampNeg 0))])
      exact Go.retN X0 hx hlk B0 J0 e0 (t := .char) (z' := (atV bL i1 q1 c1)) hret (by simp) (hb hby d1_16) ((congrArg (nar .char) (show (bL.getD i1.toNatClampNeg 0) = atV bL i1 q1 c1 by simp [atV, hb2_101, hb10_103])).trans (nar_c (atV_rng hbr hi hbn hq_c1).1 (le255 (atV_rng hbr hi hbn hq_c1).2))) (by decide) (by decide) (fun vm_ hw_ => ⟨rfl, (fun y hy => Nat.le_trans hnb (N0 y hy)), rfl⟩)
    · refine Go.of (fun _ hr => XS.icmpYes X0.here hx rfl (pc0 := 10) (pc' := 17) rfl (hb hby d1_10) rfl (flt hb10_103).2.1 (by decide) (by decide) hr) ?_
      show Go p e s below _ _ _ _ s₁ (mkF m 17 #[.val (.ref a1), .val (.int i1), .val (.int q1), .val (.int c1)] [])
      refine Go.of (fun _ hr => XS.iloadN X0.here hx rfl (hb hby d1_17) rfl  hr) ?_
      show Go p e s below _ _ _ _ s₁ (mkF m 18 #[.val (.ref a1), .val (.int i1), .val (.int q1), .val (.int c1)] [(.int c1)])
      exact Go.retN X0 hx hlk B0 J0 e0 (t := .char) (z' := (atV bL i1 q1 c1)) hret (by simp) (hb hby d1_18) ((congrArg (nar .char) (show c1 = atV bL i1 q1 c1 by simp [atV, hb2_101, hb10_103])).trans (nar_c (atV_rng hbr hi hbn hq_c1).1 (le255 (atV_rng hbr hi hbn hq_c1).2))) (by decide) (by decide) (fun vm_ hw_ => ⟨rfl, (fun y hy => Nat.le_trans hnb (N0 y hy)), rfl⟩)

theorem pn4 : plainName "java/lang/Record" = true := by first | (simp [plainName, overriddenIn]; done) | decide +kernel
theorem d9_0 : decode jdk_30_method_1_code 0 = .ok (.aload_n 0, 1) := by decide +kernel
theorem d9_1 : decode jdk_30_method_1_code 1 = .ok (.invokespecial 1, 3) := by decide +kernel
theorem d9_4 : decode jdk_30_method_1_code 4 = .ok (.return_, 1) := by decide +kernel
set_option maxRecDepth 65536 in
set_option maxHeartbeats 40000000 in
theorem rm9 (l : Launch) (Z : State) (a0 : Array Value) (hw : ∀ d ∈ tables_1, d.before a0 Z = true) (ws : List Jvm.Cond) (a1 : Addr) (ms : List Addr) (h0 : Heap) (n0 : Nat) (O0 : Old Z n0 h0) (nb : Nat) (hb0 : n0 ≤ nb) (hnb : nb ≤ h0.size) :
    Con l Z ms (⟨"java/lang/Record", "<init>", "()V"⟩ : MethodName) jdk_30_method_1_code 1 none ws ({ frames := 1, cells := 0, slots := 0, locals := 12 } : Room) #[(.ref a1)] h0 (fun v vm h L => v = none ∧ Fr nb L ∧ h = h0) := by
  refine Con.mk (plainFor_of_name pn4) ?_
  intro p e s m below meth c s₁ Cc X0 e0 eb J0 B0 M0
  obtain ⟨hx, hZ, hown, hby, hml, hnm, hret, hlk⟩ := id Cc
  have N0 := Fr.nil h0.size
  have K0 := Keep.refl h0 []
  show Go p e s below _ _ _ _ s₁ (mkF m 0 #[.val (.ref a1)] [])
  refine Go.of (fun _ hr => XS.aloadN X0.here hx rfl (hb hby d9_0) rfl rfl hr) ?_
  show Go p e s below _ _ _ _ s₁ (mkF m 1 #[.val (.ref a1)] [(.ref a1)])
  obtain ⟨T101, X101, e101, st101⟩ := initO X0 hx hZ hown (hw _ (List.mem_of_getElem? (i := 49) rfl)) (hw _ (List.mem_of_getElem? (i := 17) rfl)) (hw _ (List.mem_of_getElem? (i := 18) rfl)) e0 (g := (mkF m 1 #[.val (.ref a1)] [(.ref a1)])) rfl (by rw [hml]; rfl) rfl (hb hby d9_1) (by decide) (W := 0) (by show 2 * 0 + _ ≤ _; exact Nat.le_of_eq rfl) (by decide)
  refine Go.of (fun _ hr => st101 _ hr) ?_
  show Go p e s below _ _ _ _ T101 (mkF m 4 #[.val (.ref a1)] [])
  exact Go.retV X101 hx hlk B0 J0 e101 hret (hb hby d9_4) (by decide) (by decide) (fun vm_ hw_ => ⟨rfl, (fun y hy => Nat.le_trans hnb (N0 y hy)), rfl⟩)

theorem pn5 : plainName "com/example/mthd/mthd/model/ApiMessage$Field" = true := by first | (simp [plainName, overriddenIn]; done) | decide +kernel
theorem d8_0 : decode prog_19_method_1_code 0 = .ok (.aload_n 0, 1) := by decide +kernel
theorem d8_1 : decode prog_19_method_1_code 1 = .ok (.invokespecial 1, 3) := by decide +kernel
theorem pd5 : parseMethodDescriptor "()V" = some ⟨[], none⟩ := by decide +kernel
theorem d8_4 : decode prog_19_method_1_code 4 = .ok (.aload_n 0, 1) := by decide +kernel
theorem d8_5 : decode prog_19_method_1_code 5 = .ok (.aload_n 1, 1) := by decide +kernel
theorem d8_6 : decode prog_19_method_1_code 6 = .ok (.putfield 7, 3) := by decide +kernel
theorem d8_9 : decode prog_19_method_1_code 9 = .ok (.aload_n 0, 1) := by decide +kernel
theorem d8_10 : decode prog_19_method_1_code 10 = .ok (.aload_n 2, 1) := by decide +kernel
theorem d8_11 : decode prog_19_method_1_code 11 = .ok (.putfield 13, 3) := by decide +kernel
theorem d8_14 : decode prog_19_method_1_code 14 = .ok (.aload_n 0, 1) := by decide +kernel
theorem d8_15 : decode prog_19_method_1_code 15 = .ok (.iload_n 3, 1) := by decide +kernel
theorem d8_16 : decode prog_19_method_1_code 16 = .ok (.putfield 16, 3) := by decide +kernel
theorem d8_19 : decode prog_19_method_1_code 19 = .ok (.aload_n 0, 1) := by decide +kernel
theorem d8_20 : decode prog_19_method_1_code 20 = .ok (.iload 4, 2) := by decide +kernel
theorem d8_22 : decode prog_19_method_1_code 22 = .ok (.putfield 20, 3) := by decide +kernel
theorem d8_25 : decode prog_19_method_1_code 25 = .ok (.aload_n 0, 1) := by decide +kernel
theorem d8_26 : decode prog_19_method_1_code 26 = .ok (.aload 5, 2) := by decide +kernel
theorem d8_28 : decode prog_19_method_1_code 28 = .ok (.putfield 23, 3) := by decide +kernel
theorem d8_31 : decode prog_19_method_1_code 31 = .ok (.aload_n 0, 1) := by decide +kernel
theorem d8_32 : decode prog_19_method_1_code 32 = .ok (.aload 6, 2) := by decide +kernel
theorem d8_34 : decode prog_19_method_1_code 34 = .ok (.putfield 27, 3) := by decide +kernel
theorem d8_37 : decode prog_19_method_1_code 37 = .ok (.return_, 1) := by decide +kernel
set_option maxRecDepth 65536 in
set_option maxHeartbeats 40000000 in
theorem rm8 (l : Launch) (Z : State) (a0 : Array Value) (hw : ∀ d ∈ tables_1, d.before a0 Z = true) (ws : List Jvm.Cond) (a1 : Addr) (u0 : Value) (x0 : Addr) (u1 : Value) (x1 : Addr) (u2 : Value) (x2 : Int32) (u3 : Value) (x3 : Int32) (u4 : Value) (u5 : Value) (ms : List Addr) (h0 : Heap) (n0 : Nat) (O0 : Old Z n0 h0) (nb : Nat) (hb0 : n0 ≤ nb) (hnb : nb ≤ h0.size) (fr_a1 : nb ≤ a1) (hm_a1 : a1 ∈ ms) (E1 : Exa Z h0 a1 "com/example/mthd/mthd/model/ApiMessage$Field") (F0 : Fld Z h0 a1 "com/example/mthd/mthd/model/ApiMessage$Field" "name" "Ljava/lang/String;" u0) (F1 : Fld Z h0 a1 "com/example/mthd/mthd/model/ApiMessage$Field" "type" "Ljava/lang/String;" u1) (F2 : Fld Z h0 a1 "com/example/mthd/mthd/model/ApiMessage$Field" "repeated" "Z" u2) (hz2 : x2 = 1 ∨ x2 = 0) (F3 : Fld Z h0 a1 "com/example/mthd/mthd/model/ApiMessage$Field" "map" "Z" u3) (hz3 : x3 = 1 ∨ x3 = 0) (F4 : Fld Z h0 a1 "com/example/mthd/mthd/model/ApiMessage$Field" "message" "Ljava/util/Optional;" u4) (F5 : Fld Z h0 a1 "com/example/mthd/mthd/model/ApiMessage$Field" "resource" "Ljava/util/Optional;" u5) :
    Con l Z ms (⟨"com/example/mthd/mthd/model/ApiMessage$Field", "<init>", "(Ljava/lang/String;Ljava/lang/String;ZZLjava/util/Optional;Ljava/util/Optional;)V"⟩ : MethodName) prog_19_method_1_code 7 none ws ({ frames := 2, cells := 0, slots := 0, locals := 24 } : Room) #[(.ref a1), (.ref x0), (.ref x1), (.int x2), (.int x3), .null, .null] h0 (fun v vm h L => v = none ∧ Fr nb L ∧ Keep h0 h [a1] ∧ Fld Z h a1 "com/example/mthd/mthd/model/ApiMessage$Field" "name" "Ljava/lang/String;" (.ref x0) ∧ Fld Z h a1 "com/example/mthd/mthd/model/ApiMessage$Field" "type" "Ljava/lang/String;" (.ref x1) ∧ Fld Z h a1 "com/example/mthd/mthd/model/ApiMessage$Field" "repeated" "Z" (.int x2) ∧ Fld Z h a1 "com/example/mthd/mthd/model/ApiMessage$Field" "map" "Z" (.int x3) ∧ Fld Z h a1 "com/example/mthd/mthd/model/ApiMessage$Field" "message" "Ljava/util/Optional;" .null ∧ Fld Z h a1 "com/example/mthd/mthd/model/ApiMessage$Field" "resource" "Ljava/util/Optional;" .null) := by
  refine Con.mk (plainFor_of_name pn5) ?_
  intro p e s m below meth c s₁ Cc X0 e0 eb J0 B0 M0
  obtain ⟨hx, hZ, hown, hby, hml, hnm, hret, hlk⟩ := id Cc
  have N0 := Fr.nil nb
  have K0 := Keep.refl h0 [a1]
  show Go p e s below _ _ _ _ s₁ (mkF m 0 #[.val (.ref a1), .val (.ref x0), .val (.ref x1), .val (.int x2), .val (.int x3), .val .null, .val .null] [])
  refine Go.of (fun _ hr => XS.aloadN X0.here hx rfl (hb hby d8_0) rfl rfl hr) ?_
  show Go p e s below _ _ _ _ s₁ (mkF m 1 #[.val (.ref a1), .val (.ref x0), .val (.ref x1), .val (.int x2), .val (.int x3), .val .null, .val .null] [(.ref a1)])
  obtain ⟨_, b101, T101, h101, L101, e101, Cc101, X101, B101, J101, g101, hQ101, st101⟩ := own_callI Cc B0 J0 X0 rfl (hw _ (List.mem_of_getElem? (i := 44) rfl)) (hw _ (List.mem_of_getElem? (i := 45) rfl)) (hw _ (List.mem_of_getElem? (i := 47) rfl)) (hw _ (List.mem_of_getElem? (i := 48) rfl)) (by decide) (rm9 l Z a0 hw [] a1 _ h0 n0 O0 h0.size (own_ole O0) K0.1) e0 (g := (mkF m 1 #[.val (.ref a1), .val (.ref x0), .val (.ref x1), .val (.int x2), .val (.int x3), .val .null, .val .null] [(.ref a1)])) rfl (by rw [hml]; rfl) (argsL := []) (rest := []) (lenOf pd5 rfl) rfl (W := 0) (by show 2 * 0 + _ ≤ _; exact Nat.le_of_eq rfl) (hb hby d8_1) (by decide) (by decide) (by decide) (by decide)
  obtain ⟨rfl, Nq101, hh101⟩ := hQ101
  have N101 := Fr.app N0 (show Fr nb _ from fun y hy => Nat.le_trans hnb (Nq101 y hy))
  have NS101 := Fr.app (Fr.nil _) Nq101
  obtain ⟨hx, hZ, hown, hby, hml, hnm, hret, hlk⟩ := id Cc101
  rw [hh101] at e101 B101 J101
  refine Go.of st101 ?_
  show Go p e s below _ _ _ _ T101 (mkF m 4 #[.val (.ref a1), .val (.ref x0), .val (.ref x1), .val (.int x2), .val (.int x3), .val .null, .val .null] [])
  refine Go.of (fun _ hr => XS.aloadN X101.here hx rfl (hb hby d8_4) rfl rfl hr) ?_
  show Go p e s below _ _ _ _ T101 (mkF m 5 #[.val (.ref a1), .val (.ref x0), .val (.ref x1), .val (.int x2), .val (.int x3), .val .null, .val .null] [(.ref a1)])
  refine Go.of (fun _ hr => XS.aloadN X101.here hx rfl (hb hby d8_5) rfl rfl hr) ?_
  show Go p e s below _ _ _ _ T101 (mkF m 6 #[.val (.ref a1), .val (.ref x0), .val (.ref x1), .val (.int x2), .val (.int x3), .val .null, .val .null] [(.ref x0), (.ref a1)])
  obtain ⟨T102, h102, X102, e102, W102, st102⟩ := putF X101 hx hZ hown (host := "") (Or.inl (hw _ (List.mem_of_getElem? (i := 50) rfl))) Via.refl e101 F0 E1 (Or.inr ⟨(hw _ (List.mem_of_getElem? (i := 51) rfl)), rfl, hnm⟩) (hw _ (List.mem_of_getElem? (i := 36) rfl)) (ty := (.object "java/lang/String")) (by decide) rfl rfl (g := (mkF m 6 #[.val (.ref a1), .val (.ref x0), .val (.ref x1), .val (.int x2), .val (.int x3), .val .null, .val .null] [(.ref x0), (.ref a1)])) rfl rfl (hb hby d8_6)
  have N102 := Fr.snoc X102 N101 fr_a1
  have J102 := J101.wr W102 hm_a1
  have B102 := B101.mono (Nat.le_of_eq W102.size.symm)
  have O102 := O0.wr W102 (Nat.le_trans hb0 fr_a1)
  have K102 := K0.wr W102 (Or.inl (List.mem_of_getElem? (i := 0) rfl))
  have Fw102 := F0.same W102
  refine Go.of (fun _ hr => st102 _ hr) ?_
  show Go p e s below _ _ _ _ T102 (mkF m 9 #[.val (.ref a1), .val (.ref x0), .val (.ref x1), .val (.int x2), .val (.int x3), .val .null, .val .null] [])
  refine Go.of (fun _ hr => XS.aloadN X102.here hx rfl (hb hby d8_9) rfl rfl hr) ?_
  show Go p e s below _ _ _ _ T102 (mkF m 10 #[.val (.ref a1), .val (.ref x0), .val (.ref x1), .val (.int x2), .val (.int x3), .val .null, .val .null] [(.ref a1)])
  refine Go.of (fun _ hr => XS.aloadN X102.here hx rfl (hb hby d8_10) rfl rfl hr) ?_
  show Go p e s below _ _ _ _ T102 (mkF m 11 #[.val (.ref a1), .val (.ref x0), .val (.ref x1), .val (.int x2), .val (.int x3), .val .null, .val .null] [(.ref x1), (.ref a1)])
  have f104 := (F1.other W102 (Or.inr (slot_ne (Or.inr (hw _ (List.mem_of_getElem? (i := 53) rfl))) (Or.inr (hw _ (List.mem_of_getElem? (i := 51) rfl))) (by decide) (t := (.object "java/lang/String")) (t' := (.object "java/lang/String")) (by decide) (by decide))))
  have f105 := (E1.wr W102)
  obtain ⟨T103, h103, X103, e103, W103, st103⟩ := putF X102 hx hZ hown (host := "") (Or.inl (hw _ (List.mem_of_getElem? (i := 52) rfl))) Via.refl e102 f104 f105 (Or.inr ⟨(hw _ (List.mem_of_getElem? (i := 53) rfl)), rfl, hnm⟩) (hw _ (List.mem_of_getElem? (i := 36) rfl)) (ty := (.object "java/lang/String")) (by decide) rfl rfl (g := (mkF m 11 #[.val (.ref a1), .val (.ref x0), .val (.ref x1), .val (.int x2), .val (.int x3), .val .null, .val .null] [(.ref x1), (.ref a1)])) rfl rfl (hb hby d8_11)
  have N103 := Fr.snoc X103 N102 fr_a1
  have J103 := J102.wr W103 hm_a1
  have B103 := B102.mono (Nat.le_of_eq W103.size.symm)
  have O103 := O102.wr W103 (Nat.le_trans hb0 fr_a1)
  have K103 := K102.wr W103 (Or.inl (List.mem_of_getElem? (i := 0) rfl))
  have Fw103 := f104.same W103
  refine Go.of (fun _ hr => st103 _ hr) ?_
  show Go p e s below _ _ _ _ T103 (mkF m 14 #[.val (.ref a1), .val (.ref x0), .val (.ref x1), .val (.int x2), .val (.int x3), .val .null, .val .null] [])
  refine Go.of (fun _ hr => XS.aloadN X103.here hx rfl (hb hby d8_14) rfl rfl hr) ?_
  show Go p e s below _ _ _ _ T103 (mkF m 15 #[.val (.ref a1), .val (.ref x0), .val (.ref x1), .val (.int x2), .val (.int x3), .val .null, .val .null] [(.ref a1)])
  refine Go.of (fun _ hr => XS.iloadN X103.here hx rfl (hb hby d8_15) rfl  hr) ?_
  show Go p e s below _ _ _ _ T103 (mkF m 16 #[.val (.ref a1), .val (.ref x0), .val (.ref x1), .val (.int x2), .val (.int x3), .val .null, .val .null] [(.int x2), (.ref a1)])
  have f107 := ((F2.other W102 (Or.inr (slot_ne (Or.inr (hw _ (List.mem_of_getElem? (i := 55) rfl))) (Or.inr (hw _ (List.mem_of_getElem? (i := 51) rfl))) (by decide) (t := .boolean) (t' := (.object "java/lang/String")) (by decide) (by decide)))).other W103 (Or.inr (slot_ne (Or.inr (hw _ (List.mem_of_getElem? (i := 55) rfl))) (Or.inr (hw _ (List.mem_of_getElem? (i := 53) rfl))) (by decide) (t := .boolean) (t' := (.object "java/lang/String")) (by decide) (by decide))))
  have f108 := (f105.wr W103)
  obtain ⟨T106, h106, X106, e106, W106, st106⟩ := putFN X103 hx hZ hown (hw _ (List.mem_of_getElem? (i := 54) rfl)) Via.refl e103 f107 f108 (Or.inr ⟨(hw _ (List.mem_of_getElem? (i := 55) rfl)), rfl, hnm⟩) (hw _ (List.mem_of_getElem? (i := 36) rfl)) (ty := .boolean) (v := (.int x2)) (v' := (.int x2)) (by decide) (congrArg Value.int (nar_z hz2)) (fits_z hz2) (g := (mkF m 16 #[.val (.ref a1), .val (.ref x0), .val (.ref x1), .val (.int x2), .val (.int x3), .val .null, .val .null] [(.int x2), (.ref a1)])) rfl rfl (hb hby d8_16)
  have N106 := Fr.snoc X106 N103 fr_a1
  have J106 := J103.wr W106 hm_a1
  have B106 := B103.mono (Nat.le_of_eq W106.size.symm)
  have O106 := O103.wr W106 (Nat.le_trans hb0 fr_a1)
  have K106 := K103.wr W106 (Or.inl (List.mem_of_getElem? (i := 0) rfl))
  have Fw106 := f107.same W106
  refine Go.of (fun _ hr => st106 _ hr) ?_
  show Go p e s below _ _ _ _ T106 (mkF m 19 #[.val (.ref a1), .val (.ref x0), .val (.ref x1), .val (.int x2), .val (.int x3), .val .null, .val .null] [])
  refine Go.of (fun _ hr => XS.aloadN X106.here hx rfl (hb hby d8_19) rfl rfl hr) ?_
  show Go p e s below _ _ _ _ T106 (mkF m 20 #[.val (.ref a1), .val (.ref x0), .val (.ref x1), .val (.int x2), .val (.int x3), .val .null, .val .null] [(.ref a1)])
  refine Go.of (fun _ hr => XS.iload X106.here hx rfl (hb hby d8_20) rfl  hr) ?_
  show Go p e s below _ _ _ _ T106 (mkF m 22 #[.val (.ref a1), .val (.ref x0), .val (.ref x1), .val (.int x2), .val (.int x3), .val .null, .val .null] [(.int x3), (.ref a1)])
  have f110 := (((F3.other W102 (Or.inr (slot_ne (Or.inr (hw _ (List.mem_of_getElem? (i := 57) rfl))) (Or.inr (hw _ (List.mem_of_getElem? (i := 51) rfl))) (by decide) (t := .boolean) (t' := (.object "java/lang/String")) (by decide) (by decide)))).other W103 (Or.inr (slot_ne (Or.inr (hw _ (List.mem_of_getElem? (i := 57) rfl))) (Or.inr (hw _ (List.mem_of_getElem? (i := 53) rfl))) (by decide) (t := .boolean) (t' := (.object "java/lang/String")) (by decide) (by decide)))).other W106 (Or.inr (slot_ne (Or.inr (hw _ (List.mem_of_getElem? (i := 57) rfl))) (Or.inr (hw _ (List.mem_of_getElem? (i := 55) rfl))) (by decide) (t := .boolean) (t' := .boolean) (by decide) (by decide))))
  have f111 := (f108.wr W106)
  obtain ⟨T109, h109, X109, e109, W109, st109⟩ := putFN X106 hx hZ hown (hw _ (List.mem_of_getElem? (i := 56) rfl)) Via.refl e106 f110 f111 (Or.inr ⟨(hw _ (List.mem_of_getElem? (i := 57) rfl)), rfl, hnm⟩) (hw _ (List.mem_of_getElem? (i := 36) rfl)) (ty := .boolean) (v := (.int x3)) (v' := (.int x3)) (by decide) (congrArg Value.int (nar_z hz3)) (fits_z hz3) (g := (mkF m 22 #[.val (.ref a1), .val (.ref x0), .val (.ref x1), .val (.int x2), .val (.int x3), .val .null, .val .null] [(.int x3), (.ref a1)])) rfl rfl (hb hby d8_22)
  have N109 := Fr.snoc X109 N106 fr_a1
  have J109 := J106.wr W109 hm_a1
  have B109 := B106.mono (Nat.le_of_eq W109.size.symm)
  have O109 := O106.wr W109 (Nat.le_trans hb0 fr_a1)
  have K109 := K106.wr W109 (Or.inl (List.mem_of_getElem? (i := 0) rfl))
  have Fw109 := f110.same W109
  refine Go.of (fun _ hr => st109 _ hr) ?_
  show Go p e s below _ _ _ _ T109 (mkF m 25 #[.val (.ref a1), .val (.ref x0), .val (.ref x1), .val (.int x2), .val (.int x3), .val .null, .val .null] [])
  refine Go.of (fun _ hr => XS.aloadN X109.here hx rfl (hb hby d8_25) rfl rfl hr) ?_
  show Go p e s below _ _ _ _ T109 (mkF m 26 #[.val (.ref a1), .val (.ref x0), .val (.ref x1), .val (.int x2), .val (.int x3), .val .null, .val .null] [(.ref a1)])
  refine Go.of (fun _ hr => XS.aload X109.here hx rfl (hb hby d8_26) rfl rfl hr) ?_
  show Go p e s below _ _ _ _ T109 (mkF m 28 #[.val (.ref a1), .val (.ref x0), .val (.ref x1), .val (.int x2), .val (.int x3), .val .null, .val .null] [.null, (.ref a1)])
  have f113 := ((((F4.other W102 (Or.inr (slot_ne (Or.inr (hw _ (List.mem_of_getElem? (i := 59) rfl))) (Or.inr (hw _ (List.mem_of_getElem? (i := 51) rfl))) (by decide) (t := (.object "java/util/Optional")) (t' := (.object "java/lang/String")) (by decide) (by decide)))).other W103 (Or.inr (slot_ne (Or.inr (hw _ (List.mem_of_getElem? (i := 59) rfl))) (Or.inr (hw _ (List.mem_of_getElem? (i := 53) rfl))) (by decide) (t := (.object "java/util/Optional")) (t' := (.object "java/lang/String")) (by decide) (by decide)))).other W106 (Or.inr (slot_ne (Or.inr (hw _ (List.mem_of_getElem? (i := 59) rfl))) (Or.inr (hw _ (List.mem_of_getElem? (i := 55) rfl))) (by decide) (t := (.object "java/util/Optional")) (t' := .boolean) (by decide) (by decide)))).other W109 (Or.inr (slot_ne (Or.inr (hw _ (List.mem_of_getElem? (i := 59) rfl))) (Or.inr (hw _ (List.mem_of_getElem? (i := 57) rfl))) (by decide) (t := (.object "java/util/Optional")) (t' := .boolean) (by decide) (by decide))))
  have f114 := (f111.wr W109)
  obtain ⟨T112, h112, X112, e112, W112, st112⟩ := putF X109 hx hZ hown (host := "") (Or.inl (hw _ (List.mem_of_getElem? (i := 58) rfl))) Via.refl e109 f113 f114 (Or.inr ⟨(hw _ (List.mem_of_getElem? (i := 59) rfl)), rfl, hnm⟩) (hw _ (List.mem_of_getElem? (i := 36) rfl)) (ty := (.object "java/util/Optional")) (by decide) rfl rfl (g := (mkF m 28 #[.val (.ref a1), .val (.ref x0), .val (.ref x1), .val (.int x2), .val (.int x3), .val .null, .val .null] [.null, (.ref a1)])) rfl rfl (hb hby d8_28)
  have N112 := Fr.snoc X112 N109 fr_a1
  have J112 := J109.wr W112 hm_a1
  have B112 := B109.mono (Nat.le_of_eq W112.size.symm)
  have O112 := O109.wr W112 (Nat.le_trans hb0 fr_a1)
  have K112 := K109.wr W112 (Or.inl (List.mem_of_getElem? (i := 0) rfl))
  have Fw112 := f113.same W112
  refine Go.of (fun _ hr => st112 _ hr) ?_
  show Go p e s below _ _ _ _ T112 (mkF m 31 #[.val (.ref a1), .val (.ref x0), .val (.ref x1), .val (.int x2), .val (.int x3), .val .null, .val .null] [])
  refine Go.of (fun _ hr => XS.aloadN X112.here hx rfl (hb hby d8_31) rfl rfl hr) ?_
  show Go p e s below _ _ _ _ T112 (mkF m 32 #[.val (.ref a1), .val (.ref x0), .val (.ref x1), .val (.int x2), .val (.int x3), .val .null, .val .null] [(.ref a1)])
  refine Go.of (fun _ hr => XS.aload X112.here hx rfl (hb hby d8_32) rfl rfl hr) ?_
  show Go p e s below _ _ _ _ T112 (mkF m 34 #[.val (.ref a1), .val (.ref x0), .val (.ref x1), .val (.int x2), .val (.int x3), .val .null, .val .null] [.null, (.ref a1)])
  have f116 := (((((F5.other W102 (Or.inr (slot_ne (Or.inr (hw _ (List.mem_of_getElem? (i := 61) rfl))) (Or.inr (hw _ (List.mem_of_getElem? (i := 51) rfl))) (by decide) (t := (.object "java/util/Optional")) (t' := (.object "java/lang/String")) (by decide) (by decide)))).other W103 (Or.inr (slot_ne (Or.inr (hw _ (List.mem_of_getElem? (i := 61) rfl))) (Or.inr (hw _ (List.mem_of_getElem? (i := 53) rfl))) (by decide) (t := (.object "java/util/Optional")) (t' := (.object "java/lang/String")) (by decide) (by decide)))).other W106 (Or.inr (slot_ne (Or.inr (hw _ (List.mem_of_getElem? (i := 61) rfl))) (Or.inr (hw _ (List.mem_of_getElem? (i := 55) rfl))) (by decide) (t := (.object "java/util/Optional")) (t' := .boolean) (by decide) (by decide)))).other W109 (Or.inr (slot_ne (Or.inr (hw _ (List.mem_of_getElem? (i := 61) rfl))) (Or.inr (hw _ (List.mem_of_getElem? (i := 57) rfl))) (by decide) (t := (.object "java/util/Optional")) (t' := .boolean) (by decide) (by decide)))).other W112 (Or.inr (slot_ne (Or.inr (hw _ (List.mem_of_getElem? (i := 61) rfl))) (Or.inr (hw _ (List.mem_of_getElem? (i := 59) rfl))) (by decide) (t := (.object "java/util/Optional")) (t' := (.object "java/util/Optional")) (by decide) (by decide))))
  have f117 := (f114.wr W112)
  obtain ⟨T115, h115, X115, e115, W115, st115⟩ := putF X112 hx hZ hown (host := "") (Or.inl (hw _ (List.mem_of_getElem? (i := 60) rfl))) Via.refl e112 f116 f117 (Or.inr ⟨(hw _ (List.mem_of_getElem? (i := 61) rfl)), rfl, hnm⟩) (hw _ (List.mem_of_getElem? (i := 36) rfl)) (ty := (.object "java/util/Optional")) (by decide) rfl rfl (g := (mkF m 34 #[.val (.ref a1), .val (.ref x0), .val (.ref x1), .val (.int x2), .val (.int x3), .val .null, .val .null] [.null, (.ref a1)])) rfl rfl (hb hby d8_34)
  have N115 := Fr.snoc X115 N112 fr_a1
  have J115 := J112.wr W115 hm_a1
  have B115 := B112.mono (Nat.le_of_eq W115.size.symm)
  have O115 := O112.wr W115 (Nat.le_trans hb0 fr_a1)
  have K115 := K112.wr W115 (Or.inl (List.mem_of_getElem? (i := 0) rfl))
  have Fw115 := f116.same W115
  refine Go.of (fun _ hr => st115 _ hr) ?_
  show Go p e s below _ _ _ _ T115 (mkF m 37 #[.val (.ref a1), .val (.ref x0), .val (.ref x1), .val (.int x2), .val (.int x3), .val .null, .val .null] [])
  have f118 := (((((Fw102.other W103 (Or.inr (slot_ne (Or.inr (hw _ (List.mem_of_getElem? (i := 51) rfl))) (Or.inr (hw _ (List.mem_of_getElem? (i := 53) rfl))) (by decide) (t := (.object "java/lang/String")) (t' := (.object "java/lang/String")) (by decide) (by decide)))).other W106 (Or.inr (slot_ne (Or.inr (hw _ (List.mem_of_getElem? (i := 51) rfl))) (Or.inr (hw _ (List.mem_of_getElem? (i := 55) rfl))) (by decide) (t := (.object "java/lang/String")) (t' := .boolean) (by decide) (by decide)))).other W109 (Or.inr (slot_ne (Or.inr (hw _ (List.mem_of_getElem? (i := 51) rfl))) (Or.inr (hw _ (List.mem_of_getElem? (i := 57) rfl))) (by decide) (t := (.object "java/lang/String")) (t' := .boolean) (by decide) (by decide)))).other W112 (Or.inr (slot_ne (Or.inr (hw _ (List.mem_of_getElem? (i := 51) rfl))) (Or.inr (hw _ (List.mem_of_getElem? (i := 59) rfl))) (by decide) (t := (.object "java/lang/String")) (t' := (.object "java/util/Optional")) (by decide) (by decide)))).other W115 (Or.inr (slot_ne (Or.inr (hw _ (List.mem_of_getElem? (i := 51) rfl))) (Or.inr (hw _ (List.mem_of_getElem? (i := 61) rfl))) (by decide) (t := (.object "java/lang/String")) (t' := (.object "java/util/Optional")) (by decide) (by decide))))
  have f119 := ((((Fw103.other W106 (Or.inr (slot_ne (Or.inr (hw _ (List.mem_of_getElem? (i := 53) rfl))) (Or.inr (hw _ (List.mem_of_getElem? (i := 55) rfl))) (by decide) (t := (.object "java/lang/String")) (t' := .boolean) (by decide) (by decide)))).other W109 (Or.inr (slot_ne (Or.inr (hw _ (List.mem_of_getElem? (i := 53) rfl))) (Or.inr (hw _ (List.mem_of_getElem? (i := 57) rfl))) (by decide) (t := (.object "java/lang/String")) (t' := .boolean) (by decide) (by decide)))).other W112 (Or.inr (slot_ne (Or.inr (hw _ (List.mem_of_getElem? (i := 53) rfl))) (Or.inr (hw _ (List.mem_of_getElem? (i := 59) rfl))) (by decide) (t := (.object "java/lang/String")) (t' := (.object "java/util/Optional")) (by decide) (by decide)))).other W115 (Or.inr (slot_ne (Or.inr (hw _ (List.mem_of_getElem? (i := 53) rfl))) (Or.inr (hw _ (List.mem_of_getElem? (i := 61) rfl))) (by decide) (t := (.object "java/lang/String")) (t' := (.object "java/util/Optional")) (by decide) (by decide))))
  have f120 := (((Fw106.other W109 (Or.inr (slot_ne (Or.inr (hw _ (List.mem_of_getElem? (i := 55) rfl))) (Or.inr (hw _ (List.mem_of_getElem? (i := 57) rfl))) (by decide) (t := .boolean) (t' := .boolean) (by decide) (by decide)))).other W112 (Or.inr (slot_ne (Or.inr (hw _ (List.mem_of_getElem? (i := 55) rfl))) (Or.inr (hw _ (List.mem_of_getElem? (i := 59) rfl))) (by decide) (t := .boolean) (t' := (.object "java/util/Optional")) (by decide) (by decide)))).other W115 (Or.inr (slot_ne (Or.inr (hw _ (List.mem_of_getElem? (i := 55) rfl))) (Or.inr (hw _ (List.mem_of_getElem? (i := 61) rfl))) (by decide) (t := .boolean) (t' := (.object "java/util/Optional")) (by decide) (by decide))))
  have f121 := ((Fw109.other W112 (Or.inr (slot_ne (Or.inr (hw _ (List.mem_of_getElem? (i := 57) rfl))) (Or.inr (hw _ (List.mem_of_getElem? (i := 59) rfl))) (by decide) (t := .boolean) (t' := (.object "java/util/Optional")) (by decide) (by decide)))).other W115 (Or.inr (slot_ne (Or.inr (hw _ (List.mem_of_getElem? (i := 57) rfl))) (Or.inr (hw _ (List.mem_of_getElem? (i := 61) rfl))) (by decide) (t := .boolean) (t' := (.object "java/util/Optional")) (by decide) (by decide))))
  have f122 := (Fw112.other W115 (Or.inr (slot_ne (Or.inr (hw _ (List.mem_of_getElem? (i := 59) rfl))) (Or.inr (hw _ (List.mem_of_getElem? (i := 61) rfl))) (by decide) (t := (.object "java/util/Optional")) (t' := (.object "java/util/Optional")) (by decide) (by decide))))
  exact Go.retV X115 hx hlk B115 J115 e115 hret (hb hby d8_37) (by decide) (by decide) (fun vm_ hw_ => ⟨rfl, N115, K115, f118, f119, f120, f121, f122, Fw115⟩)

theorem d10_0 : decode prog_19_method_2_code 0 = .ok (.aload_n 0, 1) := by decide +kernel
theorem d10_1 : decode prog_19_method_2_code 1 = .ok (.getfield 13, 3) := by decide +kernel
theorem d10_4 : decode prog_19_method_2_code 4 = .ok (.aload_n 0, 1) := by decide +kernel
theorem d10_5 : decode prog_19_method_2_code 5 = .ok (.getfield 16, 3) := by decide +kernel
theorem d10_8 : decode prog_19_method_2_code 8 = .ok (.ifCond .eq 8, 3) := by decide +kernel
theorem d10_16 : decode prog_19_method_2_code 16 = .ok (.ldc 32, 2) := by decide +kernel
theorem d10_18 : decode prog_19_method_2_code 18 = .ok (.invokevirtual 34, 3) := by decide +kernel
theorem pd6 : parseMethodDescriptor "(Ljava/lang/Object;)Z" = some ⟨[(.object "java/lang/Object")], some .boolean⟩ := by decide +kernel
theorem d10_21 : decode prog_19_method_2_code 21 = .ok (.ireturn, 1) := by decide +kernel
theorem d10_11 : decode prog_19_method_2_code 11 = .ok (.ldc 30, 2) := by decide +kernel
theorem d10_13 : decode prog_19_method_2_code 13 = .ok (.goto 5, 3) := by decide +kernel
set_option maxRecDepth 65536 in
set_option maxHeartbeats 40000000 in
theorem rm10 (l : Launch) (Z : State) (a0 : Array Value) (hw : ∀ d ∈ tables_1, d.before a0 Z = true) (ws : List Jvm.Cond) (a1 s1 t1 : Addr) (k1 : ClassId) (rp : Int32) (b1 : List Int32) (zc : Int32) (ms : List Addr) (h0 : Heap) (n0 : Nat) (O0 : Old Z n0 h0) (nb : Nat) (hb0 : n0 ≤ nb) (hnb : nb ≤ h0.size) (hm_s1 : s1 ∈ ms) (hn1 : b1.length < 2147483648) (Ft1 : Fld Z h0 a1 "com/example/mthd/mthd/model/ApiMessage$Field" "type" "Ljava/lang/String;" (.ref s1)) (Fr1 : Fld Z h0 a1 "com/example/mthd/mthd/model/ApiMessage$Field" "repeated" "Z" (.int rp)) (Es1 : Exa Z h0 s1 "java/lang/String") (Fv1 : Fld Z h0 s1 "java/lang/String" "value" "[B" (.ref t1)) (Fc1 : Fld Z h0 s1 "java/lang/String" "coder" "B" (.int 0)) (V1 : Arv Z h0 t1 k1 .byte (Int32.ofNat b1.length) (b1.map Value.int) (.int 0)) (S_C : Sta Z Z.heap "java/lang/String" "COMPACT_STRINGS" "Z" (.int zc)) (hzc : ¬ zc = 0) :
    Con l Z ms (⟨"com/example/mthd/mthd/model/ApiMessage$Field", "holdsStrings", "()Z"⟩ : MethodName) prog_19_method_2_code 1 (some .boolean) ws ({ frames := 2, cells := 2, slots := 64, locals := 30 } : Room) #[(.ref a1)] h0 (fun v vm h L => v = some (.int (resV rp b1)) ∧ Fr nb L ∧ Ext h0 h) := by
  refine Con.mk (plainFor_of_name pn5) ?_
  intro p e s m below meth c s₁ Cc X0 e0 eb J0 B0 M0
  obtain ⟨hx, hZ, hown, hby, hml, hnm, hret, hlk⟩ := id Cc
  have N0 := Fr.nil h0.size
  have K0 := Keep.refl h0 []
  show Go p e s below _ _ _ _ s₁ (mkF m 0 #[.val (.ref a1)] [])
  refine Go.of (fun _ hr => XS.aloadN X0.here hx rfl (hb hby d10_0) rfl rfl hr) ?_
  show Go p e s below _ _ _ _ s₁ (mkF m 1 #[.val (.ref a1)] [(.ref a1)])
  obtain ⟨T101, X101, e101, st101⟩ := getF X0 hx hZ hown (host := "") (Or.inl (hw _ (List.mem_of_getElem? (i := 52) rfl))) Via.refl e0 Ft1 (g := (mkF m 1 #[.val (.ref a1)] [(.ref a1)])) rfl rfl (hb hby d10_1)
  refine Go.of (fun _ hr => st101 _ hr) ?_
  show Go p e s below _ _ _ _ T101 (mkF m 4 #[.val (.ref a1)] [(.ref s1)])
  refine Go.of (fun _ hr => XS.aloadN X101.here hx rfl (hb hby d10_4) rfl rfl hr) ?_
  show Go p e s below _ _ _ _ T101 (mkF m 5 #[.val (.ref a1)] [(.ref a1), (.ref s1)])
  obtain ⟨T102, X102, e102, st102⟩ := getF X101 hx hZ hown (host := "") (Or.inl (hw _ (List.mem_of_getElem? (i := 54) rfl))) Via.refl e101 Fr1 (g := (mkF m 5 #[.val (.ref a1)] [(.ref a1), (.ref s1)])) rfl rfl (hb hby d10_5)
  refine Go.of (fun _ hr => st102 _ hr) ?_
  show Go p e s below _ _ _ _ T102 (mkF m 8 #[.val (.ref a1)] [(.int rp), (.ref s1)])
  by_cases hb8_103 : rp = (0 : Int32)
  · refine Go.of (fun _ hr => XS.ifYes X102.here hx rfl (pc0 := 8) (pc' := 16) rfl (hb hby d10_8) rfl ((if0 _ _).trans (teq hb8_103).1) (by decide) (by decide) hr) ?_
    show Go p e s below _ _ _ _ T102 (mkF m 16 #[.val (.ref a1)] [(.ref s1)])
    obtain ⟨o104, t104, k104, b104, T104, h104, e104, Cc104, X104, B104, J104, E104, Sy104, na104, nt104, lt104, st104⟩ := own_ldcV Cc B0 J0 X102 lit2_in lit2_one (hw _ (List.mem_of_getElem? (i := 78) rfl)) (own_wS Z a0 hw) lit2_lat lit2_len (by rw [eb]; exact N0) (by rw [eb]; exact O0.2) e102 (g := (mkF m 16 #[.val (.ref a1)] [(.ref s1)])) rfl (hb hby d10_16) (n := 24) lit2_sz (by decide) (by decide) (by decide)
    obtain ⟨hx, hZ, hown, hby, hml, hnm, hret, hlk⟩ := id Cc104
    have K104 := K0.ext E104
    have O104 := O0.ext E104
    have nx_o104_s1 : o104 ≠ s1 := fun q => na104 (by rw [q]; exact hm_s1)
    have nx_t104_s1 : t104 ≠ s1 := fun q => nt104 (by rw [q]; exact hm_s1)
    refine Go.of (fun _ hr => st104 _ hr) ?_
    show Go p e s below _ _ _ _ T104 (mkF m 18 #[.val (.ref a1)] [(.ref o104), (.ref s1)])
    have f106 := (Fv1.ext E104)
    have f107 := (Fc1.ext E104)
    have f108 := (V1.ext E104)
    have f109 := (Es1.ext E104)
    obtain ⟨_, b105, T105, h105, L105, e105, Cc105, X105, B105, J105, g105, hQ105, st105⟩ := own_callV Cc104 B104 J104 X104 (hw _ (List.mem_of_getElem? (i := 68) rfl)) (hw _ (List.mem_of_getElem? (i := 69) rfl)) (notFace_of_selects (args := #[]) (mvT hZ (hw _ (List.mem_of_getElem? (i := 71) rfl)))) (hw _ (List.mem_of_getElem? (i := 71) rfl)) (hw _ (List.mem_of_getElem? (i := 70) rfl)) (hw _ (List.mem_of_getElem? (i := 8) rfl)) (hw _ (List.mem_of_getElem? (i := 72) rfl)) (by decide) f109 (rm11 l Z a0 hw [] s1 o104 t1 t104 _ _ b1 (litI "string") zc _ h104 n0 O104 h0.size (own_ole O0) K104.1 hn1 (by decide +kernel) (Ne.symm nx_o104_s1) Sy104.1 f106 f107 Sy104.2.2.1 Sy104.2.1 f108 Sy104.2.2.2 S_C hzc) e104 (g := (mkF m 18 #[.val (.ref a1)] [(.ref o104), (.ref s1)])) rfl (by rw [hml]; rfl) (argsL := [(.ref o104)]) (rest := []) (lenOf pd6 rfl) rfl (W := 0) (by show 2 * 0 + _ ≤ _; exact Nat.le_of_eq rfl) (hb hby d10_18) (by decide) (by decide) (by decide) (by decide)
    obtain ⟨rfl, Nq105, hh105⟩ := hQ105
    have N105 := Fr.app N0 Nq105
    obtain ⟨hx, hZ, hown, hby, hml, hnm, hret, hlk⟩ := id Cc105
    rw [hh105] at e105 B105 J105
    refine Go.of st105 ?_
    show Go p e s below _ _ _ _ T105 (mkF m 21 #[.val (.ref a1)] [(.int (if b1 = (litI "string") then 1 else 0))])
    exact Go.retN X105 hx hlk B105 J105 e105 (t := .boolean) (z' := (resV rp b1)) hret (by simp) (hb hby d10_21) ((congrArg (nar .boolean) (show (if b1 = (litI "string") then 1 else 0) = resV rp b1 by simp only [resV, if_pos hb8_103])).trans (nar_z (resV_z ..))) (by decide) (by decide) (fun vm_ hw_ => ⟨rfl, (fun y hy => Nat.le_trans hnb (N105 y hy)), keep_ext K104⟩)
  · refine Go.of (fun _ hr => XS.ifNo X102.here hx rfl (hb hby d10_8) rfl ((if0 _ _).trans (feq hb8_103).1) hr) ?_
    show Go p e s below _ _ _ _ T102 (mkF m 11 #[.val (.ref a1)] [(.ref s1)])
    obtain ⟨o110, t110, k110, b110, T110, h110, e110, Cc110, X110, B110, J110, E110, Sy110, na110, nt110, lt110, st110⟩ := own_ldcV Cc B0 J0 X102 lit1_in lit1_one (hw _ (List.mem_of_getElem? (i := 67) rfl)) (own_wS Z a0 hw) lit1_lat lit1_len (by rw [eb]; exact N0) (by rw [eb]; exact O0.2) e102 (g := (mkF m 11 #[.val (.ref a1)] [(.ref s1)])) rfl (hb hby d10_11) (n := 60) lit1_sz (by decide) (by decide) (by decide)
    obtain ⟨hx, hZ, hown, hby, hml, hnm, hret, hlk⟩ := id Cc110
    have K110 := K0.ext E110
    have O110 := O0.ext E110
    have nx_o110_s1 : o110 ≠ s1 := fun q => na110 (by rw [q]; exact hm_s1)
    have nx_t110_s1 : t110 ≠ s1 := fun q => nt110 (by rw [q]; exact hm_s1)
    refine Go.of (fun _ hr => st110 _ hr) ?_
    show Go p e s below _ _ _ _ T110 (mkF m 13 #[.val (.ref a1)] [(.ref o110), (.ref s1)])
    refine Go.of (fun _ hr => XS.goto X110.here hx rfl (pc0 := 13) (pc' := 18) rfl (hb hby d10_13) (by decide) (by decide) hr) ?_
    show Go p e s below _ _ _ _ T110 (mkF m 18 #[.val (.ref a1)] [(.ref o110), (.ref s1)])
    have f112 := (Fv1.ext E110)
    have f113 := (Fc1.ext E110)
    have f114 := (V1.ext E110)
    have f115 := (Es1.ext E110)
    obtain ⟨_, b111, T111, h111, L111, e111, Cc111, X111, B111, J111, g111, hQ111, st111⟩ := own_callV Cc110 B110 J110 X110 (hw _ (List.mem_of_getElem? (i := 68) rfl)) (hw _ (List.mem_of_getElem? (i := 69) rfl)) (notFace_of_selects (args := #[]) (mvT hZ (hw _ (List.mem_of_getElem? (i := 71) rfl)))) (hw _ (List.mem_of_getElem? (i := 71) rfl)) (hw _ (List.mem_of_getElem? (i := 70) rfl)) (hw _ (List.mem_of_getElem? (i := 8) rfl)) (hw _ (List.mem_of_getElem? (i := 72) rfl)) (by decide) f115 (rm11 l Z a0 hw [] s1 o110 t1 t110 _ _ b1 (litI "repeated string") zc _ h110 n0 O110 h0.size (own_ole O0) K110.1 hn1 (by decide +kernel) (Ne.symm nx_o110_s1) Sy110.1 f112 f113 Sy110.2.2.1 Sy110.2.1 f114 Sy110.2.2.2 S_C hzc) e110 (g := (mkF m 18 #[.val (.ref a1)] [(.ref o110), (.ref s1)])) rfl (by rw [hml]; rfl) (argsL := [(.ref o110)]) (rest := []) (lenOf pd6 rfl) rfl (W := 0) (by show 2 * 0 + _ ≤ _; exact Nat.le_of_eq rfl) (hb hby d10_18) (by decide) (by decide) (by decide) (by decide)
    obtain ⟨rfl, Nq111, hh111⟩ := hQ111
    have N111 := Fr.app N0 Nq111
    obtain ⟨hx, hZ, hown, hby, hml, hnm, hret, hlk⟩ := id Cc111
    rw [hh111] at e111 B111 J111
    refine Go.of st111 ?_
    show Go p e s below _ _ _ _ T111 (mkF m 21 #[.val (.ref a1)] [(.int (if b1 = (litI "repeated string") then 1 else 0))])
    exact Go.retN X111 hx hlk B111 J111 e111 (t := .boolean) (z' := (resV rp b1)) hret (by simp) (hb hby d10_21) ((congrArg (nar .boolean) (show (if b1 = (litI "repeated string") then 1 else 0) = resV rp b1 by simp only [resV, if_neg hb8_103])).trans (nar_z (resV_z ..))) (by decide) (by decide) (fun vm_ hw_ => ⟨rfl, (fun y hy => Nat.le_trans hnb (N111 y hy)), keep_ext K110⟩)

theorem fin_R6 {rp q c : Int32} (hz : rp = 1 ∨ rp = 0) (hc : rng c) (hq : ¬ q < 0) : resV rp ((outL bR 15 q c).map lo8) = if ((1 : Int32) = rp ∧ (0 : Int32) = 0 ∧ (¬ q < Int32.ofNat bR.length ∨ c = bR.getD q.toNatClampNeg 0)) then 1 else 0 := by
  rw [fin_R hz hc hq]; simp only [true_and]; rfl
theorem fin_S6 {rp q c : Int32} (hz : rp = 1 ∨ rp = 0) (hc : rng c) (hq : ¬ q < 0) : resV rp ((outL bS 6 q c).map lo8) = if ((0 : Int32) = rp ∧ (0 : Int32) = 0 ∧ (¬ q < Int32.ofNat bS.length ∨ c = bS.getD q.toNatClampNeg 0)) then 1 else 0 := by
  rw [fin_S hz hc hq]; simp only [true_and]; rfl
theorem fin_N6 {x br rp dl q c : Int32} {b : List Int32} (h : x = 0) (hd : ¬ dl = 0) : x = if (br = rp ∧ dl = 0 ∧ (¬ q < Int32.ofNat b.length ∨ c = b.getD q.toNatClampNeg 0)) then 1 else 0 := by
  rw [if_neg (fun z => hd z.2.1)]; exact h

abbrev LB0 (p1 : Int32) (p2 : Int32) (p3 : Int32) (p4 : Int32) (rp : Int32) (mp : Int32) (br : Int32) (dl : Int32) (q : Int32) (cc : Int32) (ab : Addr) (ln : Int32) (ao : Addr) (s1 : Addr) (f1 : Addr) : Array Slot := #[.val (.int p1), .val (.int p2), .val (.int p3), .val (.int p4), .val (.int rp), .val (.int mp), .val (.int br), .val (.int dl), .val (.int q), .val (.int cc), .val (.ref ab), .val (.int ln), .val (.ref ao), .val (.ref s1), .val (.ref f1), .unset, .unset]
abbrev LB1 (p1 : Int32) (p2 : Int32) (p3 : Int32) (p4 : Int32) (rp : Int32) (mp : Int32) (br : Int32) (dl : Int32) (q : Int32) (cc : Int32) (ab : Addr) (ln : Int32) (ao : Addr) (s1 : Addr) (f1 : Addr) (un : Int32) : Array Slot := #[.val (.int p1), .val (.int p2), .val (.int p3), .val (.int p4), .val (.int rp), .val (.int mp), .val (.int br), .val (.int dl), .val (.int q), .val (.int cc), .val (.ref ab), .val (.int ln), .val (.ref ao), .val (.ref s1), .val (.ref f1), .val (.int un), .unset]
abbrev LB2 (p1 : Int32) (p2 : Int32) (p3 : Int32) (p4 : Int32) (rp : Int32) (mp : Int32) (br : Int32) (dl : Int32) (q : Int32) (cc : Int32) (ab : Addr) (ln : Int32) (ao : Addr) (s1 : Addr) (f1 : Addr) (un : Int32) (ex : Int32) : Array Slot := #[.val (.int p1), .val (.int p2), .val (.int p3), .val (.int p4), .val (.int rp), .val (.int mp), .val (.int br), .val (.int dl), .val (.int q), .val (.int cc), .val (.ref ab), .val (.int ln), .val (.ref ao), .val (.ref s1), .val (.ref f1), .val (.int un), .val (.int ex)]
theorem pd10 : parseMethodDescriptor "()Z" = some ⟨[], some .boolean⟩ := by decide +kernel
set_option maxRecDepth 65536 in
set_option maxHeartbeats 40000000 in
theorem law_tail (l : Launch) (Z : State) (a0 : Array Value) (hw : ∀ d ∈ tables_1, d.before a0 Z = true) {p : Program} {e : Env} {s b T0 : State} {m : MethodId} {args : Array Value} {below : List Frame} {meth : Method} {c : Code} {locs : List Loc} {cl_ sl_ : Nat} (hcl : cl_ ≤ 12) (hsl : sl_ ≤ 400) {ms : List Addr} (p1 p2 p3 p4 rp mp br dl q cc : Int32) (ab : Addr) (ln : Int32) (ao s1 f1 v1 : Addr) (kb k1 : ClassId) (bL cs : List Int32) (zc : Int32) (h0 : Heap) (n0 : Nat) (O0 : Old Z n0 h0) (nb : Nat) (hb0 : n0 ≤ nb) (hnb : nb ≤ h0.size) (Ef1 : Exa Z h0 f1 "com/example/mthd/mthd/model/ApiMessage$Field") (Ft1 : Fld Z h0 f1 "com/example/mthd/mthd/model/ApiMessage$Field" "type" "Ljava/lang/String;" (.ref s1)) (Fr1 : Fld Z h0 f1 "com/example/mthd/mthd/model/ApiMessage$Field" "repeated" "Z" (.int rp)) (Es1 : Exa Z h0 s1 "java/lang/String") (Fv1 : Fld Z h0 s1 "java/lang/String" "value" "[B" (.ref v1)) (Fc1 : Fld Z h0 s1 "java/lang/String" "coder" "B" (.int 0)) (V1 : Arv Z h0 v1 k1 .byte (Int32.ofNat (cs.map lo8).length) ((cs.map lo8).map Value.int) (.int 0)) (Vb : Arv Z h0 ab kb .char (Int32.ofNat bL.length) (bL.map Value.int) (.int 0)) (hq_q : ¬ q < 0) (hcn : cs.length ≤ 16) (hfin : resV rp (cs.map lo8) = if (br = rp ∧ dl = 0 ∧ (¬ q < Int32.ofNat bL.length ∨ cc = bL.getD q.toNatClampNeg 0)) then 1 else 0) (S_C : Sta Z Z.heap "java/lang/String" "COMPACT_STRINGS" "Z" (.int zc)) (hzc : ¬ zc = 0) (Cc : Cx Z p b m meth c "com/example/mthd/mthd/model/FieldHoldsStringsPinLaw" code 17 "law" ret) (X0 : Stand p l e room_1 b m args below meth c T0 locs cl_ sl_) (e0 : T0.heap = h0) (N0 : Fr nb locs) (J0 : Hd Z (s1 :: ms) b.vm h0) (B0 : Bs s b h0) :
    Go p e s below room_1.cells room_1.slots (Hd Z ms) (fun v vm h L => v = some (.int 1) ∧ Fr nb L) T0 (mkF m 590 (LB0 p1 p2 p3 p4 rp mp br dl q cc ab ln ao s1 f1) []) := by
  obtain ⟨hx, hZ, hown, hby, hml, hnm, hret, hlk⟩ := id Cc
  have K0 := Keep.refl h0 []
  show Go p e s below _ _ _ _ T0 (mkF m 590 (LB0 p1 p2 p3 p4 rp mp br dl q cc ab ln ao s1 f1) [])
  refine Go.of (fun _ hr => XS.iload X0.here hx rfl (hb hby at_590) rfl  hr) ?_
  show Go p e s below _ _ _ _ T0 (mkF m 592 (LB0 p1 p2 p3 p4 rp mp br dl q cc ab ln ao s1 f1) [(.int q)])
  refine Go.of (fun _ hr => XS.aload X0.here hx rfl (hb hby at_592) rfl rfl hr) ?_
  show Go p e s below _ _ _ _ T0 (mkF m 594 (LB0 p1 p2 p3 p4 rp mp br dl q cc ab ln ao s1 f1) [(.ref ab), (.int q)])
  obtain ⟨cl101, Ar101, q101, S101, N101_, H101, G101⟩ := id Vb
  refine Go.of (fun _ hr => X0.arraylength hx (by rw [e0]; exact Ar101.1) (State.isArrayOf_alike hZ.alike Ar101.2.1) (g := (mkF m 594 (LB0 p1 p2 p3 p4 rp mp br dl q cc ab ln ao s1 f1) [(.ref ab), (.int q)])) rfl rfl (hb hby at_594) _ hr) ?_
  rw [len_of S101 N101_]
  show Go p e s below _ _ _ _ T0 (mkF m 595 (LB0 p1 p2 p3 p4 rp mp br dl q cc ab ln ao s1 f1) [(.int (Int32.ofNat bL.length)), (.int q)])
  refine Go.join (α := Int32) (fun x_ => ((x_ = 1 ∧ (¬ q < Int32.ofNat bL.length ∨ cc = bL.getD q.toNatClampNeg 0)) ∨ (x_ = 0 ∧ ¬ (¬ q < Int32.ofNat bL.length ∨ cc = bL.getD q.toNatClampNeg 0)))) (fun x_ => (mkF m 613 (LB0 p1 p2 p3 p4 rp mp br dl q cc ab ln ao s1 f1) [(.int x_)])) ?_ ?_
  · rintro un hj102
    replace hj102 : ((un = 1 ∧ (¬ q < Int32.ofNat bL.length ∨ cc = bL.getD q.toNatClampNeg 0)) ∨ (un = 0 ∧ ¬ (¬ q < Int32.ofNat bL.length ∨ cc = bL.getD q.toNatClampNeg 0))) := hj102
    show Go p e s below _ _ _ _ T0 (mkF m 613 (LB0 p1 p2 p3 p4 rp mp br dl q cc ab ln ao s1 f1) [(.int un)])
    refine Go.of (fun _ hr => XS.istore X0.here hx rfl (hb hby at_613) rfl (l' := (LB1 p1 p2 p3 p4 rp mp br dl q cc ab ln ao s1 f1 un)) rfl hr) ?_
    show Go p e s below _ _ _ _ T0 (mkF m 615 (LB1 p1 p2 p3 p4 rp mp br dl q cc ab ln ao s1 f1 un) [])
    refine Go.of (fun _ hr => XS.iload X0.here hx rfl (hb hby at_615) rfl  hr) ?_
    show Go p e s below _ _ _ _ T0 (mkF m 617 (LB1 p1 p2 p3 p4 rp mp br dl q cc ab ln ao s1 f1 un) [(.int br)])
    refine Go.of (fun _ hr => XS.iload X0.here hx rfl (hb hby at_617) rfl  hr) ?_
    show Go p e s below _ _ _ _ T0 (mkF m 619 (LB1 p1 p2 p3 p4 rp mp br dl q cc ab ln ao s1 f1 un) [(.int rp), (.int br)])
    refine Go.join (α := Int32) (fun x_ => x_ = resV rp (cs.map lo8)) (fun x_ => (mkF m 637 (LB1 p1 p2 p3 p4 rp mp br dl q cc ab ln ao s1 f1 un) [(.int x_)])) ?_ ?_
    · rintro ex hj103
      replace hj103 : ex = resV rp (cs.map lo8) := hj103
      show Go p e s below _ _ _ _ T0 (mkF m 637 (LB1 p1 p2 p3 p4 rp mp br dl q cc ab ln ao s1 f1 un) [(.int ex)])
      refine Go.of (fun _ hr => XS.istore X0.here hx rfl (hb hby at_637) rfl (l' := (LB2 p1 p2 p3 p4 rp mp br dl q cc ab ln ao s1 f1 un ex)) rfl hr) ?_
      show Go p e s below _ _ _ _ T0 (mkF m 639 (LB2 p1 p2 p3 p4 rp mp br dl q cc ab ln ao s1 f1 un ex) [])
      refine Go.of (fun _ hr => XS.aload X0.here hx rfl (hb hby at_639) rfl rfl hr) ?_
      show Go p e s below _ _ _ _ T0 (mkF m 641 (LB2 p1 p2 p3 p4 rp mp br dl q cc ab ln ao s1 f1 un ex) [(.ref f1)])
      obtain ⟨_, b104, T104, h104, L104, e104, Cc104, X104, B104, J104, g104, hQ104, st104⟩ := own_callV Cc B0 J0 X0 (hw _ (List.mem_of_getElem? (i := 62) rfl)) (hw _ (List.mem_of_getElem? (i := 63) rfl)) (notFace_of_selects (args := #[]) (mvT hZ (hw _ (List.mem_of_getElem? (i := 65) rfl)))) (hw _ (List.mem_of_getElem? (i := 65) rfl)) (hw _ (List.mem_of_getElem? (i := 64) rfl)) (hw _ (List.mem_of_getElem? (i := 37) rfl)) (hw _ (List.mem_of_getElem? (i := 66) rfl)) (by decide) Ef1 (rm10 l Z a0 hw [] f1 s1 v1 _ rp (cs.map lo8) zc _ h0 n0 O0 h0.size (own_ole O0) K0.1 (List.mem_cons_self ..) (by rw [List.length_map]; omega) Ft1 Fr1 Es1 Fv1 Fc1 V1 S_C hzc) e0 (g := (mkF m 641 (LB2 p1 p2 p3 p4 rp mp br dl q cc ab ln ao s1 f1 un ex) [(.ref f1)])) rfl (by rw [hml]; rfl) (argsL := []) (rest := []) (lenOf pd10 rfl) rfl (W := 0) (by show 2 * 0 + _ ≤ _; exact Nat.le_of_eq rfl) (hb hby at_641) (by decide) (by decide) (Nat.le_trans (Nat.add_le_add_right hcl _) (by decide)) (Nat.le_trans (Nat.add_le_add_right hsl _) (by decide))
      obtain ⟨rfl, Nq104, Eq104⟩ := hQ104
      have N104 := Fr.app N0 (show Fr nb _ from fun y hy => Nat.le_trans hnb (Nq104 y hy))
      obtain ⟨hx, hZ, hown, hby, hml, hnm, hret, hlk⟩ := id Cc104
      have K104 := K0.ext Eq104
      have O104 := O0.ext Eq104
      refine Go.of st104 ?_
      show Go p e s below _ _ _ _ T104 (mkF m 644 (LB2 p1 p2 p3 p4 rp mp br dl q cc ab ln ao s1 f1 un ex) [(.int (resV rp (cs.map lo8)))])
      refine Go.of (fun _ hr => XS.iload X104.here hx rfl (hb hby at_644) rfl  hr) ?_
      show Go p e s below _ _ _ _ T104 (mkF m 646 (LB2 p1 p2 p3 p4 rp mp br dl q cc ab ln ao s1 f1 un ex) [(.int ex), (.int (resV rp (cs.map lo8)))])
      refine Go.of (fun _ hr => XS.icmpNo X104.here hx rfl (hb hby at_646) rfl (teq hj103.symm).2 hr) ?_
      show Go p e s below _ _ _ _ T104 (mkF m 649 (LB2 p1 p2 p3 p4 rp mp br dl q cc ab ln ao s1 f1 un ex) [])
      refine Go.of (fun _ hr => XS.iconst X104.here hx rfl (hb hby at_649) hr) ?_
      show Go p e s below _ _ _ _ T104 (mkF m 650 (LB2 p1 p2 p3 p4 rp mp br dl q cc ab ln ao s1 f1 un ex) [(.int (1 : Int32))])
      refine Go.of (fun _ hr => XS.goto X104.here hx rfl (pc0 := 650) (pc' := 654) rfl (hb hby at_650) (by decide) (by decide) hr) ?_
      show Go p e s below _ _ _ _ T104 (mkF m 654 (LB2 p1 p2 p3 p4 rp mp br dl q cc ab ln ao s1 f1 un ex) [(.int (1 : Int32))])
      exact Go.retN X104 hx hlk B104 (J104.sub fun x hx => (List.mem_cons_of_mem _ hx)) e104 (t := .boolean) (z' := (1 : Int32)) hret (by simp) (hb hby at_654) rfl (Nat.le_trans (Nat.add_le_add_right hcl _) (by decide)) (Nat.le_trans (Nat.add_le_add_right hsl _) (by decide)) (fun vm_ hw_ => ⟨rfl, N104⟩)
    intro jn103
    show Go p e s below _ _ _ _ T0 (mkF m 619 (LB1 p1 p2 p3 p4 rp mp br dl q cc ab ln ao s1 f1 un) [(.int rp), (.int br)])
    by_cases hb619_105 : br = rp
    · refine Go.of (fun _ hr => XS.icmpNo X0.here hx rfl (hb hby at_619) rfl (teq hb619_105).2 hr) ?_
      show Go p e s below _ _ _ _ T0 (mkF m 622 (LB1 p1 p2 p3 p4 rp mp br dl q cc ab ln ao s1 f1 un) [])
      refine Go.of (fun _ hr => XS.iload X0.here hx rfl (hb hby at_622) rfl  hr) ?_
      show Go p e s below _ _ _ _ T0 (mkF m 624 (LB1 p1 p2 p3 p4 rp mp br dl q cc ab ln ao s1 f1 un) [(.int dl)])
      by_cases hb624_106 : dl = (0 : Int32)
      · refine Go.of (fun _ hr => XS.ifNo X0.here hx rfl (hb hby at_624) rfl ((if0 _ _).trans (teq hb624_106).2) hr) ?_
        show Go p e s below _ _ _ _ T0 (mkF m 627 (LB1 p1 p2 p3 p4 rp mp br dl q cc ab ln ao s1 f1 un) [])
        refine Go.of (fun _ hr => XS.iload X0.here hx rfl (hb hby at_627) rfl  hr) ?_
        show Go p e s below _ _ _ _ T0 (mkF m 629 (LB1 p1 p2 p3 p4 rp mp br dl q cc ab ln ao s1 f1 un) [(.int un)])
        by_cases hb629_107 : un = (0 : Int32)
        · refine Go.of (fun _ hr => XS.ifYes X0.here hx rfl (pc0 := 629) (pc' := 636) rfl (hb hby at_629) rfl ((if0 _ _).trans (teq hb629_107).1) (by decide) (by decide) hr) ?_
          show Go p e s below _ _ _ _ T0 (mkF m 636 (LB1 p1 p2 p3 p4 rp mp br dl q cc ab ln ao s1 f1 un) [])
          refine Go.of (fun _ hr => XS.iconst X0.here hx rfl (hb hby at_636) hr) ?_
          show Go p e s below _ _ _ _ T0 (mkF m 637 (LB1 p1 p2 p3 p4 rp mp br dl q cc ab ln ao s1 f1 un) [(.int (0 : Int32))])
          exact jn103 (0 : Int32) (by
              rcases hj102 with ⟨hu1, hu⟩ | ⟨hu1, hu⟩
              · exact absurd (hu1.symm.trans hb629_107) (by decide)
              · rw [hfin, if_neg (fun z => hu z.2.2)])
        · refine Go.of (fun _ hr => XS.ifNo X0.here hx rfl (hb hby at_629) rfl ((if0 _ _).trans (feq hb629_107).1) hr) ?_
          show Go p e s below _ _ _ _ T0 (mkF m 632 (LB1 p1 p2 p3 p4 rp mp br dl q cc ab ln ao s1 f1 un) [])
          refine Go.of (fun _ hr => XS.iconst X0.here hx rfl (hb hby at_632) hr) ?_
          show Go p e s below _ _ _ _ T0 (mkF m 633 (LB1 p1 p2 p3 p4 rp mp br dl q cc ab ln ao s1 f1 un) [(.int (1 : Int32))])
          refine Go.of (fun _ hr => XS.goto X0.here hx rfl (pc0 := 633) (pc' := 637) rfl (hb hby at_633) (by decide) (by decide) hr) ?_
          show Go p e s below _ _ _ _ T0 (mkF m 637 (LB1 p1 p2 p3 p4 rp mp br dl q cc ab ln ao s1 f1 un) [(.int (1 : Int32))])
          exact jn103 (1 : Int32) (by
              rcases hj102 with ⟨hu1, hu⟩ | ⟨hu1, hu⟩
              · rw [hfin, if_pos ⟨hb619_105, hb624_106, hu⟩]
              · exact absurd hu1 hb629_107)
      · refine Go.of (fun _ hr => XS.ifYes X0.here hx rfl (pc0 := 624) (pc' := 636) rfl (hb hby at_624) rfl ((if0 _ _).trans (feq hb624_106).2) (by decide) (by decide) hr) ?_
        show Go p e s below _ _ _ _ T0 (mkF m 636 (LB1 p1 p2 p3 p4 rp mp br dl q cc ab ln ao s1 f1 un) [])
        refine Go.of (fun _ hr => XS.iconst X0.here hx rfl (hb hby at_636) hr) ?_
        show Go p e s below _ _ _ _ T0 (mkF m 637 (LB1 p1 p2 p3 p4 rp mp br dl q cc ab ln ao s1 f1 un) [(.int (0 : Int32))])
        exact jn103 (0 : Int32) (by rw [hfin, if_neg (fun z => hb624_106 z.2.1)])
    · refine Go.of (fun _ hr => XS.icmpYes X0.here hx rfl (pc0 := 619) (pc' := 636) rfl (hb hby at_619) rfl (feq hb619_105).2 (by decide) (by decide) hr) ?_
      show Go p e s below _ _ _ _ T0 (mkF m 636 (LB1 p1 p2 p3 p4 rp mp br dl q cc ab ln ao s1 f1 un) [])
      refine Go.of (fun _ hr => XS.iconst X0.here hx rfl (hb hby at_636) hr) ?_
      show Go p e s below _ _ _ _ T0 (mkF m 637 (LB1 p1 p2 p3 p4 rp mp br dl q cc ab ln ao s1 f1 un) [(.int (0 : Int32))])
      exact jn103 (0 : Int32) (by rw [hfin, if_neg (fun z => hb619_105 z.1)])
  intro jn102
  show Go p e s below _ _ _ _ T0 (mkF m 595 (LB0 p1 p2 p3 p4 rp mp br dl q cc ab ln ao s1 f1) [(.int (Int32.ofNat bL.length)), (.int q)])
  by_cases hb595_108 : q < (Int32.ofNat bL.length)
  · refine Go.of (fun _ hr => XS.icmpNo X0.here hx rfl (hb hby at_595) rfl (tlt hb595_108).2.1 hr) ?_
    show Go p e s below _ _ _ _ T0 (mkF m 598 (LB0 p1 p2 p3 p4 rp mp br dl q cc ab ln ao s1 f1) [])
    refine Go.of (fun _ hr => XS.iload X0.here hx rfl (hb hby at_598) rfl  hr) ?_
    show Go p e s below _ _ _ _ T0 (mkF m 600 (LB0 p1 p2 p3 p4 rp mp br dl q cc ab ln ao s1 f1) [(.int cc)])
    refine Go.of (fun _ hr => XS.aload X0.here hx rfl (hb hby at_600) rfl rfl hr) ?_
    show Go p e s below _ _ _ _ T0 (mkF m 602 (LB0 p1 p2 p3 p4 rp mp br dl q cc ab ln ao s1 f1) [(.ref ab), (.int cc)])
    refine Go.of (fun _ hr => XS.iload X0.here hx rfl (hb hby at_602) rfl  hr) ?_
    show Go p e s below _ _ _ _ T0 (mkF m 604 (LB0 p1 p2 p3 p4 rp mp br dl q cc ab ln ao s1 f1) [(.int q), (.ref ab), (.int cc)])
    obtain ⟨cl109, Ar109, q109, S109, N109_, H109, G109⟩ := id Vb
    have hin109 : ¬ (q < 0 ∨ cl109.slots.size ≤ (q).toNatClampNeg) := inb_of S109 ⟨hq_q, hb595_108⟩
    refine Go.of (fun _ hr => X0.caload hx (j := q) (v := (.int (bL.getD q.toNatClampNeg 0))) (by rw [e0]; exact Ar109.1) (State.isArrayOf_alike hZ.alike Ar109.2.1) Ar109.2.2 hin109 (H109.at hin109 (getD_int bL _)) (g := (mkF m 604 (LB0 p1 p2 p3 p4 rp mp br dl q cc ab ln ao s1 f1) [(.int q), (.ref ab), (.int cc)])) rfl rfl (hb hby at_604) _ hr) ?_
    show Go p e s below _ _ _ _ T0 (mkF m 605 (LB0 p1 p2 p3 p4 rp mp br dl q cc ab ln ao s1 f1) [(.int (bL.getD q.toNatClampNeg 0)), (.int cc)])
    by_cases hb605_110 : cc = (bL.getD q.toNatClampNeg 0)
    · refine Go.of (fun _ hr => XS.icmpNo X0.here hx rfl (hb hby at_605) rfl (teq hb605_110).2 hr) ?_
      show Go p e s below _ _ _ _ T0 (mkF m 608 (LB0 p1 p2 p3 p4 rp mp br dl q cc ab ln ao s1 f1) [])
      refine Go.of (fun _ hr => XS.iconst X0.here hx rfl (hb hby at_608) hr) ?_
      show Go p e s below _ _ _ _ T0 (mkF m 609 (LB0 p1 p2 p3 p4 rp mp br dl q cc ab ln ao s1 f1) [(.int (1 : Int32))])
      refine Go.of (fun _ hr => XS.goto X0.here hx rfl (pc0 := 609) (pc' := 613) rfl (hb hby at_609) (by decide) (by decide) hr) ?_
      show Go p e s below _ _ _ _ T0 (mkF m 613 (LB0 p1 p2 p3 p4 rp mp br dl q cc ab ln ao s1 f1) [(.int (1 : Int32))])
      exact jn102 (1 : Int32) (Or.inl ⟨rfl, Or.inr hb605_110⟩)
    · refine Go.of (fun _ hr => XS.icmpYes X0.here hx rfl (pc0 := 605) (pc' := 612) rfl (hb hby at_605) rfl (feq hb605_110).2 (by decide) (by decide) hr) ?_
      show Go p e s below _ _ _ _ T0 (mkF m 612 (LB0 p1 p2 p3 p4 rp mp br dl q cc ab ln ao s1 f1) [])
      refine Go.of (fun _ hr => XS.iconst X0.here hx rfl (hb hby at_612) hr) ?_
      show Go p e s below _ _ _ _ T0 (mkF m 613 (LB0 p1 p2 p3 p4 rp mp br dl q cc ab ln ao s1 f1) [(.int (0 : Int32))])
      exact jn102 (0 : Int32) (Or.inr ⟨rfl, fun z => z.elim (fun y => y hb595_108) hb605_110⟩)
  · refine Go.of (fun _ hr => XS.icmpYes X0.here hx rfl (pc0 := 595) (pc' := 608) rfl (hb hby at_595) rfl (flt hb595_108).2.1 (by decide) (by decide) hr) ?_
    show Go p e s below _ _ _ _ T0 (mkF m 608 (LB0 p1 p2 p3 p4 rp mp br dl q cc ab ln ao s1 f1) [])
    refine Go.of (fun _ hr => XS.iconst X0.here hx rfl (hb hby at_608) hr) ?_
    show Go p e s below _ _ _ _ T0 (mkF m 609 (LB0 p1 p2 p3 p4 rp mp br dl q cc ab ln ao s1 f1) [(.int (1 : Int32))])
    refine Go.of (fun _ hr => XS.goto X0.here hx rfl (pc0 := 609) (pc' := 613) rfl (hb hby at_609) (by decide) (by decide) hr) ?_
    show Go p e s below _ _ _ _ T0 (mkF m 613 (LB0 p1 p2 p3 p4 rp mp br dl q cc ab ln ao s1 f1) [(.int (1 : Int32))])
    exact jn102 (1 : Int32) (Or.inl ⟨rfl, Or.inl hb595_108⟩)

abbrev LA0 (p1 : Int32) (p2 : Int32) (p3 : Int32) (p4 : Int32) : Array Slot := #[.val (.int p1), .val (.int p2), .val (.int p3), .val (.int p4), .unset, .unset, .unset, .unset, .unset, .unset, .unset, .unset, .unset, .unset, .unset, .unset, .unset]
abbrev LA1 (p1 : Int32) (p2 : Int32) (p3 : Int32) (p4 : Int32) (rp : Int32) : Array Slot := #[.val (.int p1), .val (.int p2), .val (.int p3), .val (.int p4), .val (.int rp), .unset, .unset, .unset, .unset, .unset, .unset, .unset, .unset, .unset, .unset, .unset, .unset]
abbrev LA2 (p1 : Int32) (p2 : Int32) (p3 : Int32) (p4 : Int32) (rp : Int32) (mp : Int32) : Array Slot := #[.val (.int p1), .val (.int p2), .val (.int p3), .val (.int p4), .val (.int rp), .val (.int mp), .unset, .unset, .unset, .unset, .unset, .unset, .unset, .unset, .unset, .unset, .unset]
abbrev LA3 (p1 : Int32) (p2 : Int32) (p3 : Int32) (p4 : Int32) (rp : Int32) (mp : Int32) : Array Slot := #[.val (.int p1), .val (.int p2), .val (.int p3), .val (.int p4), .val (.int rp), .val (.int mp), .val (.int (0 : Int32)), .unset, .unset, .unset, .unset, .unset, .unset, .unset, .unset, .unset, .unset]
abbrev LA4 (p1 : Int32) (p2 : Int32) (p3 : Int32) (p4 : Int32) (rp : Int32) (mp : Int32) : Array Slot := #[.val (.int p1), .val (.int p2), .val (.int p3), .val (.int p4), .val (.int rp), .val (.int mp), .val (.int (0 : Int32)), .val (.int (-1 : Int32)), .unset, .unset, .unset, .unset, .unset, .unset, .unset, .unset, .unset]
abbrev LA5 (p1 : Int32) (p2 : Int32) (p3 : Int32) (p4 : Int32) (rp : Int32) (mp : Int32) (q : Int32) : Array Slot := #[.val (.int p1), .val (.int p2), .val (.int p3), .val (.int p4), .val (.int rp), .val (.int mp), .val (.int (0 : Int32)), .val (.int (-1 : Int32)), .val (.int q), .unset, .unset, .unset, .unset, .unset, .unset, .unset, .unset]
abbrev LA6 (p1 : Int32) (p2 : Int32) (p3 : Int32) (p4 : Int32) (rp : Int32) (mp : Int32) (q : Int32) (cc : Int32) : Array Slot := #[.val (.int p1), .val (.int p2), .val (.int p3), .val (.int p4), .val (.int rp), .val (.int mp), .val (.int (0 : Int32)), .val (.int (-1 : Int32)), .val (.int q), .val (.int cc), .unset, .unset, .unset, .unset, .unset, .unset, .unset]
abbrev LA7 (p1 : Int32) (p2 : Int32) (p3 : Int32) (p4 : Int32) (rp : Int32) (mp : Int32) (q : Int32) (cc : Int32) (o104 : Addr) : Array Slot := #[.val (.int p1), .val (.int p2), .val (.int p3), .val (.int p4), .val (.int rp), .val (.int mp), .val (.int (0 : Int32)), .val (.int (-1 : Int32)), .val (.int q), .val (.int cc), .val (.ref o104), .unset, .unset, .unset, .unset, .unset, .unset]
abbrev LA8 (p1 : Int32) (p2 : Int32) (p3 : Int32) (p4 : Int32) (rp : Int32) (mp : Int32) (q : Int32) (cc : Int32) (o104 : Addr) : Array Slot := #[.val (.int p1), .val (.int p2), .val (.int p3), .val (.int p4), .val (.int rp), .val (.int mp), .val (.int (0 : Int32)), .val (.int (-1 : Int32)), .val (.int q), .val (.int cc), .val (.ref o104), .val (.int (5 : Int32)), .unset, .unset, .unset, .unset, .unset]
abbrev LA9 (p1 : Int32) (p2 : Int32) (p3 : Int32) (p4 : Int32) (rp : Int32) (mp : Int32) (q : Int32) (cc : Int32) (o104 : Addr) (o112 : Addr) : Array Slot := #[.val (.int p1), .val (.int p2), .val (.int p3), .val (.int p4), .val (.int rp), .val (.int mp), .val (.int (0 : Int32)), .val (.int (-1 : Int32)), .val (.int q), .val (.int cc), .val (.ref o104), .val (.int (5 : Int32)), .val (.ref o112), .unset, .unset, .unset, .unset]
abbrev LA10 (p1 : Int32) (p2 : Int32) (p3 : Int32) (p4 : Int32) (rp : Int32) (mp : Int32) (q : Int32) (cc : Int32) (o104 : Addr) (o112 : Addr) (o128 : Addr) : Array Slot := #[.val (.int p1), .val (.int p2), .val (.int p3), .val (.int p4), .val (.int rp), .val (.int mp), .val (.int (0 : Int32)), .val (.int (-1 : Int32)), .val (.int q), .val (.int cc), .val (.ref o104), .val (.int (5 : Int32)), .val (.ref o112), .val (.ref o128), .unset, .unset, .unset]
abbrev LA11 (p1 : Int32) (p2 : Int32) (p3 : Int32) (p4 : Int32) (rp : Int32) (mp : Int32) : Array Slot := #[.val (.int p1), .val (.int p2), .val (.int p3), .val (.int p4), .val (.int rp), .val (.int mp), .val (.int (0 : Int32)), .val (.int (0 : Int32)), .unset, .unset, .unset, .unset, .unset, .unset, .unset, .unset, .unset]
abbrev LA12 (p1 : Int32) (p2 : Int32) (p3 : Int32) (p4 : Int32) (rp : Int32) (mp : Int32) (q : Int32) : Array Slot := #[.val (.int p1), .val (.int p2), .val (.int p3), .val (.int p4), .val (.int rp), .val (.int mp), .val (.int (0 : Int32)), .val (.int (0 : Int32)), .val (.int q), .unset, .unset, .unset, .unset, .unset, .unset, .unset, .unset]
abbrev LA13 (p1 : Int32) (p2 : Int32) (p3 : Int32) (p4 : Int32) (rp : Int32) (mp : Int32) (q : Int32) (cc : Int32) : Array Slot := #[.val (.int p1), .val (.int p2), .val (.int p3), .val (.int p4), .val (.int rp), .val (.int mp), .val (.int (0 : Int32)), .val (.int (0 : Int32)), .val (.int q), .val (.int cc), .unset, .unset, .unset, .unset, .unset, .unset, .unset]
abbrev LA14 (p1 : Int32) (p2 : Int32) (p3 : Int32) (p4 : Int32) (rp : Int32) (mp : Int32) (q : Int32) (cc : Int32) (o151 : Addr) : Array Slot := #[.val (.int p1), .val (.int p2), .val (.int p3), .val (.int p4), .val (.int rp), .val (.int mp), .val (.int (0 : Int32)), .val (.int (0 : Int32)), .val (.int q), .val (.int cc), .val (.ref o151), .unset, .unset, .unset, .unset, .unset, .unset]
abbrev LA15 (p1 : Int32) (p2 : Int32) (p3 : Int32) (p4 : Int32) (rp : Int32) (mp : Int32) (q : Int32) (cc : Int32) (o151 : Addr) : Array Slot := #[.val (.int p1), .val (.int p2), .val (.int p3), .val (.int p4), .val (.int rp), .val (.int mp), .val (.int (0 : Int32)), .val (.int (0 : Int32)), .val (.int q), .val (.int cc), .val (.ref o151), .val (.int (6 : Int32)), .unset, .unset, .unset, .unset, .unset]
abbrev LA16 (p1 : Int32) (p2 : Int32) (p3 : Int32) (p4 : Int32) (rp : Int32) (mp : Int32) (q : Int32) (cc : Int32) (o151 : Addr) (o159 : Addr) : Array Slot := #[.val (.int p1), .val (.int p2), .val (.int p3), .val (.int p4), .val (.int rp), .val (.int mp), .val (.int (0 : Int32)), .val (.int (0 : Int32)), .val (.int q), .val (.int cc), .val (.ref o151), .val (.int (6 : Int32)), .val (.ref o159), .unset, .unset, .unset, .unset]
abbrev LA17 (p1 : Int32) (p2 : Int32) (p3 : Int32) (p4 : Int32) (rp : Int32) (mp : Int32) (q : Int32) (cc : Int32) (o151 : Addr) (o159 : Addr) (o178 : Addr) : Array Slot := #[.val (.int p1), .val (.int p2), .val (.int p3), .val (.int p4), .val (.int rp), .val (.int mp), .val (.int (0 : Int32)), .val (.int (0 : Int32)), .val (.int q), .val (.int cc), .val (.ref o151), .val (.int (6 : Int32)), .val (.ref o159), .val (.ref o178), .unset, .unset, .unset]
abbrev LA18 (p1 : Int32) (p2 : Int32) (p3 : Int32) (p4 : Int32) (rp : Int32) (mp : Int32) : Array Slot := #[.val (.int p1), .val (.int p2), .val (.int p3), .val (.int p4), .val (.int rp), .val (.int mp), .val (.int (0 : Int32)), .val (.int (1 : Int32)), .unset, .unset, .unset, .unset, .unset, .unset, .unset, .unset, .unset]
abbrev LA19 (p1 : Int32) (p2 : Int32) (p3 : Int32) (p4 : Int32) (rp : Int32) (mp : Int32) (q : Int32) : Array Slot := #[.val (.int p1), .val (.int p2), .val (.int p3), .val (.int p4), .val (.int rp), .val (.int mp), .val (.int (0 : Int32)), .val (.int (1 : Int32)), .val (.int q), .unset, .unset, .unset, .unset, .unset, .unset, .unset, .unset]
abbrev LA20 (p1 : Int32) (p2 : Int32) (p3 : Int32) (p4 : Int32) (rp : Int32) (mp : Int32) (q : Int32) (cc : Int32) : Array Slot := #[.val (.int p1), .val (.int p2), .val (.int p3), .val (.int p4), .val (.int rp), .val (.int mp), .val (.int (0 : Int32)), .val (.int (1 : Int32)), .val (.int q), .val (.int cc), .unset, .unset, .unset, .unset, .unset, .unset, .unset]
abbrev LA21 (p1 : Int32) (p2 : Int32) (p3 : Int32) (p4 : Int32) (rp : Int32) (mp : Int32) (q : Int32) (cc : Int32) (o201 : Addr) : Array Slot := #[.val (.int p1), .val (.int p2), .val (.int p3), .val (.int p4), .val (.int rp), .val (.int mp), .val (.int (0 : Int32)), .val (.int (1 : Int32)), .val (.int q), .val (.int cc), .val (.ref o201), .unset, .unset, .unset, .unset, .unset, .unset]
abbrev LA22 (p1 : Int32) (p2 : Int32) (p3 : Int32) (p4 : Int32) (rp : Int32) (mp : Int32) (q : Int32) (cc : Int32) (o201 : Addr) : Array Slot := #[.val (.int p1), .val (.int p2), .val (.int p3), .val (.int p4), .val (.int rp), .val (.int mp), .val (.int (0 : Int32)), .val (.int (1 : Int32)), .val (.int q), .val (.int cc), .val (.ref o201), .val (.int (7 : Int32)), .unset, .unset, .unset, .unset, .unset]
abbrev LA23 (p1 : Int32) (p2 : Int32) (p3 : Int32) (p4 : Int32) (rp : Int32) (mp : Int32) (q : Int32) (cc : Int32) (o201 : Addr) (o209 : Addr) : Array Slot := #[.val (.int p1), .val (.int p2), .val (.int p3), .val (.int p4), .val (.int rp), .val (.int mp), .val (.int (0 : Int32)), .val (.int (1 : Int32)), .val (.int q), .val (.int cc), .val (.ref o201), .val (.int (7 : Int32)), .val (.ref o209), .unset, .unset, .unset, .unset]
abbrev LA24 (p1 : Int32) (p2 : Int32) (p3 : Int32) (p4 : Int32) (rp : Int32) (mp : Int32) (q : Int32) (cc : Int32) (o201 : Addr) (o209 : Addr) (o231 : Addr) : Array Slot := #[.val (.int p1), .val (.int p2), .val (.int p3), .val (.int p4), .val (.int rp), .val (.int mp), .val (.int (0 : Int32)), .val (.int (1 : Int32)), .val (.int q), .val (.int cc), .val (.ref o201), .val (.int (7 : Int32)), .val (.ref o209), .val (.ref o231), .unset, .unset, .unset]
abbrev LA25 (p1 : Int32) (p2 : Int32) (p3 : Int32) (p4 : Int32) (rp : Int32) (mp : Int32) : Array Slot := #[.val (.int p1), .val (.int p2), .val (.int p3), .val (.int p4), .val (.int rp), .val (.int mp), .val (.int (1 : Int32)), .unset, .unset, .unset, .unset, .unset, .unset, .unset, .unset, .unset, .unset]
abbrev LA26 (p1 : Int32) (p2 : Int32) (p3 : Int32) (p4 : Int32) (rp : Int32) (mp : Int32) : Array Slot := #[.val (.int p1), .val (.int p2), .val (.int p3), .val (.int p4), .val (.int rp), .val (.int mp), .val (.int (1 : Int32)), .val (.int (-1 : Int32)), .unset, .unset, .unset, .unset, .unset, .unset, .unset, .unset, .unset]
abbrev LA27 (p1 : Int32) (p2 : Int32) (p3 : Int32) (p4 : Int32) (rp : Int32) (mp : Int32) (q : Int32) : Array Slot := #[.val (.int p1), .val (.int p2), .val (.int p3), .val (.int p4), .val (.int rp), .val (.int mp), .val (.int (1 : Int32)), .val (.int (-1 : Int32)), .val (.int q), .unset, .unset, .unset, .unset, .unset, .unset, .unset, .unset]
abbrev LA28 (p1 : Int32) (p2 : Int32) (p3 : Int32) (p4 : Int32) (rp : Int32) (mp : Int32) (q : Int32) (cc : Int32) : Array Slot := #[.val (.int p1), .val (.int p2), .val (.int p3), .val (.int p4), .val (.int rp), .val (.int mp), .val (.int (1 : Int32)), .val (.int (-1 : Int32)), .val (.int q), .val (.int cc), .unset, .unset, .unset, .unset, .unset, .unset, .unset]
abbrev LA29 (p1 : Int32) (p2 : Int32) (p3 : Int32) (p4 : Int32) (rp : Int32) (mp : Int32) (q : Int32) (cc : Int32) (o254 : Addr) : Array Slot := #[.val (.int p1), .val (.int p2), .val (.int p3), .val (.int p4), .val (.int rp), .val (.int mp), .val (.int (1 : Int32)), .val (.int (-1 : Int32)), .val (.int q), .val (.int cc), .val (.ref o254), .unset, .unset, .unset, .unset, .unset, .unset]
abbrev LA30 (p1 : Int32) (p2 : Int32) (p3 : Int32) (p4 : Int32) (rp : Int32) (mp : Int32) (q : Int32) (cc : Int32) (o254 : Addr) : Array Slot := #[.val (.int p1), .val (.int p2), .val (.int p3), .val (.int p4), .val (.int rp), .val (.int mp), .val (.int (1 : Int32)), .val (.int (-1 : Int32)), .val (.int q), .val (.int cc), .val (.ref o254), .val (.int (14 : Int32)), .unset, .unset, .unset, .unset, .unset]
abbrev LA31 (p1 : Int32) (p2 : Int32) (p3 : Int32) (p4 : Int32) (rp : Int32) (mp : Int32) (q : Int32) (cc : Int32) (o254 : Addr) (o271 : Addr) : Array Slot := #[.val (.int p1), .val (.int p2), .val (.int p3), .val (.int p4), .val (.int rp), .val (.int mp), .val (.int (1 : Int32)), .val (.int (-1 : Int32)), .val (.int q), .val (.int cc), .val (.ref o254), .val (.int (14 : Int32)), .val (.ref o271), .unset, .unset, .unset, .unset]
abbrev LA32 (p1 : Int32) (p2 : Int32) (p3 : Int32) (p4 : Int32) (rp : Int32) (mp : Int32) (q : Int32) (cc : Int32) (o254 : Addr) (o271 : Addr) (o314 : Addr) : Array Slot := #[.val (.int p1), .val (.int p2), .val (.int p3), .val (.int p4), .val (.int rp), .val (.int mp), .val (.int (1 : Int32)), .val (.int (-1 : Int32)), .val (.int q), .val (.int cc), .val (.ref o254), .val (.int (14 : Int32)), .val (.ref o271), .val (.ref o314), .unset, .unset, .unset]
abbrev LA33 (p1 : Int32) (p2 : Int32) (p3 : Int32) (p4 : Int32) (rp : Int32) (mp : Int32) : Array Slot := #[.val (.int p1), .val (.int p2), .val (.int p3), .val (.int p4), .val (.int rp), .val (.int mp), .val (.int (1 : Int32)), .val (.int (0 : Int32)), .unset, .unset, .unset, .unset, .unset, .unset, .unset, .unset, .unset]
abbrev LA34 (p1 : Int32) (p2 : Int32) (p3 : Int32) (p4 : Int32) (rp : Int32) (mp : Int32) (q : Int32) : Array Slot := #[.val (.int p1), .val (.int p2), .val (.int p3), .val (.int p4), .val (.int rp), .val (.int mp), .val (.int (1 : Int32)), .val (.int (0 : Int32)), .val (.int q), .unset, .unset, .unset, .unset, .unset, .unset, .unset, .unset]
abbrev LA35 (p1 : Int32) (p2 : Int32) (p3 : Int32) (p4 : Int32) (rp : Int32) (mp : Int32) (q : Int32) (cc : Int32) : Array Slot := #[.val (.int p1), .val (.int p2), .val (.int p3), .val (.int p4), .val (.int rp), .val (.int mp), .val (.int (1 : Int32)), .val (.int (0 : Int32)), .val (.int q), .val (.int cc), .unset, .unset, .unset, .unset, .unset, .unset, .unset]
abbrev LA36 (p1 : Int32) (p2 : Int32) (p3 : Int32) (p4 : Int32) (rp : Int32) (mp : Int32) (q : Int32) (cc : Int32) (o337 : Addr) : Array Slot := #[.val (.int p1), .val (.int p2), .val (.int p3), .val (.int p4), .val (.int rp), .val (.int mp), .val (.int (1 : Int32)), .val (.int (0 : Int32)), .val (.int q), .val (.int cc), .val (.ref o337), .unset, .unset, .unset, .unset, .unset, .unset]
abbrev LA37 (p1 : Int32) (p2 : Int32) (p3 : Int32) (p4 : Int32) (rp : Int32) (mp : Int32) (q : Int32) (cc : Int32) (o337 : Addr) : Array Slot := #[.val (.int p1), .val (.int p2), .val (.int p3), .val (.int p4), .val (.int rp), .val (.int mp), .val (.int (1 : Int32)), .val (.int (0 : Int32)), .val (.int q), .val (.int cc), .val (.ref o337), .val (.int (15 : Int32)), .unset, .unset, .unset, .unset, .unset]
abbrev LA38 (p1 : Int32) (p2 : Int32) (p3 : Int32) (p4 : Int32) (rp : Int32) (mp : Int32) (q : Int32) (cc : Int32) (o337 : Addr) (o354 : Addr) : Array Slot := #[.val (.int p1), .val (.int p2), .val (.int p3), .val (.int p4), .val (.int rp), .val (.int mp), .val (.int (1 : Int32)), .val (.int (0 : Int32)), .val (.int q), .val (.int cc), .val (.ref o337), .val (.int (15 : Int32)), .val (.ref o354), .unset, .unset, .unset, .unset]
abbrev LA39 (p1 : Int32) (p2 : Int32) (p3 : Int32) (p4 : Int32) (rp : Int32) (mp : Int32) (q : Int32) (cc : Int32) (o337 : Addr) (o354 : Addr) (o400 : Addr) : Array Slot := #[.val (.int p1), .val (.int p2), .val (.int p3), .val (.int p4), .val (.int rp), .val (.int mp), .val (.int (1 : Int32)), .val (.int (0 : Int32)), .val (.int q), .val (.int cc), .val (.ref o337), .val (.int (15 : Int32)), .val (.ref o354), .val (.ref o400), .unset, .unset, .unset]
abbrev LA40 (p1 : Int32) (p2 : Int32) (p3 : Int32) (p4 : Int32) (rp : Int32) (mp : Int32) : Array Slot := #[.val (.int p1), .val (.int p2), .val (.int p3), .val (.int p4), .val (.int rp), .val (.int mp), .val (.int (1 : Int32)), .val (.int (1 : Int32)), .unset, .unset, .unset, .unset, .unset, .unset, .unset, .unset, .unset]
abbrev LA41 (p1 : Int32) (p2 : Int32) (p3 : Int32) (p4 : Int32) (rp : Int32) (mp : Int32) (q : Int32) : Array Slot := #[.val (.int p1), .val (.int p2), .val (.int p3), .val (.int p4), .val (.int rp), .val (.int mp), .val (.int (1 : Int32)), .val (.int (1 : Int32)), .val (.int q), .unset, .unset, .unset, .unset, .unset, .unset, .unset, .unset]
abbrev LA42 (p1 : Int32) (p2 : Int32) (p3 : Int32) (p4 : Int32) (rp : Int32) (mp : Int32) (q : Int32) (cc : Int32) : Array Slot := #[.val (.int p1), .val (.int p2), .val (.int p3), .val (.int p4), .val (.int rp), .val (.int mp), .val (.int (1 : Int32)), .val (.int (1 : Int32)), .val (.int q), .val (.int cc), .unset, .unset, .unset, .unset, .unset, .unset, .unset]
abbrev LA43 (p1 : Int32) (p2 : Int32) (p3 : Int32) (p4 : Int32) (rp : Int32) (mp : Int32) (q : Int32) (cc : Int32) (o423 : Addr) : Array Slot := #[.val (.int p1), .val (.int p2), .val (.int p3), .val (.int p4), .val (.int rp), .val (.int mp), .val (.int (1 : Int32)), .val (.int (1 : Int32)), .val (.int q), .val (.int cc), .val (.ref o423), .unset, .unset, .unset, .unset, .unset, .unset]
abbrev LA44 (p1 : Int32) (p2 : Int32) (p3 : Int32) (p4 : Int32) (rp : Int32) (mp : Int32) (q : Int32) (cc : Int32) (o423 : Addr) : Array Slot := #[.val (.int p1), .val (.int p2), .val (.int p3), .val (.int p4), .val (.int rp), .val (.int mp), .val (.int (1 : Int32)), .val (.int (1 : Int32)), .val (.int q), .val (.int cc), .val (.ref o423), .val (.int (16 : Int32)), .unset, .unset, .unset, .unset, .unset]
abbrev LA45 (p1 : Int32) (p2 : Int32) (p3 : Int32) (p4 : Int32) (rp : Int32) (mp : Int32) (q : Int32) (cc : Int32) (o423 : Addr) (o440 : Addr) : Array Slot := #[.val (.int p1), .val (.int p2), .val (.int p3), .val (.int p4), .val (.int rp), .val (.int mp), .val (.int (1 : Int32)), .val (.int (1 : Int32)), .val (.int q), .val (.int cc), .val (.ref o423), .val (.int (16 : Int32)), .val (.ref o440), .unset, .unset, .unset, .unset]
abbrev LA46 (p1 : Int32) (p2 : Int32) (p3 : Int32) (p4 : Int32) (rp : Int32) (mp : Int32) (q : Int32) (cc : Int32) (o423 : Addr) (o440 : Addr) (o489 : Addr) : Array Slot := #[.val (.int p1), .val (.int p2), .val (.int p3), .val (.int p4), .val (.int rp), .val (.int mp), .val (.int (1 : Int32)), .val (.int (1 : Int32)), .val (.int q), .val (.int cc), .val (.ref o423), .val (.int (16 : Int32)), .val (.ref o440), .val (.ref o489), .unset, .unset, .unset]
theorem pd7 : parseMethodDescriptor "([CIIC)C" = some ⟨[(.array .char), .int, .int, .char], some .char⟩ := by decide +kernel
theorem pd8 : parseMethodDescriptor "([C)V" = some ⟨[(.array .char)], none⟩ := by decide +kernel
theorem pd9 : parseMethodDescriptor "(Ljava/lang/String;Ljava/lang/String;ZZLjava/util/Optional;Ljava/util/Optional;)V" = some ⟨[(.object "java/lang/String"), (.object "java/lang/String"), .boolean, .boolean, (.object "java/util/Optional"), (.object "java/util/Optional")], none⟩ := by decide +kernel
set_option maxRecDepth 65536 in
set_option maxHeartbeats 40000000 in
theorem rm0 (l : Launch) (Z : State) (a0 : Array Value) (hw : ∀ d ∈ tables_1, d.before a0 Z = true) (ws : List Jvm.Cond) (p1 p2 p3 p4 : Int32) (zc : Int32) (ms : List Addr) (h0 : Heap) (n0 : Nat) (O0 : Old Z n0 h0) (nb : Nat) (hb0 : n0 ≤ nb) (hnb : nb ≤ h0.size) (S_C : Sta Z Z.heap "java/lang/String" "COMPACT_STRINGS" "Z" (.int zc)) (hzc : ¬ zc = 0) :
    Con l Z ms x code maxLocals ret ws room_1 #[(.int p1), (.int p2), (.int p3), (.int p4)] h0 (fun v vm h L => v = some (.int 1) ∧ Fr nb L) := by
  refine Con.mk (plainFor_of_name pn3) ?_
  intro p e s m below meth c s₁ Cc X0 e0 eb J0 B0 M0
  replace Cc : Cx Z p s m meth c "com/example/mthd/mthd/model/FieldHoldsStringsPinLaw" code 17 "law" ret := Cc
  obtain ⟨hx, hZ, hown, hby, hml, hnm, hret, hlk⟩ := id Cc
  have N0 := Fr.nil h0.size
  have K0 := Keep.refl h0 []
  refine own_go0 (show argsToLocals #[(.int p1), (.int p2), (.int p3), (.int p4)] 17 = (LA0 p1 p2 p3 p4) from by simp [argsToLocals, Value.category, Array.replicate, List.replicate]) ?_
  show Go p e s below _ _ _ _ s₁ (mkF m 0 (LA0 p1 p2 p3 p4) [])
  refine Go.of (fun _ hr => XS.iloadN X0.here hx rfl (hb hby at_0) rfl  hr) ?_
  show Go p e s below _ _ _ _ s₁ (mkF m 1 (LA0 p1 p2 p3 p4) [(.int p4)])
  refine Go.of (fun _ hr => XS.iconst X0.here hx rfl (hb hby at_1) hr) ?_
  show Go p e s below _ _ _ _ s₁ (mkF m 2 (LA0 p1 p2 p3 p4) [(.int (1 : Int32)), (.int p4)])
  refine Go.of (fun _ hr => XS.iand X0.here hx rfl (hb hby at_2) rfl hr) ?_
  show Go p e s below _ _ _ _ s₁ (mkF m 3 (LA0 p1 p2 p3 p4) [(.int (p4 &&& (1 : Int32)))])
  refine Go.join (α := Int32) (fun x_ => (x_ = 1 ∨ x_ = 0)) (fun x_ => (mkF m 11 (LA0 p1 p2 p3 p4) [(.int x_)])) ?_ ?_
  · rintro rp hj101
    replace hj101 : (rp = 1 ∨ rp = 0) := hj101
    show Go p e s below _ _ _ _ s₁ (mkF m 11 (LA0 p1 p2 p3 p4) [(.int rp)])
    have hz_rp := hj101
    refine Go.of (fun _ hr => XS.istore X0.here hx rfl (hb hby at_11) rfl (l' := (LA1 p1 p2 p3 p4 rp)) rfl hr) ?_
    show Go p e s below _ _ _ _ s₁ (mkF m 13 (LA1 p1 p2 p3 p4 rp) [])
    refine Go.of (fun _ hr => XS.iloadN X0.here hx rfl (hb hby at_13) rfl  hr) ?_
    show Go p e s below _ _ _ _ s₁ (mkF m 14 (LA1 p1 p2 p3 p4 rp) [(.int p4)])
    refine Go.of (fun _ hr => XS.iconst X0.here hx rfl (hb hby at_14) hr) ?_
    show Go p e s below _ _ _ _ s₁ (mkF m 15 (LA1 p1 p2 p3 p4 rp) [(.int (2 : Int32)), (.int p4)])
    refine Go.of (fun _ hr => XS.iand X0.here hx rfl (hb hby at_15) rfl hr) ?_
    show Go p e s below _ _ _ _ s₁ (mkF m 16 (LA1 p1 p2 p3 p4 rp) [(.int (p4 &&& (2 : Int32)))])
    refine Go.join (α := Int32) (fun x_ => (x_ = 1 ∨ x_ = 0)) (fun x_ => (mkF m 24 (LA1 p1 p2 p3 p4 rp) [(.int x_)])) ?_ ?_
    · rintro mp hj102
      replace hj102 : (mp = 1 ∨ mp = 0) := hj102
      show Go p e s below _ _ _ _ s₁ (mkF m 24 (LA1 p1 p2 p3 p4 rp) [(.int mp)])
      have hz_mp := hj102
      refine Go.of (fun _ hr => XS.istore X0.here hx rfl (hb hby at_24) rfl (l' := (LA2 p1 p2 p3 p4 rp mp)) rfl hr) ?_
      show Go p e s below _ _ _ _ s₁ (mkF m 26 (LA2 p1 p2 p3 p4 rp mp) [])
      refine Go.of (fun _ hr => XS.iloadN X0.here hx rfl (hb hby at_26) rfl  hr) ?_
      show Go p e s below _ _ _ _ s₁ (mkF m 27 (LA2 p1 p2 p3 p4 rp mp) [(.int p1)])
      refine Go.of (fun _ hr => XS.iconst X0.here hx rfl (hb hby at_27) hr) ?_
      show Go p e s below _ _ _ _ s₁ (mkF m 28 (LA2 p1 p2 p3 p4 rp mp) [(.int (1 : Int32)), (.int p1)])
      refine Go.of (fun _ hr => XS.iand X0.here hx rfl (hb hby at_28) rfl hr) ?_
      show Go p e s below _ _ _ _ s₁ (mkF m 29 (LA2 p1 p2 p3 p4 rp mp) [(.int (p1 &&& (1 : Int32)))])
      by_cases hb29_103 : (p1 &&& (1 : Int32)) = (0 : Int32)
      · refine Go.of (fun _ hr => XS.ifYes X0.here hx rfl (pc0 := 29) (pc' := 36) rfl (hb hby at_29) rfl ((if0 _ _).trans (teq hb29_103).1) (by decide) (by decide) hr) ?_
        show Go p e s below _ _ _ _ s₁ (mkF m 36 (LA2 p1 p2 p3 p4 rp mp) [])
        refine Go.of (fun _ hr => XS.iconst X0.here hx rfl (hb hby at_36) hr) ?_
        show Go p e s below _ _ _ _ s₁ (mkF m 37 (LA2 p1 p2 p3 p4 rp mp) [(.int (0 : Int32))])
        refine Go.of (fun _ hr => XS.istore X0.here hx rfl (hb hby at_37) rfl (l' := (LA3 p1 p2 p3 p4 rp mp)) rfl hr) ?_
        show Go p e s below _ _ _ _ s₁ (mkF m 39 (LA3 p1 p2 p3 p4 rp mp) [])
        refine Go.of (fun _ hr => XS.iloadN X0.here hx rfl (hb hby at_39) rfl  hr) ?_
        show Go p e s below _ _ _ _ s₁ (mkF m 40 (LA3 p1 p2 p3 p4 rp mp) [(.int p1)])
        refine Go.of (fun _ hr => XS.iconst X0.here hx rfl (hb hby at_40) hr) ?_
        show Go p e s below _ _ _ _ s₁ (mkF m 41 (LA3 p1 p2 p3 p4 rp mp) [(.int (1 : Int32)), (.int p1)])
        refine Go.of (fun _ hr => XS.iushr X0.here hx rfl (hb hby at_41) rfl hr) ?_
        show Go p e s below _ _ _ _ s₁ (mkF m 42 (LA3 p1 p2 p3 p4 rp mp) [(.int ((p1.toUInt32 >>> ((1 : Int32) &&& 31).toUInt32).toInt32))])
        refine Go.of (fun _ hr => XS.iconst X0.here hx rfl (hb hby at_42) hr) ?_
        show Go p e s below _ _ _ _ s₁ (mkF m 43 (LA3 p1 p2 p3 p4 rp mp) [(.int (3 : Int32)), (.int ((p1.toUInt32 >>> ((1 : Int32) &&& 31).toUInt32).toInt32))])
        refine Go.of (fun _ hr => iremM X0 hx rfl (hb hby at_43) rfl (by decide) hr) ?_
        show Go p e s below _ _ _ _ s₁ (mkF m 44 (LA3 p1 p2 p3 p4 rp mp) [(.int (((p1.toUInt32 >>> ((1 : Int32) &&& 31).toUInt32).toInt32) % (3 : Int32)))])
        refine Go.of (fun _ hr => XS.iconst X0.here hx rfl (hb hby at_44) hr) ?_
        show Go p e s below _ _ _ _ s₁ (mkF m 45 (LA3 p1 p2 p3 p4 rp mp) [(.int (1 : Int32)), (.int (((p1.toUInt32 >>> ((1 : Int32) &&& 31).toUInt32).toInt32) % (3 : Int32)))])
        refine Go.of (fun _ hr => XS.isub X0.here hx rfl (hb hby at_45) rfl hr) ?_
        show Go p e s below _ _ _ _ s₁ (mkF m 46 (LA3 p1 p2 p3 p4 rp mp) [(.int ((((p1.toUInt32 >>> ((1 : Int32) &&& 31).toUInt32).toInt32) % (3 : Int32)) - (1 : Int32)))])
        rcases dl3 p1 with hd | hd | hd
        · rw [hd]
          show Go p e s below _ _ _ _ s₁ (mkF m 46 (LA3 p1 p2 p3 p4 rp mp) [(.int (-1 : Int32))])
          refine Go.of (fun _ hr => XS.istore X0.here hx rfl (hb hby at_46) rfl (l' := (LA4 p1 p2 p3 p4 rp mp)) rfl hr) ?_
          show Go p e s below _ _ _ _ s₁ (mkF m 48 (LA4 p1 p2 p3 p4 rp mp) [])
          refine Go.of (fun _ hr => XS.iloadN X0.here hx rfl (hb hby at_48) rfl  hr) ?_
          show Go p e s below _ _ _ _ s₁ (mkF m 49 (LA4 p1 p2 p3 p4 rp mp) [(.int p2)])
          refine Go.of (fun _ hr => X0.ldcInt hx hown (mvT hZ (hw _ (List.mem_of_getElem? (i := 0) rfl))) (g := (mkF m 49 (LA4 p1 p2 p3 p4 rp mp) [(.int p2)])) rfl (hb hby at_49) _ hr) ?_
          show Go p e s below _ _ _ _ s₁ (mkF m 51 (LA4 p1 p2 p3 p4 rp mp) [(.int (2147483647 : Int32)), (.int p2)])
          refine Go.of (fun _ hr => XS.iand X0.here hx rfl (hb hby at_51) rfl hr) ?_
          show Go p e s below _ _ _ _ s₁ (mkF m 52 (LA4 p1 p2 p3 p4 rp mp) [(.int (p2 &&& (2147483647 : Int32)))])
          refine Go.of (fun _ hr => XS.bipush X0.here hx rfl (hb hby at_52) hr) ?_
          show Go p e s below _ _ _ _ s₁ (mkF m 54 (LA4 p1 p2 p3 p4 rp mp) [(.int (16 : Int32)), (.int (p2 &&& (2147483647 : Int32)))])
          refine Go.of (fun _ hr => iremM X0 hx rfl (hb hby at_54) rfl (by decide) hr) ?_
          show Go p e s below _ _ _ _ s₁ (mkF m 55 (LA4 p1 p2 p3 p4 rp mp) [(.int ((p2 &&& (2147483647 : Int32)) % (16 : Int32)))])
          have hq_q := rem16 p2
          generalize ((p2 &&& (2147483647 : Int32)) % (16 : Int32)) = q at hq_q ⊢
          show Go p e s below _ _ _ _ s₁ (mkF m 55 (LA4 p1 p2 p3 p4 rp mp) [(.int q)])
          refine Go.of (fun _ hr => XS.istore X0.here hx rfl (hb hby at_55) rfl (l' := (LA5 p1 p2 p3 p4 rp mp q)) rfl hr) ?_
          show Go p e s below _ _ _ _ s₁ (mkF m 57 (LA5 p1 p2 p3 p4 rp mp q) [])
          refine Go.of (fun _ hr => XS.iloadN X0.here hx rfl (hb hby at_57) rfl  hr) ?_
          show Go p e s below _ _ _ _ s₁ (mkF m 58 (LA5 p1 p2 p3 p4 rp mp q) [(.int p3)])
          refine Go.of (fun _ hr => XS.sipush X0.here hx rfl (hb hby at_58) hr) ?_
          show Go p e s below _ _ _ _ s₁ (mkF m 61 (LA5 p1 p2 p3 p4 rp mp q) [(.int (255 : Int32)), (.int p3)])
          refine Go.of (fun _ hr => XS.iand X0.here hx rfl (hb hby at_61) rfl hr) ?_
          show Go p e s below _ _ _ _ s₁ (mkF m 62 (LA5 p1 p2 p3 p4 rp mp q) [(.int (p3 &&& (255 : Int32)))])
          refine Go.of (fun _ hr => XS.i2c X0.here hx rfl (hb hby at_62) rfl hr) ?_
          show Go p e s below _ _ _ _ s₁ (mkF m 63 (LA5 p1 p2 p3 p4 rp mp q) [(.int ((p3 &&& (255 : Int32)).toUInt32.toUInt16.toUInt32.toInt32))])
          have hq_cc := chr8 p3
          generalize ((p3 &&& (255 : Int32)).toUInt32.toUInt16.toUInt32.toInt32) = cc at hq_cc ⊢
          show Go p e s below _ _ _ _ s₁ (mkF m 63 (LA5 p1 p2 p3 p4 rp mp q) [(.int cc)])
          refine Go.of (fun _ hr => XS.istore X0.here hx rfl (hb hby at_63) rfl (l' := (LA6 p1 p2 p3 p4 rp mp q cc)) rfl hr) ?_
          show Go p e s below _ _ _ _ s₁ (mkF m 65 (LA6 p1 p2 p3 p4 rp mp q cc) [])
          refine Go.of (fun _ hr => XS.iload X0.here hx rfl (hb hby at_65) rfl  hr) ?_
          show Go p e s below _ _ _ _ s₁ (mkF m 67 (LA6 p1 p2 p3 p4 rp mp q cc) [(.int (0 : Int32))])
          refine Go.of (fun _ hr => XS.ifYes X0.here hx rfl (pc0 := 67) (pc' := 161) rfl (hb hby at_67) rfl ((if0 _ _).trans (teq (by decide : ((0 : Int32) = (0 : Int32)))).1) (by decide) (by decide) hr) ?_
          show Go p e s below _ _ _ _ s₁ (mkF m 161 (LA6 p1 p2 p3 p4 rp mp q cc) [])
          refine Go.of (fun _ hr => XS.bipush X0.here hx rfl (hb hby at_161) hr) ?_
          show Go p e s below _ _ _ _ s₁ (mkF m 163 (LA6 p1 p2 p3 p4 rp mp q cc) [(.int (6 : Int32))])
          obtain ⟨T104, h104, k104, X104, e104, E104, A104, st104⟩ := newP X0 hx hZ (hw _ (List.mem_of_getElem? (i := 1) rfl)) e0 (g := (mkF m 163 (LA6 p1 p2 p3 p4 rp mp q cc) [(.int (6 : Int32))])) rfl (hb hby at_163) rfl (by decide) (cap := 6) (by decide) (by decide) (by decide) (by decide)
          obtain ⟨o104, g104⟩ : ∃ z, z = h0.size := ⟨_, rfl⟩
          rw [← g104] at A104 st104
          have V104 : Arv Z h104 o104 k104 .char (6 : Int32) [(.int (0 : Int32)), (.int (0 : Int32)), (.int (0 : Int32)), (.int (0 : Int32)), (.int (0 : Int32)), (.int (0 : Int32))] (.int (0 : Int32)) := (Arv.new A104 (by decide)).pad (pad_rep [] (.int (0 : Int32)) 6)
          have lt104 : o104 < h104.size := A104.lt
          have J104 := J0.add E104 g104 lt104
          have B104 := B0.mono E104.1
          have O104 := O0.ext E104
          have sz104 : h0.size ≤ o104 := Nat.le_trans K0.1 (Nat.le_of_eq g104.symm)
          have fr104 : h0.size ≤ o104 := sz104
          have K104 := K0.ext E104
          refine Go.of (fun _ hr => st104 _ hr) ?_
          show Go p e s below _ _ _ _ T104 (mkF m 165 (LA6 p1 p2 p3 p4 rp mp q cc) [(.ref o104)])
          refine Go.of (fun _ hr => XS.dup X104.here hx rfl (hb hby at_165) rfl rfl hr) ?_
          show Go p e s below _ _ _ _ T104 (mkF m 166 (LA6 p1 p2 p3 p4 rp mp q cc) [(.ref o104), (.ref o104)])
          refine Go.of (fun _ hr => XS.iconst X104.here hx rfl (hb hby at_166) hr) ?_
          show Go p e s below _ _ _ _ T104 (mkF m 167 (LA6 p1 p2 p3 p4 rp mp q cc) [(.int (0 : Int32)), (.ref o104), (.ref o104)])
          refine Go.of (fun _ hr => XS.bipush X104.here hx rfl (hb hby at_167) hr) ?_
          show Go p e s below _ _ _ _ T104 (mkF m 169 (LA6 p1 p2 p3 p4 rp mp q cc) [(.int (115 : Int32)), (.int (0 : Int32)), (.ref o104), (.ref o104)])
          obtain ⟨cl105, Ar105, q105, S105, N105_, H105, G105⟩ := id V104
          have hin105 : ¬ ((0 : Int32) < 0 ∨ cl105.slots.size ≤ ((0 : Int32)).toNatClampNeg) := inb_of S105 ⟨by decide, by decide⟩
          obtain ⟨T105, h105, X105, e105, W105, st105⟩ := stC X104 hx hZ e104 Ar105 (j := (0 : Int32)) hin105 (g := (mkF m 169 (LA6 p1 p2 p3 p4 rp mp q cc) [(.int (115 : Int32)), (.int (0 : Int32)), (.ref o104), (.ref o104)])) rfl rfl (hb hby at_169)
          have W105' := W105
          rw [show nar .char (115 : Int32) = (115 : Int32) from rfl] at W105'
          have V105 : Arv Z h105 o104 k104 .char (6 : Int32) [(.int (115 : Int32)), (.int (0 : Int32)), (.int (0 : Int32)), (.int (0 : Int32)), (.int (0 : Int32)), (.int (0 : Int32))] (.int (0 : Int32)) := Arv.set Ar105 q105 S105 N105_ H105 G105 rfl W105' 0 rfl (by simp)
          have N105 := Fr.snoc X105 N0 fr104
          have J105 := J104.wr W105 (List.mem_cons_self ..)
          have B105 := B104.mono (Nat.le_of_eq W105.size.symm)
          have O105 := O104.wr W105 (Nat.le_trans (own_ole O0) fr104)
          have K105 := K104.wr W105 (Or.inr sz104)
          refine Go.of (fun _ hr => st105 _ hr) ?_
          show Go p e s below _ _ _ _ T105 (mkF m 170 (LA6 p1 p2 p3 p4 rp mp q cc) [(.ref o104)])
          refine Go.of (fun _ hr => XS.dup X105.here hx rfl (hb hby at_170) rfl rfl hr) ?_
          show Go p e s below _ _ _ _ T105 (mkF m 171 (LA6 p1 p2 p3 p4 rp mp q cc) [(.ref o104), (.ref o104)])
          refine Go.of (fun _ hr => XS.iconst X105.here hx rfl (hb hby at_171) hr) ?_
          show Go p e s below _ _ _ _ T105 (mkF m 172 (LA6 p1 p2 p3 p4 rp mp q cc) [(.int (1 : Int32)), (.ref o104), (.ref o104)])
          refine Go.of (fun _ hr => XS.bipush X105.here hx rfl (hb hby at_172) hr) ?_
          show Go p e s below _ _ _ _ T105 (mkF m 174 (LA6 p1 p2 p3 p4 rp mp q cc) [(.int (116 : Int32)), (.int (1 : Int32)), (.ref o104), (.ref o104)])
          obtain ⟨cl106, Ar106, q106, S106, N106_, H106, G106⟩ := id V105
          have hin106 : ¬ ((1 : Int32) < 0 ∨ cl106.slots.size ≤ ((1 : Int32)).toNatClampNeg) := inb_of S106 ⟨by decide, by decide⟩
          obtain ⟨T106, h106, X106, e106, W106, st106⟩ := stC X105 hx hZ e105 Ar106 (j := (1 : Int32)) hin106 (g := (mkF m 174 (LA6 p1 p2 p3 p4 rp mp q cc) [(.int (116 : Int32)), (.int (1 : Int32)), (.ref o104), (.ref o104)])) rfl rfl (hb hby at_174)
          have W106' := W106
          rw [show nar .char (116 : Int32) = (116 : Int32) from rfl] at W106'
          have V106 : Arv Z h106 o104 k104 .char (6 : Int32) [(.int (115 : Int32)), (.int (116 : Int32)), (.int (0 : Int32)), (.int (0 : Int32)), (.int (0 : Int32)), (.int (0 : Int32))] (.int (0 : Int32)) := Arv.set Ar106 q106 S106 N106_ H106 G106 rfl W106' 1 rfl (by simp)
          have N106 := Fr.snoc X106 N105 fr104
          have J106 := J105.wr W106 (List.mem_cons_self ..)
          have B106 := B105.mono (Nat.le_of_eq W106.size.symm)
          have O106 := O105.wr W106 (Nat.le_trans (own_ole O0) fr104)
          have K106 := K105.wr W106 (Or.inr sz104)
          refine Go.of (fun _ hr => st106 _ hr) ?_
          show Go p e s below _ _ _ _ T106 (mkF m 175 (LA6 p1 p2 p3 p4 rp mp q cc) [(.ref o104)])
          refine Go.of (fun _ hr => XS.dup X106.here hx rfl (hb hby at_175) rfl rfl hr) ?_
          show Go p e s below _ _ _ _ T106 (mkF m 176 (LA6 p1 p2 p3 p4 rp mp q cc) [(.ref o104), (.ref o104)])
          refine Go.of (fun _ hr => XS.iconst X106.here hx rfl (hb hby at_176) hr) ?_
          show Go p e s below _ _ _ _ T106 (mkF m 177 (LA6 p1 p2 p3 p4 rp mp q cc) [(.int (2 : Int32)), (.ref o104), (.ref o104)])
          refine Go.of (fun _ hr => XS.bipush X106.here hx rfl (hb hby at_177) hr) ?_
          show Go p e s below _ _ _ _ T106 (mkF m 179 (LA6 p1 p2 p3 p4 rp mp q cc) [(.int (114 : Int32)), (.int (2 : Int32)), (.ref o104), (.ref o104)])
          obtain ⟨cl107, Ar107, q107, S107, N107_, H107, G107⟩ := id V106
          have hin107 : ¬ ((2 : Int32) < 0 ∨ cl107.slots.size ≤ ((2 : Int32)).toNatClampNeg) := inb_of S107 ⟨by decide, by decide⟩
          obtain ⟨T107, h107, X107, e107, W107, st107⟩ := stC X106 hx hZ e106 Ar107 (j := (2 : Int32)) hin107 (g := (mkF m 179 (LA6 p1 p2 p3 p4 rp mp q cc) [(.int (114 : Int32)), (.int (2 : Int32)), (.ref o104), (.ref o104)])) rfl rfl (hb hby at_179)
          have W107' := W107
          rw [show nar .char (114 : Int32) = (114 : Int32) from rfl] at W107'
          have V107 : Arv Z h107 o104 k104 .char (6 : Int32) [(.int (115 : Int32)), (.int (116 : Int32)), (.int (114 : Int32)), (.int (0 : Int32)), (.int (0 : Int32)), (.int (0 : Int32))] (.int (0 : Int32)) := Arv.set Ar107 q107 S107 N107_ H107 G107 rfl W107' 2 rfl (by simp)
          have N107 := Fr.snoc X107 N106 fr104
          have J107 := J106.wr W107 (List.mem_cons_self ..)
          have B107 := B106.mono (Nat.le_of_eq W107.size.symm)
          have O107 := O106.wr W107 (Nat.le_trans (own_ole O0) fr104)
          have K107 := K106.wr W107 (Or.inr sz104)
          refine Go.of (fun _ hr => st107 _ hr) ?_
          show Go p e s below _ _ _ _ T107 (mkF m 180 (LA6 p1 p2 p3 p4 rp mp q cc) [(.ref o104)])
          refine Go.of (fun _ hr => XS.dup X107.here hx rfl (hb hby at_180) rfl rfl hr) ?_
          show Go p e s below _ _ _ _ T107 (mkF m 181 (LA6 p1 p2 p3 p4 rp mp q cc) [(.ref o104), (.ref o104)])
          refine Go.of (fun _ hr => XS.iconst X107.here hx rfl (hb hby at_181) hr) ?_
          show Go p e s below _ _ _ _ T107 (mkF m 182 (LA6 p1 p2 p3 p4 rp mp q cc) [(.int (3 : Int32)), (.ref o104), (.ref o104)])
          refine Go.of (fun _ hr => XS.bipush X107.here hx rfl (hb hby at_182) hr) ?_
          show Go p e s below _ _ _ _ T107 (mkF m 184 (LA6 p1 p2 p3 p4 rp mp q cc) [(.int (105 : Int32)), (.int (3 : Int32)), (.ref o104), (.ref o104)])
          obtain ⟨cl108, Ar108, q108, S108, N108_, H108, G108⟩ := id V107
          have hin108 : ¬ ((3 : Int32) < 0 ∨ cl108.slots.size ≤ ((3 : Int32)).toNatClampNeg) := inb_of S108 ⟨by decide, by decide⟩
          obtain ⟨T108, h108, X108, e108, W108, st108⟩ := stC X107 hx hZ e107 Ar108 (j := (3 : Int32)) hin108 (g := (mkF m 184 (LA6 p1 p2 p3 p4 rp mp q cc) [(.int (105 : Int32)), (.int (3 : Int32)), (.ref o104), (.ref o104)])) rfl rfl (hb hby at_184)
          have W108' := W108
          rw [show nar .char (105 : Int32) = (105 : Int32) from rfl] at W108'
          have V108 : Arv Z h108 o104 k104 .char (6 : Int32) [(.int (115 : Int32)), (.int (116 : Int32)), (.int (114 : Int32)), (.int (105 : Int32)), (.int (0 : Int32)), (.int (0 : Int32))] (.int (0 : Int32)) := Arv.set Ar108 q108 S108 N108_ H108 G108 rfl W108' 3 rfl (by simp)
          have N108 := Fr.snoc X108 N107 fr104
          have J108 := J107.wr W108 (List.mem_cons_self ..)
          have B108 := B107.mono (Nat.le_of_eq W108.size.symm)
          have O108 := O107.wr W108 (Nat.le_trans (own_ole O0) fr104)
          have K108 := K107.wr W108 (Or.inr sz104)
          refine Go.of (fun _ hr => st108 _ hr) ?_
          show Go p e s below _ _ _ _ T108 (mkF m 185 (LA6 p1 p2 p3 p4 rp mp q cc) [(.ref o104)])
          refine Go.of (fun _ hr => XS.dup X108.here hx rfl (hb hby at_185) rfl rfl hr) ?_
          show Go p e s below _ _ _ _ T108 (mkF m 186 (LA6 p1 p2 p3 p4 rp mp q cc) [(.ref o104), (.ref o104)])
          refine Go.of (fun _ hr => XS.iconst X108.here hx rfl (hb hby at_186) hr) ?_
          show Go p e s below _ _ _ _ T108 (mkF m 187 (LA6 p1 p2 p3 p4 rp mp q cc) [(.int (4 : Int32)), (.ref o104), (.ref o104)])
          refine Go.of (fun _ hr => XS.bipush X108.here hx rfl (hb hby at_187) hr) ?_
          show Go p e s below _ _ _ _ T108 (mkF m 189 (LA6 p1 p2 p3 p4 rp mp q cc) [(.int (110 : Int32)), (.int (4 : Int32)), (.ref o104), (.ref o104)])
          obtain ⟨cl109, Ar109, q109, S109, N109_, H109, G109⟩ := id V108
          have hin109 : ¬ ((4 : Int32) < 0 ∨ cl109.slots.size ≤ ((4 : Int32)).toNatClampNeg) := inb_of S109 ⟨by decide, by decide⟩
          obtain ⟨T109, h109, X109, e109, W109, st109⟩ := stC X108 hx hZ e108 Ar109 (j := (4 : Int32)) hin109 (g := (mkF m 189 (LA6 p1 p2 p3 p4 rp mp q cc) [(.int (110 : Int32)), (.int (4 : Int32)), (.ref o104), (.ref o104)])) rfl rfl (hb hby at_189)
          have W109' := W109
          rw [show nar .char (110 : Int32) = (110 : Int32) from rfl] at W109'
          have V109 : Arv Z h109 o104 k104 .char (6 : Int32) [(.int (115 : Int32)), (.int (116 : Int32)), (.int (114 : Int32)), (.int (105 : Int32)), (.int (110 : Int32)), (.int (0 : Int32))] (.int (0 : Int32)) := Arv.set Ar109 q109 S109 N109_ H109 G109 rfl W109' 4 rfl (by simp)
          have N109 := Fr.snoc X109 N108 fr104
          have J109 := J108.wr W109 (List.mem_cons_self ..)
          have B109 := B108.mono (Nat.le_of_eq W109.size.symm)
          have O109 := O108.wr W109 (Nat.le_trans (own_ole O0) fr104)
          have K109 := K108.wr W109 (Or.inr sz104)
          refine Go.of (fun _ hr => st109 _ hr) ?_
          show Go p e s below _ _ _ _ T109 (mkF m 190 (LA6 p1 p2 p3 p4 rp mp q cc) [(.ref o104)])
          refine Go.of (fun _ hr => XS.dup X109.here hx rfl (hb hby at_190) rfl rfl hr) ?_
          show Go p e s below _ _ _ _ T109 (mkF m 191 (LA6 p1 p2 p3 p4 rp mp q cc) [(.ref o104), (.ref o104)])
          refine Go.of (fun _ hr => XS.iconst X109.here hx rfl (hb hby at_191) hr) ?_
          show Go p e s below _ _ _ _ T109 (mkF m 192 (LA6 p1 p2 p3 p4 rp mp q cc) [(.int (5 : Int32)), (.ref o104), (.ref o104)])
          refine Go.of (fun _ hr => XS.bipush X109.here hx rfl (hb hby at_192) hr) ?_
          show Go p e s below _ _ _ _ T109 (mkF m 194 (LA6 p1 p2 p3 p4 rp mp q cc) [(.int (103 : Int32)), (.int (5 : Int32)), (.ref o104), (.ref o104)])
          obtain ⟨cl110, Ar110, q110, S110, N110_, H110, G110⟩ := id V109
          have hin110 : ¬ ((5 : Int32) < 0 ∨ cl110.slots.size ≤ ((5 : Int32)).toNatClampNeg) := inb_of S110 ⟨by decide, by decide⟩
          obtain ⟨T110, h110, X110, e110, W110, st110⟩ := stC X109 hx hZ e109 Ar110 (j := (5 : Int32)) hin110 (g := (mkF m 194 (LA6 p1 p2 p3 p4 rp mp q cc) [(.int (103 : Int32)), (.int (5 : Int32)), (.ref o104), (.ref o104)])) rfl rfl (hb hby at_194)
          have W110' := W110
          rw [show nar .char (103 : Int32) = (103 : Int32) from rfl] at W110'
          have V110 : Arv Z h110 o104 k104 .char (6 : Int32) [(.int (115 : Int32)), (.int (116 : Int32)), (.int (114 : Int32)), (.int (105 : Int32)), (.int (110 : Int32)), (.int (103 : Int32))] (.int (0 : Int32)) := Arv.set Ar110 q110 S110 N110_ H110 G110 rfl W110' 5 rfl (by simp)
          have N110 := Fr.snoc X110 N109 fr104
          have J110 := J109.wr W110 (List.mem_cons_self ..)
          have B110 := B109.mono (Nat.le_of_eq W110.size.symm)
          have O110 := O109.wr W110 (Nat.le_trans (own_ole O0) fr104)
          have K110 := K109.wr W110 (Or.inr sz104)
          refine Go.of (fun _ hr => st110 _ hr) ?_
          show Go p e s below _ _ _ _ T110 (mkF m 195 (LA6 p1 p2 p3 p4 rp mp q cc) [(.ref o104)])
          refine Go.of (fun _ hr => XS.astore X110.here hx rfl (hb hby at_195) rfl rfl (l' := (LA7 p1 p2 p3 p4 rp mp q cc o104)) rfl hr) ?_
          show Go p e s below _ _ _ _ T110 (mkF m 197 (LA7 p1 p2 p3 p4 rp mp q cc o104) [])
          refine Go.of (fun _ hr => XS.aload X110.here hx rfl (hb hby at_197) rfl rfl hr) ?_
          show Go p e s below _ _ _ _ T110 (mkF m 199 (LA7 p1 p2 p3 p4 rp mp q cc o104) [(.ref o104)])
          obtain ⟨cl111, Ar111, q111, S111, N111_, H111, G111⟩ := id V110
          refine Go.of (fun _ hr => X110.arraylength hx (by rw [e110]; exact Ar111.1) (State.isArrayOf_alike hZ.alike Ar111.2.1) (g := (mkF m 199 (LA7 p1 p2 p3 p4 rp mp q cc o104) [(.ref o104)])) rfl rfl (hb hby at_199) _ hr) ?_
          rw [len_of S111 N111_]
          show Go p e s below _ _ _ _ T110 (mkF m 200 (LA7 p1 p2 p3 p4 rp mp q cc o104) [(.int (6 : Int32))])
          refine Go.of (fun _ hr => XS.iload X110.here hx rfl (hb hby at_200) rfl  hr) ?_
          show Go p e s below _ _ _ _ T110 (mkF m 202 (LA7 p1 p2 p3 p4 rp mp q cc o104) [(.int (-1 : Int32)), (.int (6 : Int32))])
          refine Go.of (fun _ hr => XS.iadd X110.here hx rfl (hb hby at_202) rfl hr) ?_
          show Go p e s below _ _ _ _ T110 (mkF m 203 (LA7 p1 p2 p3 p4 rp mp q cc o104) [(.int (5 : Int32))])
          refine Go.of (fun _ hr => XS.istore X110.here hx rfl (hb hby at_203) rfl (l' := (LA8 p1 p2 p3 p4 rp mp q cc o104)) rfl hr) ?_
          show Go p e s below _ _ _ _ T110 (mkF m 205 (LA8 p1 p2 p3 p4 rp mp q cc o104) [])
          refine Go.of (fun _ hr => XS.iload X110.here hx rfl (hb hby at_205) rfl  hr) ?_
          show Go p e s below _ _ _ _ T110 (mkF m 207 (LA8 p1 p2 p3 p4 rp mp q cc o104) [(.int (5 : Int32))])
          obtain ⟨T112, h112, k112, X112, e112, E112, A112, st112⟩ := newP X110 hx hZ (hw _ (List.mem_of_getElem? (i := 1) rfl)) e110 (g := (mkF m 207 (LA8 p1 p2 p3 p4 rp mp q cc o104) [(.int (5 : Int32))])) rfl (hb hby at_207) rfl (by decide) (cap := 5) (by decide) (by decide) (by decide) (by decide)
          obtain ⟨o112, g112⟩ : ∃ z, z = h110.size := ⟨_, rfl⟩
          rw [← g112] at A112 st112
          have ne_o104_o112 : o104 ≠ o112 := Nat.ne_of_lt (Nat.lt_of_lt_of_le V110.lt (Nat.le_of_eq g112.symm))
          have V112 : Arv Z h112 o112 k112 .char (5 : Int32) [(.int (0 : Int32)), (.int (0 : Int32)), (.int (0 : Int32)), (.int (0 : Int32)), (.int (0 : Int32))] (.int (0 : Int32)) := (Arv.new A112 (by decide)).pad (pad_rep [] (.int (0 : Int32)) 5)
          have lt112 : o112 < h112.size := A112.lt
          have J112 := J110.add E112 g112 lt112
          have B112 := B110.mono E112.1
          have O112 := O110.ext E112
          have sz112 : h0.size ≤ o112 := Nat.le_trans K110.1 (Nat.le_of_eq g112.symm)
          have fr112 : h0.size ≤ o112 := sz112
          have K112 := K110.ext E112
          refine Go.of (fun _ hr => st112 _ hr) ?_
          show Go p e s below _ _ _ _ T112 (mkF m 209 (LA8 p1 p2 p3 p4 rp mp q cc o104) [(.ref o112)])
          refine Go.of (fun _ hr => XS.astore X112.here hx rfl (hb hby at_209) rfl rfl (l' := (LA9 p1 p2 p3 p4 rp mp q cc o104 o112)) rfl hr) ?_
          show Go p e s below _ _ _ _ T112 (mkF m 211 (LA9 p1 p2 p3 p4 rp mp q cc o104 o112) [])
          refine Go.of (fun _ hr => XS.iload X112.here hx rfl (hb hby at_211) rfl  hr) ?_
          show Go p e s below _ _ _ _ T112 (mkF m 213 (LA9 p1 p2 p3 p4 rp mp q cc o104 o112) [(.int (5 : Int32))])
          refine Go.of (fun _ hr => XS.ifNo X112.here hx rfl (hb hby at_213) rfl ((if0 _ _).trans (tlt (by decide : ((0 : Int32) < (5 : Int32)))).2.2.2) hr) ?_
          show Go p e s below _ _ _ _ T112 (mkF m 216 (LA9 p1 p2 p3 p4 rp mp q cc o104 o112) [])
          refine Go.of (fun _ hr => XS.aload X112.here hx rfl (hb hby at_216) rfl rfl hr) ?_
          show Go p e s below _ _ _ _ T112 (mkF m 218 (LA9 p1 p2 p3 p4 rp mp q cc o104 o112) [(.ref o112)])
          refine Go.of (fun _ hr => XS.iconst X112.here hx rfl (hb hby at_218) hr) ?_
          show Go p e s below _ _ _ _ T112 (mkF m 219 (LA9 p1 p2 p3 p4 rp mp q cc o104 o112) [(.int (0 : Int32)), (.ref o112)])
          refine Go.of (fun _ hr => XS.aload X112.here hx rfl (hb hby at_219) rfl rfl hr) ?_
          show Go p e s below _ _ _ _ T112 (mkF m 221 (LA9 p1 p2 p3 p4 rp mp q cc o104 o112) [(.ref o104), (.int (0 : Int32)), (.ref o112)])
          refine Go.of (fun _ hr => XS.iconst X112.here hx rfl (hb hby at_221) hr) ?_
          show Go p e s below _ _ _ _ T112 (mkF m 222 (LA9 p1 p2 p3 p4 rp mp q cc o104 o112) [(.int (0 : Int32)), (.ref o104), (.int (0 : Int32)), (.ref o112)])
          refine Go.of (fun _ hr => XS.iload X112.here hx rfl (hb hby at_222) rfl  hr) ?_
          show Go p e s below _ _ _ _ T112 (mkF m 224 (LA9 p1 p2 p3 p4 rp mp q cc o104 o112) [(.int q), (.int (0 : Int32)), (.ref o104), (.int (0 : Int32)), (.ref o112)])
          refine Go.of (fun _ hr => XS.iload X112.here hx rfl (hb hby at_224) rfl  hr) ?_
          show Go p e s below _ _ _ _ T112 (mkF m 226 (LA9 p1 p2 p3 p4 rp mp q cc o104 o112) [(.int cc), (.int q), (.int (0 : Int32)), (.ref o104), (.int (0 : Int32)), (.ref o112)])
          have f114 := (V110.ext E112)
          obtain ⟨_, b113, T113, h113, L113, e113, Cc113, X113, B113, J113, g113, hQ113, st113⟩ := own_callS Cc B112 J112 X112 (hw _ (List.mem_of_getElem? (i := 2) rfl)) (hw _ (List.mem_of_getElem? (i := 3) rfl)) (hw _ (List.mem_of_getElem? (i := 4) rfl)) (hw _ (List.mem_of_getElem? (i := 5) rfl)) (by decide) (rm1 l Z a0 hw [] o104 _ (0 : Int32) q cc bS _ h112 n0 O112 h0.size (own_ole O0) K112.1 bS_rng (by decide) (by decide) hq_cc f114) e112 (g := (mkF m 226 (LA9 p1 p2 p3 p4 rp mp q cc o104 o112) [(.int cc), (.int q), (.int (0 : Int32)), (.ref o104), (.int (0 : Int32)), (.ref o112)])) rfl (by rw [hml]; rfl) (argsL := [(.ref o104), (.int (0 : Int32)), (.int q), (.int cc)]) (rest := [(.int (0 : Int32)), (.ref o112)]) (lenOf pd7 rfl) rfl (W := 2) (by show 2 * 0 + _ ≤ _; exact Nat.le_of_eq rfl) (hb hby at_226) (by decide) (by decide) (by decide) (by decide)
          obtain ⟨rfl, Nq113, hh113⟩ := hQ113
          have N113 := Fr.app N110 Nq113
          obtain ⟨hx, hZ, hown, hby, hml, hnm, hret, hlk⟩ := id Cc113
          rw [hh113] at e113 B113 J113
          refine Go.of st113 ?_
          show Go p e s below _ _ _ _ T113 (mkF m 229 (LA9 p1 p2 p3 p4 rp mp q cc o104 o112) [(.int (atV bS (0 : Int32) q cc)), (.int (0 : Int32)), (.ref o112)])
          have Vz : Arv Z h112 o112 k112 .char (5 : Int32) ((outL bS 0 q cc).map Value.int) (.int 0) := Arv.fill0 V112
          obtain ⟨cl115, Ar115, q115, S115, N115_, H115, G115⟩ := id Vz
          have hin115 : ¬ ((0 : Int32) < 0 ∨ cl115.slots.size ≤ ((0 : Int32)).toNatClampNeg) := inb_of S115 ⟨by decide, by decide⟩
          obtain ⟨T115, h115, X115, e115, W115, st115⟩ := stC X113 hx hZ e113 Ar115 (j := (0 : Int32)) hin115 (g := (mkF m 229 (LA9 p1 p2 p3 p4 rp mp q cc o104 o112) [(.int (atV bS (0 : Int32) q cc)), (.int (0 : Int32)), (.ref o112)])) rfl rfl (hb hby at_229)
          rw [nar_c (atV_rng bS_rng (by decide) (by decide) hq_cc).1 (le255 (atV_rng bS_rng (by decide) (by decide) hq_cc).2)] at W115
          have V115 : Arv Z h115 o112 k112 .char (5 : Int32) ((outL bS 1 q cc).map Value.int) (.int 0) := outL_push bS 0 q cc ▸ own_push Vz W115 (by rw [List.length_map, outL_len]; decide) (fits_c (atV_rng bS_rng (by decide) (by decide) hq_cc).1 (le255 (atV_rng bS_rng (by decide) (by decide) hq_cc).2))
          have N115 := Fr.snoc X115 N113 fr112
          have J115 := J113.wr W115 (List.mem_cons_self ..)
          have B115 := B113.mono (Nat.le_of_eq W115.size.symm)
          have O115 := O112.wr W115 (Nat.le_trans (own_ole O0) fr112)
          have K115 := K112.wr W115 (Or.inr sz112)
          refine Go.of (fun _ hr => st115 _ hr) ?_
          show Go p e s below _ _ _ _ T115 (mkF m 230 (LA9 p1 p2 p3 p4 rp mp q cc o104 o112) [])
          refine Go.of (fun _ hr => XS.iload X115.here hx rfl (hb hby at_230) rfl  hr) ?_
          show Go p e s below _ _ _ _ T115 (mkF m 232 (LA9 p1 p2 p3 p4 rp mp q cc o104 o112) [(.int (5 : Int32))])
          refine Go.of (fun _ hr => XS.iconst X115.here hx rfl (hb hby at_232) hr) ?_
          show Go p e s below _ _ _ _ T115 (mkF m 233 (LA9 p1 p2 p3 p4 rp mp q cc o104 o112) [(.int (1 : Int32)), (.int (5 : Int32))])
          refine Go.of (fun _ hr => XS.icmpNo X115.here hx rfl (hb hby at_233) rfl (tlt (by decide : ((1 : Int32) < (5 : Int32)))).2.2.2 hr) ?_
          show Go p e s below _ _ _ _ T115 (mkF m 236 (LA9 p1 p2 p3 p4 rp mp q cc o104 o112) [])
          refine Go.of (fun _ hr => XS.aload X115.here hx rfl (hb hby at_236) rfl rfl hr) ?_
          show Go p e s below _ _ _ _ T115 (mkF m 238 (LA9 p1 p2 p3 p4 rp mp q cc o104 o112) [(.ref o112)])
          refine Go.of (fun _ hr => XS.iconst X115.here hx rfl (hb hby at_238) hr) ?_
          show Go p e s below _ _ _ _ T115 (mkF m 239 (LA9 p1 p2 p3 p4 rp mp q cc o104 o112) [(.int (1 : Int32)), (.ref o112)])
          refine Go.of (fun _ hr => XS.aload X115.here hx rfl (hb hby at_239) rfl rfl hr) ?_
          show Go p e s below _ _ _ _ T115 (mkF m 241 (LA9 p1 p2 p3 p4 rp mp q cc o104 o112) [(.ref o104), (.int (1 : Int32)), (.ref o112)])
          refine Go.of (fun _ hr => XS.iconst X115.here hx rfl (hb hby at_241) hr) ?_
          show Go p e s below _ _ _ _ T115 (mkF m 242 (LA9 p1 p2 p3 p4 rp mp q cc o104 o112) [(.int (1 : Int32)), (.ref o104), (.int (1 : Int32)), (.ref o112)])
          refine Go.of (fun _ hr => XS.iload X115.here hx rfl (hb hby at_242) rfl  hr) ?_
          show Go p e s below _ _ _ _ T115 (mkF m 244 (LA9 p1 p2 p3 p4 rp mp q cc o104 o112) [(.int q), (.int (1 : Int32)), (.ref o104), (.int (1 : Int32)), (.ref o112)])
          refine Go.of (fun _ hr => XS.iload X115.here hx rfl (hb hby at_244) rfl  hr) ?_
          show Go p e s below _ _ _ _ T115 (mkF m 246 (LA9 p1 p2 p3 p4 rp mp q cc o104 o112) [(.int cc), (.int q), (.int (1 : Int32)), (.ref o104), (.int (1 : Int32)), (.ref o112)])
          have f117 := (f114.other W115 ne_o104_o112)
          obtain ⟨_, b116, T116, h116, L116, e116, Cc116, X116, B116, J116, g116, hQ116, st116⟩ := own_callS Cc113 B115 J115 X115 (hw _ (List.mem_of_getElem? (i := 2) rfl)) (hw _ (List.mem_of_getElem? (i := 3) rfl)) (hw _ (List.mem_of_getElem? (i := 4) rfl)) (hw _ (List.mem_of_getElem? (i := 5) rfl)) (by decide) (rm1 l Z a0 hw [] o104 _ (1 : Int32) q cc bS _ h115 n0 O115 h0.size (own_ole O0) K115.1 bS_rng (by decide) (by decide) hq_cc f117) e115 (g := (mkF m 246 (LA9 p1 p2 p3 p4 rp mp q cc o104 o112) [(.int cc), (.int q), (.int (1 : Int32)), (.ref o104), (.int (1 : Int32)), (.ref o112)])) rfl (by rw [hml]; rfl) (argsL := [(.ref o104), (.int (1 : Int32)), (.int q), (.int cc)]) (rest := [(.int (1 : Int32)), (.ref o112)]) (lenOf pd7 rfl) rfl (W := 2) (by show 2 * 0 + _ ≤ _; exact Nat.le_of_eq rfl) (hb hby at_246) (by decide) (by decide) (by decide) (by decide)
          obtain ⟨rfl, Nq116, hh116⟩ := hQ116
          have N116 := Fr.app N115 Nq116
          obtain ⟨hx, hZ, hown, hby, hml, hnm, hret, hlk⟩ := id Cc116
          rw [hh116] at e116 B116 J116
          refine Go.of st116 ?_
          show Go p e s below _ _ _ _ T116 (mkF m 249 (LA9 p1 p2 p3 p4 rp mp q cc o104 o112) [(.int (atV bS (1 : Int32) q cc)), (.int (1 : Int32)), (.ref o112)])
          obtain ⟨cl118, Ar118, q118, S118, N118_, H118, G118⟩ := id V115
          have hin118 : ¬ ((1 : Int32) < 0 ∨ cl118.slots.size ≤ ((1 : Int32)).toNatClampNeg) := inb_of S118 ⟨by decide, by decide⟩
          obtain ⟨T118, h118, X118, e118, W118, st118⟩ := stC X116 hx hZ e116 Ar118 (j := (1 : Int32)) hin118 (g := (mkF m 249 (LA9 p1 p2 p3 p4 rp mp q cc o104 o112) [(.int (atV bS (1 : Int32) q cc)), (.int (1 : Int32)), (.ref o112)])) rfl rfl (hb hby at_249)
          rw [nar_c (atV_rng bS_rng (by decide) (by decide) hq_cc).1 (le255 (atV_rng bS_rng (by decide) (by decide) hq_cc).2)] at W118
          have V118 : Arv Z h118 o112 k112 .char (5 : Int32) ((outL bS 2 q cc).map Value.int) (.int 0) := outL_push bS 1 q cc ▸ own_push V115 W118 (by rw [List.length_map, outL_len]; decide) (fits_c (atV_rng bS_rng (by decide) (by decide) hq_cc).1 (le255 (atV_rng bS_rng (by decide) (by decide) hq_cc).2))
          have N118 := Fr.snoc X118 N116 fr112
          have J118 := J116.wr W118 (List.mem_cons_self ..)
          have B118 := B116.mono (Nat.le_of_eq W118.size.symm)
          have O118 := O115.wr W118 (Nat.le_trans (own_ole O0) fr112)
          have K118 := K115.wr W118 (Or.inr sz112)
          refine Go.of (fun _ hr => st118 _ hr) ?_
          show Go p e s below _ _ _ _ T118 (mkF m 250 (LA9 p1 p2 p3 p4 rp mp q cc o104 o112) [])
          refine Go.of (fun _ hr => XS.iload X118.here hx rfl (hb hby at_250) rfl  hr) ?_
          show Go p e s below _ _ _ _ T118 (mkF m 252 (LA9 p1 p2 p3 p4 rp mp q cc o104 o112) [(.int (5 : Int32))])
          refine Go.of (fun _ hr => XS.iconst X118.here hx rfl (hb hby at_252) hr) ?_
          show Go p e s below _ _ _ _ T118 (mkF m 253 (LA9 p1 p2 p3 p4 rp mp q cc o104 o112) [(.int (2 : Int32)), (.int (5 : Int32))])
          refine Go.of (fun _ hr => XS.icmpNo X118.here hx rfl (hb hby at_253) rfl (tlt (by decide : ((2 : Int32) < (5 : Int32)))).2.2.2 hr) ?_
          show Go p e s below _ _ _ _ T118 (mkF m 256 (LA9 p1 p2 p3 p4 rp mp q cc o104 o112) [])
          refine Go.of (fun _ hr => XS.aload X118.here hx rfl (hb hby at_256) rfl rfl hr) ?_
          show Go p e s below _ _ _ _ T118 (mkF m 258 (LA9 p1 p2 p3 p4 rp mp q cc o104 o112) [(.ref o112)])
          refine Go.of (fun _ hr => XS.iconst X118.here hx rfl (hb hby at_258) hr) ?_
          show Go p e s below _ _ _ _ T118 (mkF m 259 (LA9 p1 p2 p3 p4 rp mp q cc o104 o112) [(.int (2 : Int32)), (.ref o112)])
          refine Go.of (fun _ hr => XS.aload X118.here hx rfl (hb hby at_259) rfl rfl hr) ?_
          show Go p e s below _ _ _ _ T118 (mkF m 261 (LA9 p1 p2 p3 p4 rp mp q cc o104 o112) [(.ref o104), (.int (2 : Int32)), (.ref o112)])
          refine Go.of (fun _ hr => XS.iconst X118.here hx rfl (hb hby at_261) hr) ?_
          show Go p e s below _ _ _ _ T118 (mkF m 262 (LA9 p1 p2 p3 p4 rp mp q cc o104 o112) [(.int (2 : Int32)), (.ref o104), (.int (2 : Int32)), (.ref o112)])
          refine Go.of (fun _ hr => XS.iload X118.here hx rfl (hb hby at_262) rfl  hr) ?_
          show Go p e s below _ _ _ _ T118 (mkF m 264 (LA9 p1 p2 p3 p4 rp mp q cc o104 o112) [(.int q), (.int (2 : Int32)), (.ref o104), (.int (2 : Int32)), (.ref o112)])
          refine Go.of (fun _ hr => XS.iload X118.here hx rfl (hb hby at_264) rfl  hr) ?_
          show Go p e s below _ _ _ _ T118 (mkF m 266 (LA9 p1 p2 p3 p4 rp mp q cc o104 o112) [(.int cc), (.int q), (.int (2 : Int32)), (.ref o104), (.int (2 : Int32)), (.ref o112)])
          have f120 := (f117.other W118 ne_o104_o112)
          obtain ⟨_, b119, T119, h119, L119, e119, Cc119, X119, B119, J119, g119, hQ119, st119⟩ := own_callS Cc116 B118 J118 X118 (hw _ (List.mem_of_getElem? (i := 2) rfl)) (hw _ (List.mem_of_getElem? (i := 3) rfl)) (hw _ (List.mem_of_getElem? (i := 4) rfl)) (hw _ (List.mem_of_getElem? (i := 5) rfl)) (by decide) (rm1 l Z a0 hw [] o104 _ (2 : Int32) q cc bS _ h118 n0 O118 h0.size (own_ole O0) K118.1 bS_rng (by decide) (by decide) hq_cc f120) e118 (g := (mkF m 266 (LA9 p1 p2 p3 p4 rp mp q cc o104 o112) [(.int cc), (.int q), (.int (2 : Int32)), (.ref o104), (.int (2 : Int32)), (.ref o112)])) rfl (by rw [hml]; rfl) (argsL := [(.ref o104), (.int (2 : Int32)), (.int q), (.int cc)]) (rest := [(.int (2 : Int32)), (.ref o112)]) (lenOf pd7 rfl) rfl (W := 2) (by show 2 * 0 + _ ≤ _; exact Nat.le_of_eq rfl) (hb hby at_266) (by decide) (by decide) (by decide) (by decide)
          obtain ⟨rfl, Nq119, hh119⟩ := hQ119
          have N119 := Fr.app N118 Nq119
          obtain ⟨hx, hZ, hown, hby, hml, hnm, hret, hlk⟩ := id Cc119
          rw [hh119] at e119 B119 J119
          refine Go.of st119 ?_
          show Go p e s below _ _ _ _ T119 (mkF m 269 (LA9 p1 p2 p3 p4 rp mp q cc o104 o112) [(.int (atV bS (2 : Int32) q cc)), (.int (2 : Int32)), (.ref o112)])
          obtain ⟨cl121, Ar121, q121, S121, N121_, H121, G121⟩ := id V118
          have hin121 : ¬ ((2 : Int32) < 0 ∨ cl121.slots.size ≤ ((2 : Int32)).toNatClampNeg) := inb_of S121 ⟨by decide, by decide⟩
          obtain ⟨T121, h121, X121, e121, W121, st121⟩ := stC X119 hx hZ e119 Ar121 (j := (2 : Int32)) hin121 (g := (mkF m 269 (LA9 p1 p2 p3 p4 rp mp q cc o104 o112) [(.int (atV bS (2 : Int32) q cc)), (.int (2 : Int32)), (.ref o112)])) rfl rfl (hb hby at_269)
          rw [nar_c (atV_rng bS_rng (by decide) (by decide) hq_cc).1 (le255 (atV_rng bS_rng (by decide) (by decide) hq_cc).2)] at W121
          have V121 : Arv Z h121 o112 k112 .char (5 : Int32) ((outL bS 3 q cc).map Value.int) (.int 0) := outL_push bS 2 q cc ▸ own_push V118 W121 (by rw [List.length_map, outL_len]; decide) (fits_c (atV_rng bS_rng (by decide) (by decide) hq_cc).1 (le255 (atV_rng bS_rng (by decide) (by decide) hq_cc).2))
          have N121 := Fr.snoc X121 N119 fr112
          have J121 := J119.wr W121 (List.mem_cons_self ..)
          have B121 := B119.mono (Nat.le_of_eq W121.size.symm)
          have O121 := O118.wr W121 (Nat.le_trans (own_ole O0) fr112)
          have K121 := K118.wr W121 (Or.inr sz112)
          refine Go.of (fun _ hr => st121 _ hr) ?_
          show Go p e s below _ _ _ _ T121 (mkF m 270 (LA9 p1 p2 p3 p4 rp mp q cc o104 o112) [])
          refine Go.of (fun _ hr => XS.iload X121.here hx rfl (hb hby at_270) rfl  hr) ?_
          show Go p e s below _ _ _ _ T121 (mkF m 272 (LA9 p1 p2 p3 p4 rp mp q cc o104 o112) [(.int (5 : Int32))])
          refine Go.of (fun _ hr => XS.iconst X121.here hx rfl (hb hby at_272) hr) ?_
          show Go p e s below _ _ _ _ T121 (mkF m 273 (LA9 p1 p2 p3 p4 rp mp q cc o104 o112) [(.int (3 : Int32)), (.int (5 : Int32))])
          refine Go.of (fun _ hr => XS.icmpNo X121.here hx rfl (hb hby at_273) rfl (tlt (by decide : ((3 : Int32) < (5 : Int32)))).2.2.2 hr) ?_
          show Go p e s below _ _ _ _ T121 (mkF m 276 (LA9 p1 p2 p3 p4 rp mp q cc o104 o112) [])
          refine Go.of (fun _ hr => XS.aload X121.here hx rfl (hb hby at_276) rfl rfl hr) ?_
          show Go p e s below _ _ _ _ T121 (mkF m 278 (LA9 p1 p2 p3 p4 rp mp q cc o104 o112) [(.ref o112)])
          refine Go.of (fun _ hr => XS.iconst X121.here hx rfl (hb hby at_278) hr) ?_
          show Go p e s below _ _ _ _ T121 (mkF m 279 (LA9 p1 p2 p3 p4 rp mp q cc o104 o112) [(.int (3 : Int32)), (.ref o112)])
          refine Go.of (fun _ hr => XS.aload X121.here hx rfl (hb hby at_279) rfl rfl hr) ?_
          show Go p e s below _ _ _ _ T121 (mkF m 281 (LA9 p1 p2 p3 p4 rp mp q cc o104 o112) [(.ref o104), (.int (3 : Int32)), (.ref o112)])
          refine Go.of (fun _ hr => XS.iconst X121.here hx rfl (hb hby at_281) hr) ?_
          show Go p e s below _ _ _ _ T121 (mkF m 282 (LA9 p1 p2 p3 p4 rp mp q cc o104 o112) [(.int (3 : Int32)), (.ref o104), (.int (3 : Int32)), (.ref o112)])
          refine Go.of (fun _ hr => XS.iload X121.here hx rfl (hb hby at_282) rfl  hr) ?_
          show Go p e s below _ _ _ _ T121 (mkF m 284 (LA9 p1 p2 p3 p4 rp mp q cc o104 o112) [(.int q), (.int (3 : Int32)), (.ref o104), (.int (3 : Int32)), (.ref o112)])
          refine Go.of (fun _ hr => XS.iload X121.here hx rfl (hb hby at_284) rfl  hr) ?_
          show Go p e s below _ _ _ _ T121 (mkF m 286 (LA9 p1 p2 p3 p4 rp mp q cc o104 o112) [(.int cc), (.int q), (.int (3 : Int32)), (.ref o104), (.int (3 : Int32)), (.ref o112)])
          have f123 := (f120.other W121 ne_o104_o112)
          obtain ⟨_, b122, T122, h122, L122, e122, Cc122, X122, B122, J122, g122, hQ122, st122⟩ := own_callS Cc119 B121 J121 X121 (hw _ (List.mem_of_getElem? (i := 2) rfl)) (hw _ (List.mem_of_getElem? (i := 3) rfl)) (hw _ (List.mem_of_getElem? (i := 4) rfl)) (hw _ (List.mem_of_getElem? (i := 5) rfl)) (by decide) (rm1 l Z a0 hw [] o104 _ (3 : Int32) q cc bS _ h121 n0 O121 h0.size (own_ole O0) K121.1 bS_rng (by decide) (by decide) hq_cc f123) e121 (g := (mkF m 286 (LA9 p1 p2 p3 p4 rp mp q cc o104 o112) [(.int cc), (.int q), (.int (3 : Int32)), (.ref o104), (.int (3 : Int32)), (.ref o112)])) rfl (by rw [hml]; rfl) (argsL := [(.ref o104), (.int (3 : Int32)), (.int q), (.int cc)]) (rest := [(.int (3 : Int32)), (.ref o112)]) (lenOf pd7 rfl) rfl (W := 2) (by show 2 * 0 + _ ≤ _; exact Nat.le_of_eq rfl) (hb hby at_286) (by decide) (by decide) (by decide) (by decide)
          obtain ⟨rfl, Nq122, hh122⟩ := hQ122
          have N122 := Fr.app N121 Nq122
          obtain ⟨hx, hZ, hown, hby, hml, hnm, hret, hlk⟩ := id Cc122
          rw [hh122] at e122 B122 J122
          refine Go.of st122 ?_
          show Go p e s below _ _ _ _ T122 (mkF m 289 (LA9 p1 p2 p3 p4 rp mp q cc o104 o112) [(.int (atV bS (3 : Int32) q cc)), (.int (3 : Int32)), (.ref o112)])
          obtain ⟨cl124, Ar124, q124, S124, N124_, H124, G124⟩ := id V121
          have hin124 : ¬ ((3 : Int32) < 0 ∨ cl124.slots.size ≤ ((3 : Int32)).toNatClampNeg) := inb_of S124 ⟨by decide, by decide⟩
          obtain ⟨T124, h124, X124, e124, W124, st124⟩ := stC X122 hx hZ e122 Ar124 (j := (3 : Int32)) hin124 (g := (mkF m 289 (LA9 p1 p2 p3 p4 rp mp q cc o104 o112) [(.int (atV bS (3 : Int32) q cc)), (.int (3 : Int32)), (.ref o112)])) rfl rfl (hb hby at_289)
          rw [nar_c (atV_rng bS_rng (by decide) (by decide) hq_cc).1 (le255 (atV_rng bS_rng (by decide) (by decide) hq_cc).2)] at W124
          have V124 : Arv Z h124 o112 k112 .char (5 : Int32) ((outL bS 4 q cc).map Value.int) (.int 0) := outL_push bS 3 q cc ▸ own_push V121 W124 (by rw [List.length_map, outL_len]; decide) (fits_c (atV_rng bS_rng (by decide) (by decide) hq_cc).1 (le255 (atV_rng bS_rng (by decide) (by decide) hq_cc).2))
          have N124 := Fr.snoc X124 N122 fr112
          have J124 := J122.wr W124 (List.mem_cons_self ..)
          have B124 := B122.mono (Nat.le_of_eq W124.size.symm)
          have O124 := O121.wr W124 (Nat.le_trans (own_ole O0) fr112)
          have K124 := K121.wr W124 (Or.inr sz112)
          refine Go.of (fun _ hr => st124 _ hr) ?_
          show Go p e s below _ _ _ _ T124 (mkF m 290 (LA9 p1 p2 p3 p4 rp mp q cc o104 o112) [])
          refine Go.of (fun _ hr => XS.iload X124.here hx rfl (hb hby at_290) rfl  hr) ?_
          show Go p e s below _ _ _ _ T124 (mkF m 292 (LA9 p1 p2 p3 p4 rp mp q cc o104 o112) [(.int (5 : Int32))])
          refine Go.of (fun _ hr => XS.iconst X124.here hx rfl (hb hby at_292) hr) ?_
          show Go p e s below _ _ _ _ T124 (mkF m 293 (LA9 p1 p2 p3 p4 rp mp q cc o104 o112) [(.int (4 : Int32)), (.int (5 : Int32))])
          refine Go.of (fun _ hr => XS.icmpNo X124.here hx rfl (hb hby at_293) rfl (tlt (by decide : ((4 : Int32) < (5 : Int32)))).2.2.2 hr) ?_
          show Go p e s below _ _ _ _ T124 (mkF m 296 (LA9 p1 p2 p3 p4 rp mp q cc o104 o112) [])
          refine Go.of (fun _ hr => XS.aload X124.here hx rfl (hb hby at_296) rfl rfl hr) ?_
          show Go p e s below _ _ _ _ T124 (mkF m 298 (LA9 p1 p2 p3 p4 rp mp q cc o104 o112) [(.ref o112)])
          refine Go.of (fun _ hr => XS.iconst X124.here hx rfl (hb hby at_298) hr) ?_
          show Go p e s below _ _ _ _ T124 (mkF m 299 (LA9 p1 p2 p3 p4 rp mp q cc o104 o112) [(.int (4 : Int32)), (.ref o112)])
          refine Go.of (fun _ hr => XS.aload X124.here hx rfl (hb hby at_299) rfl rfl hr) ?_
          show Go p e s below _ _ _ _ T124 (mkF m 301 (LA9 p1 p2 p3 p4 rp mp q cc o104 o112) [(.ref o104), (.int (4 : Int32)), (.ref o112)])
          refine Go.of (fun _ hr => XS.iconst X124.here hx rfl (hb hby at_301) hr) ?_
          show Go p e s below _ _ _ _ T124 (mkF m 302 (LA9 p1 p2 p3 p4 rp mp q cc o104 o112) [(.int (4 : Int32)), (.ref o104), (.int (4 : Int32)), (.ref o112)])
          refine Go.of (fun _ hr => XS.iload X124.here hx rfl (hb hby at_302) rfl  hr) ?_
          show Go p e s below _ _ _ _ T124 (mkF m 304 (LA9 p1 p2 p3 p4 rp mp q cc o104 o112) [(.int q), (.int (4 : Int32)), (.ref o104), (.int (4 : Int32)), (.ref o112)])
          refine Go.of (fun _ hr => XS.iload X124.here hx rfl (hb hby at_304) rfl  hr) ?_
          show Go p e s below _ _ _ _ T124 (mkF m 306 (LA9 p1 p2 p3 p4 rp mp q cc o104 o112) [(.int cc), (.int q), (.int (4 : Int32)), (.ref o104), (.int (4 : Int32)), (.ref o112)])
          have f126 := (f123.other W124 ne_o104_o112)
          obtain ⟨_, b125, T125, h125, L125, e125, Cc125, X125, B125, J125, g125, hQ125, st125⟩ := own_callS Cc122 B124 J124 X124 (hw _ (List.mem_of_getElem? (i := 2) rfl)) (hw _ (List.mem_of_getElem? (i := 3) rfl)) (hw _ (List.mem_of_getElem? (i := 4) rfl)) (hw _ (List.mem_of_getElem? (i := 5) rfl)) (by decide) (rm1 l Z a0 hw [] o104 _ (4 : Int32) q cc bS _ h124 n0 O124 h0.size (own_ole O0) K124.1 bS_rng (by decide) (by decide) hq_cc f126) e124 (g := (mkF m 306 (LA9 p1 p2 p3 p4 rp mp q cc o104 o112) [(.int cc), (.int q), (.int (4 : Int32)), (.ref o104), (.int (4 : Int32)), (.ref o112)])) rfl (by rw [hml]; rfl) (argsL := [(.ref o104), (.int (4 : Int32)), (.int q), (.int cc)]) (rest := [(.int (4 : Int32)), (.ref o112)]) (lenOf pd7 rfl) rfl (W := 2) (by show 2 * 0 + _ ≤ _; exact Nat.le_of_eq rfl) (hb hby at_306) (by decide) (by decide) (by decide) (by decide)
          obtain ⟨rfl, Nq125, hh125⟩ := hQ125
          have N125 := Fr.app N124 Nq125
          obtain ⟨hx, hZ, hown, hby, hml, hnm, hret, hlk⟩ := id Cc125
          rw [hh125] at e125 B125 J125
          refine Go.of st125 ?_
          show Go p e s below _ _ _ _ T125 (mkF m 309 (LA9 p1 p2 p3 p4 rp mp q cc o104 o112) [(.int (atV bS (4 : Int32) q cc)), (.int (4 : Int32)), (.ref o112)])
          obtain ⟨cl127, Ar127, q127, S127, N127_, H127, G127⟩ := id V124
          have hin127 : ¬ ((4 : Int32) < 0 ∨ cl127.slots.size ≤ ((4 : Int32)).toNatClampNeg) := inb_of S127 ⟨by decide, by decide⟩
          obtain ⟨T127, h127, X127, e127, W127, st127⟩ := stC X125 hx hZ e125 Ar127 (j := (4 : Int32)) hin127 (g := (mkF m 309 (LA9 p1 p2 p3 p4 rp mp q cc o104 o112) [(.int (atV bS (4 : Int32) q cc)), (.int (4 : Int32)), (.ref o112)])) rfl rfl (hb hby at_309)
          rw [nar_c (atV_rng bS_rng (by decide) (by decide) hq_cc).1 (le255 (atV_rng bS_rng (by decide) (by decide) hq_cc).2)] at W127
          have V127 : Arv Z h127 o112 k112 .char (5 : Int32) ((outL bS 5 q cc).map Value.int) (.int 0) := outL_push bS 4 q cc ▸ own_push V124 W127 (by rw [List.length_map, outL_len]; decide) (fits_c (atV_rng bS_rng (by decide) (by decide) hq_cc).1 (le255 (atV_rng bS_rng (by decide) (by decide) hq_cc).2))
          have N127 := Fr.snoc X127 N125 fr112
          have J127 := J125.wr W127 (List.mem_cons_self ..)
          have B127 := B125.mono (Nat.le_of_eq W127.size.symm)
          have O127 := O124.wr W127 (Nat.le_trans (own_ole O0) fr112)
          have K127 := K124.wr W127 (Or.inr sz112)
          refine Go.of (fun _ hr => st127 _ hr) ?_
          show Go p e s below _ _ _ _ T127 (mkF m 310 (LA9 p1 p2 p3 p4 rp mp q cc o104 o112) [])
          refine Go.of (fun _ hr => XS.iload X127.here hx rfl (hb hby at_310) rfl  hr) ?_
          show Go p e s below _ _ _ _ T127 (mkF m 312 (LA9 p1 p2 p3 p4 rp mp q cc o104 o112) [(.int (5 : Int32))])
          refine Go.of (fun _ hr => XS.iconst X127.here hx rfl (hb hby at_312) hr) ?_
          show Go p e s below _ _ _ _ T127 (mkF m 313 (LA9 p1 p2 p3 p4 rp mp q cc o104 o112) [(.int (5 : Int32)), (.int (5 : Int32))])
          refine Go.of (fun _ hr => XS.icmpYes X127.here hx rfl (pc0 := 313) (pc' := 330) rfl (hb hby at_313) rfl (flt (by decide : ¬ ((5 : Int32) < (5 : Int32)))).2.2.2 (by decide) (by decide) hr) ?_
          show Go p e s below _ _ _ _ T127 (mkF m 330 (LA9 p1 p2 p3 p4 rp mp q cc o104 o112) [])
          refine Go.of (fun _ hr => XS.iload X127.here hx rfl (hb hby at_330) rfl  hr) ?_
          show Go p e s below _ _ _ _ T127 (mkF m 332 (LA9 p1 p2 p3 p4 rp mp q cc o104 o112) [(.int (5 : Int32))])
          refine Go.of (fun _ hr => XS.bipush X127.here hx rfl (hb hby at_332) hr) ?_
          show Go p e s below _ _ _ _ T127 (mkF m 334 (LA9 p1 p2 p3 p4 rp mp q cc o104 o112) [(.int (6 : Int32)), (.int (5 : Int32))])
          refine Go.of (fun _ hr => XS.icmpYes X127.here hx rfl (pc0 := 334) (pc' := 353) rfl (hb hby at_334) rfl (flt (by decide : ¬ ((6 : Int32) < (5 : Int32)))).2.2.2 (by decide) (by decide) hr) ?_
          show Go p e s below _ _ _ _ T127 (mkF m 353 (LA9 p1 p2 p3 p4 rp mp q cc o104 o112) [])
          refine Go.of (fun _ hr => XS.iload X127.here hx rfl (hb hby at_353) rfl  hr) ?_
          show Go p e s below _ _ _ _ T127 (mkF m 355 (LA9 p1 p2 p3 p4 rp mp q cc o104 o112) [(.int (5 : Int32))])
          refine Go.of (fun _ hr => XS.bipush X127.here hx rfl (hb hby at_355) hr) ?_
          show Go p e s below _ _ _ _ T127 (mkF m 357 (LA9 p1 p2 p3 p4 rp mp q cc o104 o112) [(.int (7 : Int32)), (.int (5 : Int32))])
          refine Go.of (fun _ hr => XS.icmpYes X127.here hx rfl (pc0 := 357) (pc' := 376) rfl (hb hby at_357) rfl (flt (by decide : ¬ ((7 : Int32) < (5 : Int32)))).2.2.2 (by decide) (by decide) hr) ?_
          show Go p e s below _ _ _ _ T127 (mkF m 376 (LA9 p1 p2 p3 p4 rp mp q cc o104 o112) [])
          refine Go.of (fun _ hr => XS.iload X127.here hx rfl (hb hby at_376) rfl  hr) ?_
          show Go p e s below _ _ _ _ T127 (mkF m 378 (LA9 p1 p2 p3 p4 rp mp q cc o104 o112) [(.int (5 : Int32))])
          refine Go.of (fun _ hr => XS.bipush X127.here hx rfl (hb hby at_378) hr) ?_
          show Go p e s below _ _ _ _ T127 (mkF m 380 (LA9 p1 p2 p3 p4 rp mp q cc o104 o112) [(.int (8 : Int32)), (.int (5 : Int32))])
          refine Go.of (fun _ hr => XS.icmpYes X127.here hx rfl (pc0 := 380) (pc' := 399) rfl (hb hby at_380) rfl (flt (by decide : ¬ ((8 : Int32) < (5 : Int32)))).2.2.2 (by decide) (by decide) hr) ?_
          show Go p e s below _ _ _ _ T127 (mkF m 399 (LA9 p1 p2 p3 p4 rp mp q cc o104 o112) [])
          refine Go.of (fun _ hr => XS.iload X127.here hx rfl (hb hby at_399) rfl  hr) ?_
          show Go p e s below _ _ _ _ T127 (mkF m 401 (LA9 p1 p2 p3 p4 rp mp q cc o104 o112) [(.int (5 : Int32))])
          refine Go.of (fun _ hr => XS.bipush X127.here hx rfl (hb hby at_401) hr) ?_
          show Go p e s below _ _ _ _ T127 (mkF m 403 (LA9 p1 p2 p3 p4 rp mp q cc o104 o112) [(.int (9 : Int32)), (.int (5 : Int32))])
          refine Go.of (fun _ hr => XS.icmpYes X127.here hx rfl (pc0 := 403) (pc' := 422) rfl (hb hby at_403) rfl (flt (by decide : ¬ ((9 : Int32) < (5 : Int32)))).2.2.2 (by decide) (by decide) hr) ?_
          show Go p e s below _ _ _ _ T127 (mkF m 422 (LA9 p1 p2 p3 p4 rp mp q cc o104 o112) [])
          refine Go.of (fun _ hr => XS.iload X127.here hx rfl (hb hby at_422) rfl  hr) ?_
          show Go p e s below _ _ _ _ T127 (mkF m 424 (LA9 p1 p2 p3 p4 rp mp q cc o104 o112) [(.int (5 : Int32))])
          refine Go.of (fun _ hr => XS.bipush X127.here hx rfl (hb hby at_424) hr) ?_
          show Go p e s below _ _ _ _ T127 (mkF m 426 (LA9 p1 p2 p3 p4 rp mp q cc o104 o112) [(.int (10 : Int32)), (.int (5 : Int32))])
          refine Go.of (fun _ hr => XS.icmpYes X127.here hx rfl (pc0 := 426) (pc' := 445) rfl (hb hby at_426) rfl (flt (by decide : ¬ ((10 : Int32) < (5 : Int32)))).2.2.2 (by decide) (by decide) hr) ?_
          show Go p e s below _ _ _ _ T127 (mkF m 445 (LA9 p1 p2 p3 p4 rp mp q cc o104 o112) [])
          refine Go.of (fun _ hr => XS.iload X127.here hx rfl (hb hby at_445) rfl  hr) ?_
          show Go p e s below _ _ _ _ T127 (mkF m 447 (LA9 p1 p2 p3 p4 rp mp q cc o104 o112) [(.int (5 : Int32))])
          refine Go.of (fun _ hr => XS.bipush X127.here hx rfl (hb hby at_447) hr) ?_
          show Go p e s below _ _ _ _ T127 (mkF m 449 (LA9 p1 p2 p3 p4 rp mp q cc o104 o112) [(.int (11 : Int32)), (.int (5 : Int32))])
          refine Go.of (fun _ hr => XS.icmpYes X127.here hx rfl (pc0 := 449) (pc' := 468) rfl (hb hby at_449) rfl (flt (by decide : ¬ ((11 : Int32) < (5 : Int32)))).2.2.2 (by decide) (by decide) hr) ?_
          show Go p e s below _ _ _ _ T127 (mkF m 468 (LA9 p1 p2 p3 p4 rp mp q cc o104 o112) [])
          refine Go.of (fun _ hr => XS.iload X127.here hx rfl (hb hby at_468) rfl  hr) ?_
          show Go p e s below _ _ _ _ T127 (mkF m 470 (LA9 p1 p2 p3 p4 rp mp q cc o104 o112) [(.int (5 : Int32))])
          refine Go.of (fun _ hr => XS.bipush X127.here hx rfl (hb hby at_470) hr) ?_
          show Go p e s below _ _ _ _ T127 (mkF m 472 (LA9 p1 p2 p3 p4 rp mp q cc o104 o112) [(.int (12 : Int32)), (.int (5 : Int32))])
          refine Go.of (fun _ hr => XS.icmpYes X127.here hx rfl (pc0 := 472) (pc' := 491) rfl (hb hby at_472) rfl (flt (by decide : ¬ ((12 : Int32) < (5 : Int32)))).2.2.2 (by decide) (by decide) hr) ?_
          show Go p e s below _ _ _ _ T127 (mkF m 491 (LA9 p1 p2 p3 p4 rp mp q cc o104 o112) [])
          refine Go.of (fun _ hr => XS.iload X127.here hx rfl (hb hby at_491) rfl  hr) ?_
          show Go p e s below _ _ _ _ T127 (mkF m 493 (LA9 p1 p2 p3 p4 rp mp q cc o104 o112) [(.int (5 : Int32))])
          refine Go.of (fun _ hr => XS.bipush X127.here hx rfl (hb hby at_493) hr) ?_
          show Go p e s below _ _ _ _ T127 (mkF m 495 (LA9 p1 p2 p3 p4 rp mp q cc o104 o112) [(.int (13 : Int32)), (.int (5 : Int32))])
          refine Go.of (fun _ hr => XS.icmpYes X127.here hx rfl (pc0 := 495) (pc' := 514) rfl (hb hby at_495) rfl (flt (by decide : ¬ ((13 : Int32) < (5 : Int32)))).2.2.2 (by decide) (by decide) hr) ?_
          show Go p e s below _ _ _ _ T127 (mkF m 514 (LA9 p1 p2 p3 p4 rp mp q cc o104 o112) [])
          refine Go.of (fun _ hr => XS.iload X127.here hx rfl (hb hby at_514) rfl  hr) ?_
          show Go p e s below _ _ _ _ T127 (mkF m 516 (LA9 p1 p2 p3 p4 rp mp q cc o104 o112) [(.int (5 : Int32))])
          refine Go.of (fun _ hr => XS.bipush X127.here hx rfl (hb hby at_516) hr) ?_
          show Go p e s below _ _ _ _ T127 (mkF m 518 (LA9 p1 p2 p3 p4 rp mp q cc o104 o112) [(.int (14 : Int32)), (.int (5 : Int32))])
          refine Go.of (fun _ hr => XS.icmpYes X127.here hx rfl (pc0 := 518) (pc' := 537) rfl (hb hby at_518) rfl (flt (by decide : ¬ ((14 : Int32) < (5 : Int32)))).2.2.2 (by decide) (by decide) hr) ?_
          show Go p e s below _ _ _ _ T127 (mkF m 537 (LA9 p1 p2 p3 p4 rp mp q cc o104 o112) [])
          refine Go.of (fun _ hr => XS.iload X127.here hx rfl (hb hby at_537) rfl  hr) ?_
          show Go p e s below _ _ _ _ T127 (mkF m 539 (LA9 p1 p2 p3 p4 rp mp q cc o104 o112) [(.int (5 : Int32))])
          refine Go.of (fun _ hr => XS.bipush X127.here hx rfl (hb hby at_539) hr) ?_
          show Go p e s below _ _ _ _ T127 (mkF m 541 (LA9 p1 p2 p3 p4 rp mp q cc o104 o112) [(.int (15 : Int32)), (.int (5 : Int32))])
          refine Go.of (fun _ hr => XS.icmpYes X127.here hx rfl (pc0 := 541) (pc' := 560) rfl (hb hby at_541) rfl (flt (by decide : ¬ ((15 : Int32) < (5 : Int32)))).2.2.2 (by decide) (by decide) hr) ?_
          show Go p e s below _ _ _ _ T127 (mkF m 560 (LA9 p1 p2 p3 p4 rp mp q cc o104 o112) [])
          obtain ⟨T128, h128, X128, e128, E128, A128, D128, -, st128⟩ := newO X127 hx hZ hown (hw _ (List.mem_of_getElem? (i := 6) rfl)) (hw _ (List.mem_of_getElem? (i := 7) rfl)) (hw _ (List.mem_of_getElem? (i := 8) rfl)) e127 (g := (mkF m 560 (LA9 p1 p2 p3 p4 rp mp q cc o104 o112) [])) rfl (hb hby at_560) (by decide) (by decide)
          obtain ⟨o128, g128⟩ : ∃ z, z = h127.size := ⟨_, rfl⟩
          rw [← g128] at A128 D128 st128
          have f129 := (f126.other W127 ne_o104_o112)
          have ne_o104_o128 : o104 ≠ o128 := Nat.ne_of_lt (Nat.lt_of_lt_of_le f129.lt (Nat.le_of_eq g128.symm))
          have ne_o112_o128 : o112 ≠ o128 := Nat.ne_of_lt (Nat.lt_of_lt_of_le V127.lt (Nat.le_of_eq g128.symm))
          have lt128 : o128 < h128.size := A128.lt
          have J128 := J127.add E128 g128 lt128
          have B128 := B127.mono E128.1
          have O128 := O127.ext E128
          have sz128 : h0.size ≤ o128 := Nat.le_trans K127.1 (Nat.le_of_eq g128.symm)
          have fr128 : h0.size ≤ o128 := sz128
          have K128 := K127.ext E128
          have F128_coder : Fld Z h128 o128 "java/lang/String" "coder" "B" (.int (0 : Int32)) := D128 (Or.inr (hw _ (List.mem_of_getElem? (i := 32) rfl))) (ty := .byte) (by decide)
          have F128_value : Fld Z h128 o128 "java/lang/String" "value" "[B" .null := D128 (Or.inr (hw _ (List.mem_of_getElem? (i := 34) rfl))) (ty := (.array .byte)) (by decide)
          refine Go.of (fun _ hr => st128 _ hr) ?_
          show Go p e s below _ _ _ _ T128 (mkF m 563 (LA9 p1 p2 p3 p4 rp mp q cc o104 o112) [(.ref o128)])
          refine Go.of (fun _ hr => XS.dup X128.here hx rfl (hb hby at_563) rfl rfl hr) ?_
          show Go p e s below _ _ _ _ T128 (mkF m 564 (LA9 p1 p2 p3 p4 rp mp q cc o104 o112) [(.ref o128), (.ref o128)])
          refine Go.of (fun _ hr => XS.aload X128.here hx rfl (hb hby at_564) rfl rfl hr) ?_
          show Go p e s below _ _ _ _ T128 (mkF m 566 (LA9 p1 p2 p3 p4 rp mp q cc o104 o112) [(.ref o112), (.ref o128), (.ref o128)])
          have f131 := (V127.ext E128)
          obtain ⟨_, b130, T130, h130, L130, e130, Cc130, X130, B130, J130, g130, hQ130, st130⟩ := own_callI Cc125 B128 J128 X128 rfl (hw _ (List.mem_of_getElem? (i := 9) rfl)) (hw _ (List.mem_of_getElem? (i := 10) rfl)) (hw _ (List.mem_of_getElem? (i := 8) rfl)) (hw _ (List.mem_of_getElem? (i := 11) rfl)) (by decide) (rm2 l Z a0 hw [] o128 o112 _ (outL bS 5 q cc) _ _ zc _ h128 n0 O128 h0.size (own_ole O0) K128.1 fr128 (List.mem_cons_self ..) (by rw [outL_len]; decide) (outL_rng bS_rng (by decide) (by decide) hq_cc) (by rw [outL_len]; decide) f131 ne_o112_o128 A128 F128_value F128_coder S_C hzc) e128 (g := (mkF m 566 (LA9 p1 p2 p3 p4 rp mp q cc o104 o112) [(.ref o112), (.ref o128), (.ref o128)])) rfl (by rw [hml]; rfl) (argsL := [(.ref o112)]) (rest := [(.ref o128)]) (lenOf pd8 rfl) rfl (W := 1) (by show 2 * 0 + _ ≤ _; exact Nat.le_of_eq rfl) (hb hby at_566) (by decide) (by decide) (by decide) (by decide)
          obtain ⟨rfl, Nq130, Kq130, t130, kt130, nt130, Fv130, Fc130, Vt130⟩ := hQ130
          have N130 := Fr.app N127 Nq130
          obtain ⟨hx, hZ, hown, hby, hml, hnm, hret, hlk⟩ := id Cc130
          have K130 := K128.trans Kq130 (allS (Or.inr sz128) all0)
          have O130 := O128.keep Kq130 (allS (Nat.le_trans (own_ole O0) fr128) all0)
          refine Go.of st130 ?_
          have nx_t130_o128 : t130 ≠ o128 := fun q => nt130 (by rw [q]; exact (List.mem_cons_self ..))
          have nx_t130_o112 : t130 ≠ o112 := fun q => nt130 (by rw [q]; exact (List.mem_cons_of_mem _ (List.mem_cons_self ..)))
          have nx_t130_o104 : t130 ≠ o104 := fun q => nt130 (by rw [q]; exact (List.mem_cons_of_mem _ (List.mem_cons_of_mem _ (List.mem_cons_self ..))))
          show Go p e s below _ _ _ _ T130 (mkF m 569 (LA9 p1 p2 p3 p4 rp mp q cc o104 o112) [(.ref o128)])
          refine Go.of (fun _ hr => XS.astore X130.here hx rfl (hb hby at_569) rfl rfl (l' := (LA10 p1 p2 p3 p4 rp mp q cc o104 o112 o128)) rfl hr) ?_
          show Go p e s below _ _ _ _ T130 (mkF m 571 (LA10 p1 p2 p3 p4 rp mp q cc o104 o112 o128) [])
          obtain ⟨T132, h132, X132, e132, E132, A132, D132, -, st132⟩ := newO X130 hx hZ hown (hw _ (List.mem_of_getElem? (i := 35) rfl)) (hw _ (List.mem_of_getElem? (i := 36) rfl)) (hw _ (List.mem_of_getElem? (i := 37) rfl)) e130 (g := (mkF m 571 (LA10 p1 p2 p3 p4 rp mp q cc o104 o112 o128) [])) rfl (hb hby at_571) (by decide) (by decide)
          obtain ⟨o132, g132⟩ : ∃ z, z = h130.size := ⟨_, rfl⟩
          rw [← g132] at A132 D132 st132
          have f133 := ((f129.ext E128).keep Kq130 (ninS ne_o104_o128 nin0))
          have ne_o104_o132 : o104 ≠ o132 := Nat.ne_of_lt (Nat.lt_of_lt_of_le f133.lt (Nat.le_of_eq g132.symm))
          have f134 := (f131.keep Kq130 (ninS ne_o112_o128 nin0))
          have ne_o112_o132 : o112 ≠ o132 := Nat.ne_of_lt (Nat.lt_of_lt_of_le f134.lt (Nat.le_of_eq g132.symm))
          have f135 := (A128.keep Kq130)
          have ne_o128_o132 : o128 ≠ o132 := Nat.ne_of_lt (Nat.lt_of_lt_of_le f135.lt (Nat.le_of_eq g132.symm))
          have ne_t130_o132 : t130 ≠ o132 := Nat.ne_of_lt (Nat.lt_of_lt_of_le Vt130.lt (Nat.le_of_eq g132.symm))
          have lt132 : o132 < h132.size := A132.lt
          have J132 := J130.add E132 g132 lt132
          have B132 := B130.mono E132.1
          have O132 := O130.ext E132
          have sz132 : h0.size ≤ o132 := Nat.le_trans K130.1 (Nat.le_of_eq g132.symm)
          have fr132 : h0.size ≤ o132 := sz132
          have K132 := K130.ext E132
          have F132_name : Fld Z h132 o132 "com/example/mthd/mthd/model/ApiMessage$Field" "name" "Ljava/lang/String;" .null := D132 (Or.inr (hw _ (List.mem_of_getElem? (i := 51) rfl))) (ty := (.object "java/lang/String")) (by decide)
          have F132_type : Fld Z h132 o132 "com/example/mthd/mthd/model/ApiMessage$Field" "type" "Ljava/lang/String;" .null := D132 (Or.inr (hw _ (List.mem_of_getElem? (i := 53) rfl))) (ty := (.object "java/lang/String")) (by decide)
          have F132_repeated : Fld Z h132 o132 "com/example/mthd/mthd/model/ApiMessage$Field" "repeated" "Z" (.int (0 : Int32)) := D132 (Or.inr (hw _ (List.mem_of_getElem? (i := 55) rfl))) (ty := .boolean) (by decide)
          have F132_map : Fld Z h132 o132 "com/example/mthd/mthd/model/ApiMessage$Field" "map" "Z" (.int (0 : Int32)) := D132 (Or.inr (hw _ (List.mem_of_getElem? (i := 57) rfl))) (ty := .boolean) (by decide)
          have F132_message : Fld Z h132 o132 "com/example/mthd/mthd/model/ApiMessage$Field" "message" "Ljava/util/Optional;" .null := D132 (Or.inr (hw _ (List.mem_of_getElem? (i := 59) rfl))) (ty := (.object "java/util/Optional")) (by decide)
          have F132_resource : Fld Z h132 o132 "com/example/mthd/mthd/model/ApiMessage$Field" "resource" "Ljava/util/Optional;" .null := D132 (Or.inr (hw _ (List.mem_of_getElem? (i := 61) rfl))) (ty := (.object "java/util/Optional")) (by decide)
          refine Go.of (fun _ hr => st132 _ hr) ?_
          show Go p e s below _ _ _ _ T132 (mkF m 574 (LA10 p1 p2 p3 p4 rp mp q cc o104 o112 o128) [(.ref o132)])
          refine Go.of (fun _ hr => XS.dup X132.here hx rfl (hb hby at_574) rfl rfl hr) ?_
          show Go p e s below _ _ _ _ T132 (mkF m 575 (LA10 p1 p2 p3 p4 rp mp q cc o104 o112 o128) [(.ref o132), (.ref o132)])
          obtain ⟨o136, t136, k136, b136, T136, h136, e136, Cc136, X136, B136, J136, E136, Sy136, na136, nt136, lt136, st136⟩ := own_ldcV Cc130 B132 J132 X132 lit0_in lit0_one (hw _ (List.mem_of_getElem? (i := 38) rfl)) (own_wS Z a0 hw) lit0_lat lit0_len (by rw [eb]; exact N130) (by rw [eb]; exact O0.2) e132 (g := (mkF m 575 (LA10 p1 p2 p3 p4 rp mp q cc o104 o112 o128) [(.ref o132), (.ref o132)])) rfl (hb hby at_575) (n := 4) lit0_sz (by decide) (by decide) (by decide)
          obtain ⟨hx, hZ, hown, hby, hml, hnm, hret, hlk⟩ := id Cc136
          have K136 := K132.ext E136
          have O136 := O132.ext E136
          have nx_o136_o132 : o136 ≠ o132 := fun q => na136 (by rw [q]; exact (List.mem_cons_self ..))
          have nx_o136_o128 : o136 ≠ o128 := fun q => na136 (by rw [q]; exact (List.mem_cons_of_mem _ (List.mem_cons_self ..)))
          have nx_o136_o112 : o136 ≠ o112 := fun q => na136 (by rw [q]; exact (List.mem_cons_of_mem _ (List.mem_cons_of_mem _ (List.mem_cons_self ..))))
          have nx_o136_o104 : o136 ≠ o104 := fun q => na136 (by rw [q]; exact (List.mem_cons_of_mem _ (List.mem_cons_of_mem _ (List.mem_cons_of_mem _ (List.mem_cons_self ..)))))
          have nx_t136_o132 : t136 ≠ o132 := fun q => nt136 (by rw [q]; exact (List.mem_cons_self ..))
          have nx_t136_o128 : t136 ≠ o128 := fun q => nt136 (by rw [q]; exact (List.mem_cons_of_mem _ (List.mem_cons_self ..)))
          have nx_t136_o112 : t136 ≠ o112 := fun q => nt136 (by rw [q]; exact (List.mem_cons_of_mem _ (List.mem_cons_of_mem _ (List.mem_cons_self ..))))
          have nx_t136_o104 : t136 ≠ o104 := fun q => nt136 (by rw [q]; exact (List.mem_cons_of_mem _ (List.mem_cons_of_mem _ (List.mem_cons_of_mem _ (List.mem_cons_self ..)))))
          refine Go.of (fun _ hr => st136 _ hr) ?_
          show Go p e s below _ _ _ _ T136 (mkF m 577 (LA10 p1 p2 p3 p4 rp mp q cc o104 o112 o128) [(.ref o136), (.ref o132), (.ref o132)])
          refine Go.of (fun _ hr => XS.aload X136.here hx rfl (hb hby at_577) rfl rfl hr) ?_
          show Go p e s below _ _ _ _ T136 (mkF m 579 (LA10 p1 p2 p3 p4 rp mp q cc o104 o112 o128) [(.ref o128), (.ref o136), (.ref o132), (.ref o132)])
          refine Go.of (fun _ hr => XS.iload X136.here hx rfl (hb hby at_579) rfl  hr) ?_
          show Go p e s below _ _ _ _ T136 (mkF m 581 (LA10 p1 p2 p3 p4 rp mp q cc o104 o112 o128) [(.int rp), (.ref o128), (.ref o136), (.ref o132), (.ref o132)])
          refine Go.of (fun _ hr => XS.iload X136.here hx rfl (hb hby at_581) rfl  hr) ?_
          show Go p e s below _ _ _ _ T136 (mkF m 583 (LA10 p1 p2 p3 p4 rp mp q cc o104 o112 o128) [(.int mp), (.int rp), (.ref o128), (.ref o136), (.ref o132), (.ref o132)])
          refine Go.of (fun _ hr => XS.aconstNull X136.here hx rfl (hb hby at_583) hr) ?_
          show Go p e s below _ _ _ _ T136 (mkF m 584 (LA10 p1 p2 p3 p4 rp mp q cc o104 o112 o128) [.null, (.int mp), (.int rp), (.ref o128), (.ref o136), (.ref o132), (.ref o132)])
          refine Go.of (fun _ hr => XS.aconstNull X136.here hx rfl (hb hby at_584) hr) ?_
          show Go p e s below _ _ _ _ T136 (mkF m 585 (LA10 p1 p2 p3 p4 rp mp q cc o104 o112 o128) [.null, .null, (.int mp), (.int rp), (.ref o128), (.ref o136), (.ref o132), (.ref o132)])
          have f138 := (A132.ext E136)
          have f139 := (F132_name.ext E136)
          have f140 := (F132_type.ext E136)
          have f141 := (F132_repeated.ext E136)
          have f142 := (F132_map.ext E136)
          have f143 := (F132_message.ext E136)
          have f144 := (F132_resource.ext E136)
          obtain ⟨_, b137, T137, h137, L137, e137, Cc137, X137, B137, J137, g137, hQ137, st137⟩ := own_callI Cc136 B136 J136 X136 rfl (hw _ (List.mem_of_getElem? (i := 41) rfl)) (hw _ (List.mem_of_getElem? (i := 42) rfl)) (hw _ (List.mem_of_getElem? (i := 37) rfl)) (hw _ (List.mem_of_getElem? (i := 43) rfl)) (by decide) (rm8 l Z a0 hw [] o132 _ o136 _ o128 _ rp _ mp _ _ _ h136 n0 O136 h0.size (own_ole O0) K136.1 fr132 (List.mem_cons_self ..) f138 f139 f140 f141 hz_rp f142 hz_mp f143 f144) e136 (g := (mkF m 585 (LA10 p1 p2 p3 p4 rp mp q cc o104 o112 o128) [.null, .null, (.int mp), (.int rp), (.ref o128), (.ref o136), (.ref o132), (.ref o132)])) rfl (by rw [hml]; rfl) (argsL := [(.ref o136), (.ref o128), (.int rp), (.int mp), .null, .null]) (rest := [(.ref o132)]) (lenOf pd9 rfl) rfl (W := 1) (by show 2 * 0 + _ ≤ _; exact Nat.le_of_eq rfl) (hb hby at_585) (by decide) (by decide) (by decide) (by decide)
          obtain ⟨rfl, Nq137, Kq137, Fs0_137, Fs1_137, Fs2_137, Fs3_137, Fs4_137, Fs5_137⟩ := hQ137
          have N137 := Fr.app N130 Nq137
          obtain ⟨hx, hZ, hown, hby, hml, hnm, hret, hlk⟩ := id Cc137
          have K137 := K136.trans Kq137 (allS (Or.inr sz132) all0)
          have O137 := O136.keep Kq137 (allS (Nat.le_trans (own_ole O0) fr132) all0)
          refine Go.of st137 ?_
          show Go p e s below _ _ _ _ T137 (mkF m 588 (LA10 p1 p2 p3 p4 rp mp q cc o104 o112 o128) [(.ref o132)])
          refine Go.of (fun _ hr => XS.astore X137.here hx rfl (hb hby at_588) rfl rfl (l' := #[.val (.int p1), .val (.int p2), .val (.int p3), .val (.int p4), .val (.int rp), .val (.int mp), .val (.int (0 : Int32)), .val (.int (-1 : Int32)), .val (.int q), .val (.int cc), .val (.ref o104), .val (.int (5 : Int32)), .val (.ref o112), .val (.ref o128), .val (.ref o132), .unset, .unset]) rfl hr) ?_
          show Go p e s below _ _ _ _ T137 (mkF m 590 #[.val (.int p1), .val (.int p2), .val (.int p3), .val (.int p4), .val (.int rp), .val (.int mp), .val (.int (0 : Int32)), .val (.int (-1 : Int32)), .val (.int q), .val (.int cc), .val (.ref o104), .val (.int (5 : Int32)), .val (.ref o112), .val (.ref o128), .val (.ref o132), .unset, .unset] [])
          have f145 := (f138.keep Kq137)
          have f146 := (((f135.ext E132).ext E136).keep Kq137)
          have f147 := (((Fv130.ext E132).ext E136).keep Kq137 (ninS ne_o128_o132 nin0))
          have f148 := (((Fc130.ext E132).ext E136).keep Kq137 (ninS ne_o128_o132 nin0))
          have f149 := (((Vt130.ext E132).ext E136).keep Kq137 (ninS ne_t130_o132 nin0))
          have f150 := (((f133.ext E132).ext E136).keep Kq137 (ninS ne_o104_o132 nin0))
          exact law_tail l Z a0 hw (by decide) (by decide) p1 p2 p3 p4 rp mp (0 : Int32) (-1 : Int32) q cc o104 (5 : Int32) o112 o128 o132 t130 _ _ bS (outL bS 5 q cc) zc h137 n0 O137 nb hb0 (Nat.le_trans hnb K137.1) f145 Fs1_137 Fs2_137 f146 f147 f148 f149 f150 hq_q.1 (by rw [outL_len]; decide) (fin_N6 (fin_N (by decide +kernel) (by decide +kernel)) (by decide)) S_C hzc Cc137 X137 e137 (fun y hy => Nat.le_trans hnb (N137 y hy)) (J137.sub (own_sub1 (List.mem_cons_of_mem _ (List.mem_cons_self ..)) (fun x hx => (List.mem_cons_of_mem _ (List.mem_cons_of_mem _ (List.mem_cons_of_mem _ (List.mem_cons_of_mem _ hx))))))) B137
        · rw [hd]
          show Go p e s below _ _ _ _ s₁ (mkF m 46 (LA3 p1 p2 p3 p4 rp mp) [(.int (0 : Int32))])
          refine Go.of (fun _ hr => XS.istore X0.here hx rfl (hb hby at_46) rfl (l' := (LA11 p1 p2 p3 p4 rp mp)) rfl hr) ?_
          show Go p e s below _ _ _ _ s₁ (mkF m 48 (LA11 p1 p2 p3 p4 rp mp) [])
          refine Go.of (fun _ hr => XS.iloadN X0.here hx rfl (hb hby at_48) rfl  hr) ?_
          show Go p e s below _ _ _ _ s₁ (mkF m 49 (LA11 p1 p2 p3 p4 rp mp) [(.int p2)])
          refine Go.of (fun _ hr => X0.ldcInt hx hown (mvT hZ (hw _ (List.mem_of_getElem? (i := 0) rfl))) (g := (mkF m 49 (LA11 p1 p2 p3 p4 rp mp) [(.int p2)])) rfl (hb hby at_49) _ hr) ?_
          show Go p e s below _ _ _ _ s₁ (mkF m 51 (LA11 p1 p2 p3 p4 rp mp) [(.int (2147483647 : Int32)), (.int p2)])
          refine Go.of (fun _ hr => XS.iand X0.here hx rfl (hb hby at_51) rfl hr) ?_
          show Go p e s below _ _ _ _ s₁ (mkF m 52 (LA11 p1 p2 p3 p4 rp mp) [(.int (p2 &&& (2147483647 : Int32)))])
          refine Go.of (fun _ hr => XS.bipush X0.here hx rfl (hb hby at_52) hr) ?_
          show Go p e s below _ _ _ _ s₁ (mkF m 54 (LA11 p1 p2 p3 p4 rp mp) [(.int (16 : Int32)), (.int (p2 &&& (2147483647 : Int32)))])
          refine Go.of (fun _ hr => iremM X0 hx rfl (hb hby at_54) rfl (by decide) hr) ?_
          show Go p e s below _ _ _ _ s₁ (mkF m 55 (LA11 p1 p2 p3 p4 rp mp) [(.int ((p2 &&& (2147483647 : Int32)) % (16 : Int32)))])
          have hq_q := rem16 p2
          generalize ((p2 &&& (2147483647 : Int32)) % (16 : Int32)) = q at hq_q ⊢
          show Go p e s below _ _ _ _ s₁ (mkF m 55 (LA11 p1 p2 p3 p4 rp mp) [(.int q)])
          refine Go.of (fun _ hr => XS.istore X0.here hx rfl (hb hby at_55) rfl (l' := (LA12 p1 p2 p3 p4 rp mp q)) rfl hr) ?_
          show Go p e s below _ _ _ _ s₁ (mkF m 57 (LA12 p1 p2 p3 p4 rp mp q) [])
          refine Go.of (fun _ hr => XS.iloadN X0.here hx rfl (hb hby at_57) rfl  hr) ?_
          show Go p e s below _ _ _ _ s₁ (mkF m 58 (LA12 p1 p2 p3 p4 rp mp q) [(.int p3)])
          refine Go.of (fun _ hr => XS.sipush X0.here hx rfl (hb hby at_58) hr) ?_
          show Go p e s below _ _ _ _ s₁ (mkF m 61 (LA12 p1 p2 p3 p4 rp mp q) [(.int (255 : Int32)), (.int p3)])
          refine Go.of (fun _ hr => XS.iand X0.here hx rfl (hb hby at_61) rfl hr) ?_
          show Go p e s below _ _ _ _ s₁ (mkF m 62 (LA12 p1 p2 p3 p4 rp mp q) [(.int (p3 &&& (255 : Int32)))])
          refine Go.of (fun _ hr => XS.i2c X0.here hx rfl (hb hby at_62) rfl hr) ?_
          show Go p e s below _ _ _ _ s₁ (mkF m 63 (LA12 p1 p2 p3 p4 rp mp q) [(.int ((p3 &&& (255 : Int32)).toUInt32.toUInt16.toUInt32.toInt32))])
          have hq_cc := chr8 p3
          generalize ((p3 &&& (255 : Int32)).toUInt32.toUInt16.toUInt32.toInt32) = cc at hq_cc ⊢
          show Go p e s below _ _ _ _ s₁ (mkF m 63 (LA12 p1 p2 p3 p4 rp mp q) [(.int cc)])
          refine Go.of (fun _ hr => XS.istore X0.here hx rfl (hb hby at_63) rfl (l' := (LA13 p1 p2 p3 p4 rp mp q cc)) rfl hr) ?_
          show Go p e s below _ _ _ _ s₁ (mkF m 65 (LA13 p1 p2 p3 p4 rp mp q cc) [])
          refine Go.of (fun _ hr => XS.iload X0.here hx rfl (hb hby at_65) rfl  hr) ?_
          show Go p e s below _ _ _ _ s₁ (mkF m 67 (LA13 p1 p2 p3 p4 rp mp q cc) [(.int (0 : Int32))])
          refine Go.of (fun _ hr => XS.ifYes X0.here hx rfl (pc0 := 67) (pc' := 161) rfl (hb hby at_67) rfl ((if0 _ _).trans (teq (by decide : ((0 : Int32) = (0 : Int32)))).1) (by decide) (by decide) hr) ?_
          show Go p e s below _ _ _ _ s₁ (mkF m 161 (LA13 p1 p2 p3 p4 rp mp q cc) [])
          refine Go.of (fun _ hr => XS.bipush X0.here hx rfl (hb hby at_161) hr) ?_
          show Go p e s below _ _ _ _ s₁ (mkF m 163 (LA13 p1 p2 p3 p4 rp mp q cc) [(.int (6 : Int32))])
          obtain ⟨T151, h151, k151, X151, e151, E151, A151, st151⟩ := newP X0 hx hZ (hw _ (List.mem_of_getElem? (i := 1) rfl)) e0 (g := (mkF m 163 (LA13 p1 p2 p3 p4 rp mp q cc) [(.int (6 : Int32))])) rfl (hb hby at_163) rfl (by decide) (cap := 6) (by decide) (by decide) (by decide) (by decide)
          obtain ⟨o151, g151⟩ : ∃ z, z = h0.size := ⟨_, rfl⟩
          rw [← g151] at A151 st151
          have V151 : Arv Z h151 o151 k151 .char (6 : Int32) [(.int (0 : Int32)), (.int (0 : Int32)), (.int (0 : Int32)), (.int (0 : Int32)), (.int (0 : Int32)), (.int (0 : Int32))] (.int (0 : Int32)) := (Arv.new A151 (by decide)).pad (pad_rep [] (.int (0 : Int32)) 6)
          have lt151 : o151 < h151.size := A151.lt
          have J151 := J0.add E151 g151 lt151
          have B151 := B0.mono E151.1
          have O151 := O0.ext E151
          have sz151 : h0.size ≤ o151 := Nat.le_trans K0.1 (Nat.le_of_eq g151.symm)
          have fr151 : h0.size ≤ o151 := sz151
          have K151 := K0.ext E151
          refine Go.of (fun _ hr => st151 _ hr) ?_
          show Go p e s below _ _ _ _ T151 (mkF m 165 (LA13 p1 p2 p3 p4 rp mp q cc) [(.ref o151)])
          refine Go.of (fun _ hr => XS.dup X151.here hx rfl (hb hby at_165) rfl rfl hr) ?_
          show Go p e s below _ _ _ _ T151 (mkF m 166 (LA13 p1 p2 p3 p4 rp mp q cc) [(.ref o151), (.ref o151)])
          refine Go.of (fun _ hr => XS.iconst X151.here hx rfl (hb hby at_166) hr) ?_
          show Go p e s below _ _ _ _ T151 (mkF m 167 (LA13 p1 p2 p3 p4 rp mp q cc) [(.int (0 : Int32)), (.ref o151), (.ref o151)])
          refine Go.of (fun _ hr => XS.bipush X151.here hx rfl (hb hby at_167) hr) ?_
          show Go p e s below _ _ _ _ T151 (mkF m 169 (LA13 p1 p2 p3 p4 rp mp q cc) [(.int (115 : Int32)), (.int (0 : Int32)), (.ref o151), (.ref o151)])
          obtain ⟨cl152, Ar152, q152, S152, N152_, H152, G152⟩ := id V151
          have hin152 : ¬ ((0 : Int32) < 0 ∨ cl152.slots.size ≤ ((0 : Int32)).toNatClampNeg) := inb_of S152 ⟨by decide, by decide⟩
          obtain ⟨T152, h152, X152, e152, W152, st152⟩ := stC X151 hx hZ e151 Ar152 (j := (0 : Int32)) hin152 (g := (mkF m 169 (LA13 p1 p2 p3 p4 rp mp q cc) [(.int (115 : Int32)), (.int (0 : Int32)), (.ref o151), (.ref o151)])) rfl rfl (hb hby at_169)
          have W152' := W152
          rw [show nar .char (115 : Int32) = (115 : Int32) from rfl] at W152'
          have V152 : Arv Z h152 o151 k151 .char (6 : Int32) [(.int (115 : Int32)), (.int (0 : Int32)), (.int (0 : Int32)), (.int (0 : Int32)), (.int (0 : Int32)), (.int (0 : Int32))] (.int (0 : Int32)) := Arv.set Ar152 q152 S152 N152_ H152 G152 rfl W152' 0 rfl (by simp)
          have N152 := Fr.snoc X152 N0 fr151
          have J152 := J151.wr W152 (List.mem_cons_self ..)
          have B152 := B151.mono (Nat.le_of_eq W152.size.symm)
          have O152 := O151.wr W152 (Nat.le_trans (own_ole O0) fr151)
          have K152 := K151.wr W152 (Or.inr sz151)
          refine Go.of (fun _ hr => st152 _ hr) ?_
          show Go p e s below _ _ _ _ T152 (mkF m 170 (LA13 p1 p2 p3 p4 rp mp q cc) [(.ref o151)])
          refine Go.of (fun _ hr => XS.dup X152.here hx rfl (hb hby at_170) rfl rfl hr) ?_
          show Go p e s below _ _ _ _ T152 (mkF m 171 (LA13 p1 p2 p3 p4 rp mp q cc) [(.ref o151), (.ref o151)])
          refine Go.of (fun _ hr => XS.iconst X152.here hx rfl (hb hby at_171) hr) ?_
          show Go p e s below _ _ _ _ T152 (mkF m 172 (LA13 p1 p2 p3 p4 rp mp q cc) [(.int (1 : Int32)), (.ref o151), (.ref o151)])
          refine Go.of (fun _ hr => XS.bipush X152.here hx rfl (hb hby at_172) hr) ?_
          show Go p e s below _ _ _ _ T152 (mkF m 174 (LA13 p1 p2 p3 p4 rp mp q cc) [(.int (116 : Int32)), (.int (1 : Int32)), (.ref o151), (.ref o151)])
          obtain ⟨cl153, Ar153, q153, S153, N153_, H153, G153⟩ := id V152
          have hin153 : ¬ ((1 : Int32) < 0 ∨ cl153.slots.size ≤ ((1 : Int32)).toNatClampNeg) := inb_of S153 ⟨by decide, by decide⟩
          obtain ⟨T153, h153, X153, e153, W153, st153⟩ := stC X152 hx hZ e152 Ar153 (j := (1 : Int32)) hin153 (g := (mkF m 174 (LA13 p1 p2 p3 p4 rp mp q cc) [(.int (116 : Int32)), (.int (1 : Int32)), (.ref o151), (.ref o151)])) rfl rfl (hb hby at_174)
          have W153' := W153
          rw [show nar .char (116 : Int32) = (116 : Int32) from rfl] at W153'
          have V153 : Arv Z h153 o151 k151 .char (6 : Int32) [(.int (115 : Int32)), (.int (116 : Int32)), (.int (0 : Int32)), (.int (0 : Int32)), (.int (0 : Int32)), (.int (0 : Int32))] (.int (0 : Int32)) := Arv.set Ar153 q153 S153 N153_ H153 G153 rfl W153' 1 rfl (by simp)
          have N153 := Fr.snoc X153 N152 fr151
          have J153 := J152.wr W153 (List.mem_cons_self ..)
          have B153 := B152.mono (Nat.le_of_eq W153.size.symm)
          have O153 := O152.wr W153 (Nat.le_trans (own_ole O0) fr151)
          have K153 := K152.wr W153 (Or.inr sz151)
          refine Go.of (fun _ hr => st153 _ hr) ?_
          show Go p e s below _ _ _ _ T153 (mkF m 175 (LA13 p1 p2 p3 p4 rp mp q cc) [(.ref o151)])
          refine Go.of (fun _ hr => XS.dup X153.here hx rfl (hb hby at_175) rfl rfl hr) ?_
          show Go p e s below _ _ _ _ T153 (mkF m 176 (LA13 p1 p2 p3 p4 rp mp q cc) [(.ref o151), (.ref o151)])
          refine Go.of (fun _ hr => XS.iconst X153.here hx rfl (hb hby at_176) hr) ?_
          show Go p e s below _ _ _ _ T153 (mkF m 177 (LA13 p1 p2 p3 p4 rp mp q cc) [(.int (2 : Int32)), (.ref o151), (.ref o151)])
          refine Go.of (fun _ hr => XS.bipush X153.here hx rfl (hb hby at_177) hr) ?_
          show Go p e s below _ _ _ _ T153 (mkF m 179 (LA13 p1 p2 p3 p4 rp mp q cc) [(.int (114 : Int32)), (.int (2 : Int32)), (.ref o151), (.ref o151)])
          obtain ⟨cl154, Ar154, q154, S154, N154_, H154, G154⟩ := id V153
          have hin154 : ¬ ((2 : Int32) < 0 ∨ cl154.slots.size ≤ ((2 : Int32)).toNatClampNeg) := inb_of S154 ⟨by decide, by decide⟩
          obtain ⟨T154, h154, X154, e154, W154, st154⟩ := stC X153 hx hZ e153 Ar154 (j := (2 : Int32)) hin154 (g := (mkF m 179 (LA13 p1 p2 p3 p4 rp mp q cc) [(.int (114 : Int32)), (.int (2 : Int32)), (.ref o151), (.ref o151)])) rfl rfl (hb hby at_179)
          have W154' := W154
          rw [show nar .char (114 : Int32) = (114 : Int32) from rfl] at W154'
          have V154 : Arv Z h154 o151 k151 .char (6 : Int32) [(.int (115 : Int32)), (.int (116 : Int32)), (.int (114 : Int32)), (.int (0 : Int32)), (.int (0 : Int32)), (.int (0 : Int32))] (.int (0 : Int32)) := Arv.set Ar154 q154 S154 N154_ H154 G154 rfl W154' 2 rfl (by simp)
          have N154 := Fr.snoc X154 N153 fr151
          have J154 := J153.wr W154 (List.mem_cons_self ..)
          have B154 := B153.mono (Nat.le_of_eq W154.size.symm)
          have O154 := O153.wr W154 (Nat.le_trans (own_ole O0) fr151)
          have K154 := K153.wr W154 (Or.inr sz151)
          refine Go.of (fun _ hr => st154 _ hr) ?_
          show Go p e s below _ _ _ _ T154 (mkF m 180 (LA13 p1 p2 p3 p4 rp mp q cc) [(.ref o151)])
          refine Go.of (fun _ hr => XS.dup X154.here hx rfl (hb hby at_180) rfl rfl hr) ?_
          show Go p e s below _ _ _ _ T154 (mkF m 181 (LA13 p1 p2 p3 p4 rp mp q cc) [(.ref o151), (.ref o151)])
          refine Go.of (fun _ hr => XS.iconst X154.here hx rfl (hb hby at_181) hr) ?_
          show Go p e s below _ _ _ _ T154 (mkF m 182 (LA13 p1 p2 p3 p4 rp mp q cc) [(.int (3 : Int32)), (.ref o151), (.ref o151)])
          refine Go.of (fun _ hr => XS.bipush X154.here hx rfl (hb hby at_182) hr) ?_
          show Go p e s below _ _ _ _ T154 (mkF m 184 (LA13 p1 p2 p3 p4 rp mp q cc) [(.int (105 : Int32)), (.int (3 : Int32)), (.ref o151), (.ref o151)])
          obtain ⟨cl155, Ar155, q155, S155, N155_, H155, G155⟩ := id V154
          have hin155 : ¬ ((3 : Int32) < 0 ∨ cl155.slots.size ≤ ((3 : Int32)).toNatClampNeg) := inb_of S155 ⟨by decide, by decide⟩
          obtain ⟨T155, h155, X155, e155, W155, st155⟩ := stC X154 hx hZ e154 Ar155 (j := (3 : Int32)) hin155 (g := (mkF m 184 (LA13 p1 p2 p3 p4 rp mp q cc) [(.int (105 : Int32)), (.int (3 : Int32)), (.ref o151), (.ref o151)])) rfl rfl (hb hby at_184)
          have W155' := W155
          rw [show nar .char (105 : Int32) = (105 : Int32) from rfl] at W155'
          have V155 : Arv Z h155 o151 k151 .char (6 : Int32) [(.int (115 : Int32)), (.int (116 : Int32)), (.int (114 : Int32)), (.int (105 : Int32)), (.int (0 : Int32)), (.int (0 : Int32))] (.int (0 : Int32)) := Arv.set Ar155 q155 S155 N155_ H155 G155 rfl W155' 3 rfl (by simp)
          have N155 := Fr.snoc X155 N154 fr151
          have J155 := J154.wr W155 (List.mem_cons_self ..)
          have B155 := B154.mono (Nat.le_of_eq W155.size.symm)
          have O155 := O154.wr W155 (Nat.le_trans (own_ole O0) fr151)
          have K155 := K154.wr W155 (Or.inr sz151)
          refine Go.of (fun _ hr => st155 _ hr) ?_
          show Go p e s below _ _ _ _ T155 (mkF m 185 (LA13 p1 p2 p3 p4 rp mp q cc) [(.ref o151)])
          refine Go.of (fun _ hr => XS.dup X155.here hx rfl (hb hby at_185) rfl rfl hr) ?_
          show Go p e s below _ _ _ _ T155 (mkF m 186 (LA13 p1 p2 p3 p4 rp mp q cc) [(.ref o151), (.ref o151)])
          refine Go.of (fun _ hr => XS.iconst X155.here hx rfl (hb hby at_186) hr) ?_
          show Go p e s below _ _ _ _ T155 (mkF m 187 (LA13 p1 p2 p3 p4 rp mp q cc) [(.int (4 : Int32)), (.ref o151), (.ref o151)])
          refine Go.of (fun _ hr => XS.bipush X155.here hx rfl (hb hby at_187) hr) ?_
          show Go p e s below _ _ _ _ T155 (mkF m 189 (LA13 p1 p2 p3 p4 rp mp q cc) [(.int (110 : Int32)), (.int (4 : Int32)), (.ref o151), (.ref o151)])
          obtain ⟨cl156, Ar156, q156, S156, N156_, H156, G156⟩ := id V155
          have hin156 : ¬ ((4 : Int32) < 0 ∨ cl156.slots.size ≤ ((4 : Int32)).toNatClampNeg) := inb_of S156 ⟨by decide, by decide⟩
          obtain ⟨T156, h156, X156, e156, W156, st156⟩ := stC X155 hx hZ e155 Ar156 (j := (4 : Int32)) hin156 (g := (mkF m 189 (LA13 p1 p2 p3 p4 rp mp q cc) [(.int (110 : Int32)), (.int (4 : Int32)), (.ref o151), (.ref o151)])) rfl rfl (hb hby at_189)
          have W156' := W156
          rw [show nar .char (110 : Int32) = (110 : Int32) from rfl] at W156'
          have V156 : Arv Z h156 o151 k151 .char (6 : Int32) [(.int (115 : Int32)), (.int (116 : Int32)), (.int (114 : Int32)), (.int (105 : Int32)), (.int (110 : Int32)), (.int (0 : Int32))] (.int (0 : Int32)) := Arv.set Ar156 q156 S156 N156_ H156 G156 rfl W156' 4 rfl (by simp)
          have N156 := Fr.snoc X156 N155 fr151
          have J156 := J155.wr W156 (List.mem_cons_self ..)
          have B156 := B155.mono (Nat.le_of_eq W156.size.symm)
          have O156 := O155.wr W156 (Nat.le_trans (own_ole O0) fr151)
          have K156 := K155.wr W156 (Or.inr sz151)
          refine Go.of (fun _ hr => st156 _ hr) ?_
          show Go p e s below _ _ _ _ T156 (mkF m 190 (LA13 p1 p2 p3 p4 rp mp q cc) [(.ref o151)])
          refine Go.of (fun _ hr => XS.dup X156.here hx rfl (hb hby at_190) rfl rfl hr) ?_
          show Go p e s below _ _ _ _ T156 (mkF m 191 (LA13 p1 p2 p3 p4 rp mp q cc) [(.ref o151), (.ref o151)])
          refine Go.of (fun _ hr => XS.iconst X156.here hx rfl (hb hby at_191) hr) ?_
          show Go p e s below _ _ _ _ T156 (mkF m 192 (LA13 p1 p2 p3 p4 rp mp q cc) [(.int (5 : Int32)), (.ref o151), (.ref o151)])
          refine Go.of (fun _ hr => XS.bipush X156.here hx rfl (hb hby at_192) hr) ?_
          show Go p e s below _ _ _ _ T156 (mkF m 194 (LA13 p1 p2 p3 p4 rp mp q cc) [(.int (103 : Int32)), (.int (5 : Int32)), (.ref o151), (.ref o151)])
          obtain ⟨cl157, Ar157, q157, S157, N157_, H157, G157⟩ := id V156
          have hin157 : ¬ ((5 : Int32) < 0 ∨ cl157.slots.size ≤ ((5 : Int32)).toNatClampNeg) := inb_of S157 ⟨by decide, by decide⟩
          obtain ⟨T157, h157, X157, e157, W157, st157⟩ := stC X156 hx hZ e156 Ar157 (j := (5 : Int32)) hin157 (g := (mkF m 194 (LA13 p1 p2 p3 p4 rp mp q cc) [(.int (103 : Int32)), (.int (5 : Int32)), (.ref o151), (.ref o151)])) rfl rfl (hb hby at_194)
          have W157' := W157
          rw [show nar .char (103 : Int32) = (103 : Int32) from rfl] at W157'
          have V157 : Arv Z h157 o151 k151 .char (6 : Int32) [(.int (115 : Int32)), (.int (116 : Int32)), (.int (114 : Int32)), (.int (105 : Int32)), (.int (110 : Int32)), (.int (103 : Int32))] (.int (0 : Int32)) := Arv.set Ar157 q157 S157 N157_ H157 G157 rfl W157' 5 rfl (by simp)
          have N157 := Fr.snoc X157 N156 fr151
          have J157 := J156.wr W157 (List.mem_cons_self ..)
          have B157 := B156.mono (Nat.le_of_eq W157.size.symm)
          have O157 := O156.wr W157 (Nat.le_trans (own_ole O0) fr151)
          have K157 := K156.wr W157 (Or.inr sz151)
          refine Go.of (fun _ hr => st157 _ hr) ?_
          show Go p e s below _ _ _ _ T157 (mkF m 195 (LA13 p1 p2 p3 p4 rp mp q cc) [(.ref o151)])
          refine Go.of (fun _ hr => XS.astore X157.here hx rfl (hb hby at_195) rfl rfl (l' := (LA14 p1 p2 p3 p4 rp mp q cc o151)) rfl hr) ?_
          show Go p e s below _ _ _ _ T157 (mkF m 197 (LA14 p1 p2 p3 p4 rp mp q cc o151) [])
          refine Go.of (fun _ hr => XS.aload X157.here hx rfl (hb hby at_197) rfl rfl hr) ?_
          show Go p e s below _ _ _ _ T157 (mkF m 199 (LA14 p1 p2 p3 p4 rp mp q cc o151) [(.ref o151)])
          obtain ⟨cl158, Ar158, q158, S158, N158_, H158, G158⟩ := id V157
          refine Go.of (fun _ hr => X157.arraylength hx (by rw [e157]; exact Ar158.1) (State.isArrayOf_alike hZ.alike Ar158.2.1) (g := (mkF m 199 (LA14 p1 p2 p3 p4 rp mp q cc o151) [(.ref o151)])) rfl rfl (hb hby at_199) _ hr) ?_
          rw [len_of S158 N158_]
          show Go p e s below _ _ _ _ T157 (mkF m 200 (LA14 p1 p2 p3 p4 rp mp q cc o151) [(.int (6 : Int32))])
          refine Go.of (fun _ hr => XS.iload X157.here hx rfl (hb hby at_200) rfl  hr) ?_
          show Go p e s below _ _ _ _ T157 (mkF m 202 (LA14 p1 p2 p3 p4 rp mp q cc o151) [(.int (0 : Int32)), (.int (6 : Int32))])
          refine Go.of (fun _ hr => XS.iadd X157.here hx rfl (hb hby at_202) rfl hr) ?_
          show Go p e s below _ _ _ _ T157 (mkF m 203 (LA14 p1 p2 p3 p4 rp mp q cc o151) [(.int (6 : Int32))])
          refine Go.of (fun _ hr => XS.istore X157.here hx rfl (hb hby at_203) rfl (l' := (LA15 p1 p2 p3 p4 rp mp q cc o151)) rfl hr) ?_
          show Go p e s below _ _ _ _ T157 (mkF m 205 (LA15 p1 p2 p3 p4 rp mp q cc o151) [])
          refine Go.of (fun _ hr => XS.iload X157.here hx rfl (hb hby at_205) rfl  hr) ?_
          show Go p e s below _ _ _ _ T157 (mkF m 207 (LA15 p1 p2 p3 p4 rp mp q cc o151) [(.int (6 : Int32))])
          obtain ⟨T159, h159, k159, X159, e159, E159, A159, st159⟩ := newP X157 hx hZ (hw _ (List.mem_of_getElem? (i := 1) rfl)) e157 (g := (mkF m 207 (LA15 p1 p2 p3 p4 rp mp q cc o151) [(.int (6 : Int32))])) rfl (hb hby at_207) rfl (by decide) (cap := 6) (by decide) (by decide) (by decide) (by decide)
          obtain ⟨o159, g159⟩ : ∃ z, z = h157.size := ⟨_, rfl⟩
          rw [← g159] at A159 st159
          have ne_o151_o159 : o151 ≠ o159 := Nat.ne_of_lt (Nat.lt_of_lt_of_le V157.lt (Nat.le_of_eq g159.symm))
          have V159 : Arv Z h159 o159 k159 .char (6 : Int32) [(.int (0 : Int32)), (.int (0 : Int32)), (.int (0 : Int32)), (.int (0 : Int32)), (.int (0 : Int32)), (.int (0 : Int32))] (.int (0 : Int32)) := (Arv.new A159 (by decide)).pad (pad_rep [] (.int (0 : Int32)) 6)
          have lt159 : o159 < h159.size := A159.lt
          have J159 := J157.add E159 g159 lt159
          have B159 := B157.mono E159.1
          have O159 := O157.ext E159
          have sz159 : h0.size ≤ o159 := Nat.le_trans K157.1 (Nat.le_of_eq g159.symm)
          have fr159 : h0.size ≤ o159 := sz159
          have K159 := K157.ext E159
          refine Go.of (fun _ hr => st159 _ hr) ?_
          show Go p e s below _ _ _ _ T159 (mkF m 209 (LA15 p1 p2 p3 p4 rp mp q cc o151) [(.ref o159)])
          refine Go.of (fun _ hr => XS.astore X159.here hx rfl (hb hby at_209) rfl rfl (l' := (LA16 p1 p2 p3 p4 rp mp q cc o151 o159)) rfl hr) ?_
          show Go p e s below _ _ _ _ T159 (mkF m 211 (LA16 p1 p2 p3 p4 rp mp q cc o151 o159) [])
          refine Go.of (fun _ hr => XS.iload X159.here hx rfl (hb hby at_211) rfl  hr) ?_
          show Go p e s below _ _ _ _ T159 (mkF m 213 (LA16 p1 p2 p3 p4 rp mp q cc o151 o159) [(.int (6 : Int32))])
          refine Go.of (fun _ hr => XS.ifNo X159.here hx rfl (hb hby at_213) rfl ((if0 _ _).trans (tlt (by decide : ((0 : Int32) < (6 : Int32)))).2.2.2) hr) ?_
          show Go p e s below _ _ _ _ T159 (mkF m 216 (LA16 p1 p2 p3 p4 rp mp q cc o151 o159) [])
          refine Go.of (fun _ hr => XS.aload X159.here hx rfl (hb hby at_216) rfl rfl hr) ?_
          show Go p e s below _ _ _ _ T159 (mkF m 218 (LA16 p1 p2 p3 p4 rp mp q cc o151 o159) [(.ref o159)])
          refine Go.of (fun _ hr => XS.iconst X159.here hx rfl (hb hby at_218) hr) ?_
          show Go p e s below _ _ _ _ T159 (mkF m 219 (LA16 p1 p2 p3 p4 rp mp q cc o151 o159) [(.int (0 : Int32)), (.ref o159)])
          refine Go.of (fun _ hr => XS.aload X159.here hx rfl (hb hby at_219) rfl rfl hr) ?_
          show Go p e s below _ _ _ _ T159 (mkF m 221 (LA16 p1 p2 p3 p4 rp mp q cc o151 o159) [(.ref o151), (.int (0 : Int32)), (.ref o159)])
          refine Go.of (fun _ hr => XS.iconst X159.here hx rfl (hb hby at_221) hr) ?_
          show Go p e s below _ _ _ _ T159 (mkF m 222 (LA16 p1 p2 p3 p4 rp mp q cc o151 o159) [(.int (0 : Int32)), (.ref o151), (.int (0 : Int32)), (.ref o159)])
          refine Go.of (fun _ hr => XS.iload X159.here hx rfl (hb hby at_222) rfl  hr) ?_
          show Go p e s below _ _ _ _ T159 (mkF m 224 (LA16 p1 p2 p3 p4 rp mp q cc o151 o159) [(.int q), (.int (0 : Int32)), (.ref o151), (.int (0 : Int32)), (.ref o159)])
          refine Go.of (fun _ hr => XS.iload X159.here hx rfl (hb hby at_224) rfl  hr) ?_
          show Go p e s below _ _ _ _ T159 (mkF m 226 (LA16 p1 p2 p3 p4 rp mp q cc o151 o159) [(.int cc), (.int q), (.int (0 : Int32)), (.ref o151), (.int (0 : Int32)), (.ref o159)])
          have f161 := (V157.ext E159)
          obtain ⟨_, b160, T160, h160, L160, e160, Cc160, X160, B160, J160, g160, hQ160, st160⟩ := own_callS Cc B159 J159 X159 (hw _ (List.mem_of_getElem? (i := 2) rfl)) (hw _ (List.mem_of_getElem? (i := 3) rfl)) (hw _ (List.mem_of_getElem? (i := 4) rfl)) (hw _ (List.mem_of_getElem? (i := 5) rfl)) (by decide) (rm1 l Z a0 hw [] o151 _ (0 : Int32) q cc bS _ h159 n0 O159 h0.size (own_ole O0) K159.1 bS_rng (by decide) (by decide) hq_cc f161) e159 (g := (mkF m 226 (LA16 p1 p2 p3 p4 rp mp q cc o151 o159) [(.int cc), (.int q), (.int (0 : Int32)), (.ref o151), (.int (0 : Int32)), (.ref o159)])) rfl (by rw [hml]; rfl) (argsL := [(.ref o151), (.int (0 : Int32)), (.int q), (.int cc)]) (rest := [(.int (0 : Int32)), (.ref o159)]) (lenOf pd7 rfl) rfl (W := 2) (by show 2 * 0 + _ ≤ _; exact Nat.le_of_eq rfl) (hb hby at_226) (by decide) (by decide) (by decide) (by decide)
          obtain ⟨rfl, Nq160, hh160⟩ := hQ160
          have N160 := Fr.app N157 Nq160
          obtain ⟨hx, hZ, hown, hby, hml, hnm, hret, hlk⟩ := id Cc160
          rw [hh160] at e160 B160 J160
          refine Go.of st160 ?_
          show Go p e s below _ _ _ _ T160 (mkF m 229 (LA16 p1 p2 p3 p4 rp mp q cc o151 o159) [(.int (atV bS (0 : Int32) q cc)), (.int (0 : Int32)), (.ref o159)])
          have Vz : Arv Z h159 o159 k159 .char (6 : Int32) ((outL bS 0 q cc).map Value.int) (.int 0) := Arv.fill0 V159
          obtain ⟨cl162, Ar162, q162, S162, N162_, H162, G162⟩ := id Vz
          have hin162 : ¬ ((0 : Int32) < 0 ∨ cl162.slots.size ≤ ((0 : Int32)).toNatClampNeg) := inb_of S162 ⟨by decide, by decide⟩
          obtain ⟨T162, h162, X162, e162, W162, st162⟩ := stC X160 hx hZ e160 Ar162 (j := (0 : Int32)) hin162 (g := (mkF m 229 (LA16 p1 p2 p3 p4 rp mp q cc o151 o159) [(.int (atV bS (0 : Int32) q cc)), (.int (0 : Int32)), (.ref o159)])) rfl rfl (hb hby at_229)
          rw [nar_c (atV_rng bS_rng (by decide) (by decide) hq_cc).1 (le255 (atV_rng bS_rng (by decide) (by decide) hq_cc).2)] at W162
          have V162 : Arv Z h162 o159 k159 .char (6 : Int32) ((outL bS 1 q cc).map Value.int) (.int 0) := outL_push bS 0 q cc ▸ own_push Vz W162 (by rw [List.length_map, outL_len]; decide) (fits_c (atV_rng bS_rng (by decide) (by decide) hq_cc).1 (le255 (atV_rng bS_rng (by decide) (by decide) hq_cc).2))
          have N162 := Fr.snoc X162 N160 fr159
          have J162 := J160.wr W162 (List.mem_cons_self ..)
          have B162 := B160.mono (Nat.le_of_eq W162.size.symm)
          have O162 := O159.wr W162 (Nat.le_trans (own_ole O0) fr159)
          have K162 := K159.wr W162 (Or.inr sz159)
          refine Go.of (fun _ hr => st162 _ hr) ?_
          show Go p e s below _ _ _ _ T162 (mkF m 230 (LA16 p1 p2 p3 p4 rp mp q cc o151 o159) [])
          refine Go.of (fun _ hr => XS.iload X162.here hx rfl (hb hby at_230) rfl  hr) ?_
          show Go p e s below _ _ _ _ T162 (mkF m 232 (LA16 p1 p2 p3 p4 rp mp q cc o151 o159) [(.int (6 : Int32))])
          refine Go.of (fun _ hr => XS.iconst X162.here hx rfl (hb hby at_232) hr) ?_
          show Go p e s below _ _ _ _ T162 (mkF m 233 (LA16 p1 p2 p3 p4 rp mp q cc o151 o159) [(.int (1 : Int32)), (.int (6 : Int32))])
          refine Go.of (fun _ hr => XS.icmpNo X162.here hx rfl (hb hby at_233) rfl (tlt (by decide : ((1 : Int32) < (6 : Int32)))).2.2.2 hr) ?_
          show Go p e s below _ _ _ _ T162 (mkF m 236 (LA16 p1 p2 p3 p4 rp mp q cc o151 o159) [])
          refine Go.of (fun _ hr => XS.aload X162.here hx rfl (hb hby at_236) rfl rfl hr) ?_
          show Go p e s below _ _ _ _ T162 (mkF m 238 (LA16 p1 p2 p3 p4 rp mp q cc o151 o159) [(.ref o159)])
          refine Go.of (fun _ hr => XS.iconst X162.here hx rfl (hb hby at_238) hr) ?_
          show Go p e s below _ _ _ _ T162 (mkF m 239 (LA16 p1 p2 p3 p4 rp mp q cc o151 o159) [(.int (1 : Int32)), (.ref o159)])
          refine Go.of (fun _ hr => XS.aload X162.here hx rfl (hb hby at_239) rfl rfl hr) ?_
          show Go p e s below _ _ _ _ T162 (mkF m 241 (LA16 p1 p2 p3 p4 rp mp q cc o151 o159) [(.ref o151), (.int (1 : Int32)), (.ref o159)])
          refine Go.of (fun _ hr => XS.iconst X162.here hx rfl (hb hby at_241) hr) ?_
          show Go p e s below _ _ _ _ T162 (mkF m 242 (LA16 p1 p2 p3 p4 rp mp q cc o151 o159) [(.int (1 : Int32)), (.ref o151), (.int (1 : Int32)), (.ref o159)])
          refine Go.of (fun _ hr => XS.iload X162.here hx rfl (hb hby at_242) rfl  hr) ?_
          show Go p e s below _ _ _ _ T162 (mkF m 244 (LA16 p1 p2 p3 p4 rp mp q cc o151 o159) [(.int q), (.int (1 : Int32)), (.ref o151), (.int (1 : Int32)), (.ref o159)])
          refine Go.of (fun _ hr => XS.iload X162.here hx rfl (hb hby at_244) rfl  hr) ?_
          show Go p e s below _ _ _ _ T162 (mkF m 246 (LA16 p1 p2 p3 p4 rp mp q cc o151 o159) [(.int cc), (.int q), (.int (1 : Int32)), (.ref o151), (.int (1 : Int32)), (.ref o159)])
          have f164 := (f161.other W162 ne_o151_o159)
          obtain ⟨_, b163, T163, h163, L163, e163, Cc163, X163, B163, J163, g163, hQ163, st163⟩ := own_callS Cc160 B162 J162 X162 (hw _ (List.mem_of_getElem? (i := 2) rfl)) (hw _ (List.mem_of_getElem? (i := 3) rfl)) (hw _ (List.mem_of_getElem? (i := 4) rfl)) (hw _ (List.mem_of_getElem? (i := 5) rfl)) (by decide) (rm1 l Z a0 hw [] o151 _ (1 : Int32) q cc bS _ h162 n0 O162 h0.size (own_ole O0) K162.1 bS_rng (by decide) (by decide) hq_cc f164) e162 (g := (mkF m 246 (LA16 p1 p2 p3 p4 rp mp q cc o151 o159) [(.int cc), (.int q), (.int (1 : Int32)), (.ref o151), (.int (1 : Int32)), (.ref o159)])) rfl (by rw [hml]; rfl) (argsL := [(.ref o151), (.int (1 : Int32)), (.int q), (.int cc)]) (rest := [(.int (1 : Int32)), (.ref o159)]) (lenOf pd7 rfl) rfl (W := 2) (by show 2 * 0 + _ ≤ _; exact Nat.le_of_eq rfl) (hb hby at_246) (by decide) (by decide) (by decide) (by decide)
          obtain ⟨rfl, Nq163, hh163⟩ := hQ163
          have N163 := Fr.app N162 Nq163
          obtain ⟨hx, hZ, hown, hby, hml, hnm, hret, hlk⟩ := id Cc163
          rw [hh163] at e163 B163 J163
          refine Go.of st163 ?_
          show Go p e s below _ _ _ _ T163 (mkF m 249 (LA16 p1 p2 p3 p4 rp mp q cc o151 o159) [(.int (atV bS (1 : Int32) q cc)), (.int (1 : Int32)), (.ref o159)])
          obtain ⟨cl165, Ar165, q165, S165, N165_, H165, G165⟩ := id V162
          have hin165 : ¬ ((1 : Int32) < 0 ∨ cl165.slots.size ≤ ((1 : Int32)).toNatClampNeg) := inb_of S165 ⟨by decide, by decide⟩
          obtain ⟨T165, h165, X165, e165, W165, st165⟩ := stC X163 hx hZ e163 Ar165 (j := (1 : Int32)) hin165 (g := (mkF m 249 (LA16 p1 p2 p3 p4 rp mp q cc o151 o159) [(.int (atV bS (1 : Int32) q cc)), (.int (1 : Int32)), (.ref o159)])) rfl rfl (hb hby at_249)
          rw [nar_c (atV_rng bS_rng (by decide) (by decide) hq_cc).1 (le255 (atV_rng bS_rng (by decide) (by decide) hq_cc).2)] at W165
          have V165 : Arv Z h165 o159 k159 .char (6 : Int32) ((outL bS 2 q cc).map Value.int) (.int 0) := outL_push bS 1 q cc ▸ own_push V162 W165 (by rw [List.length_map, outL_len]; decide) (fits_c (atV_rng bS_rng (by decide) (by decide) hq_cc).1 (le255 (atV_rng bS_rng (by decide) (by decide) hq_cc).2))
          have N165 := Fr.snoc X165 N163 fr159
          have J165 := J163.wr W165 (List.mem_cons_self ..)
          have B165 := B163.mono (Nat.le_of_eq W165.size.symm)
          have O165 := O162.wr W165 (Nat.le_trans (own_ole O0) fr159)
          have K165 := K162.wr W165 (Or.inr sz159)
          refine Go.of (fun _ hr => st165 _ hr) ?_
          show Go p e s below _ _ _ _ T165 (mkF m 250 (LA16 p1 p2 p3 p4 rp mp q cc o151 o159) [])
          refine Go.of (fun _ hr => XS.iload X165.here hx rfl (hb hby at_250) rfl  hr) ?_
          show Go p e s below _ _ _ _ T165 (mkF m 252 (LA16 p1 p2 p3 p4 rp mp q cc o151 o159) [(.int (6 : Int32))])
          refine Go.of (fun _ hr => XS.iconst X165.here hx rfl (hb hby at_252) hr) ?_
          show Go p e s below _ _ _ _ T165 (mkF m 253 (LA16 p1 p2 p3 p4 rp mp q cc o151 o159) [(.int (2 : Int32)), (.int (6 : Int32))])
          refine Go.of (fun _ hr => XS.icmpNo X165.here hx rfl (hb hby at_253) rfl (tlt (by decide : ((2 : Int32) < (6 : Int32)))).2.2.2 hr) ?_
          show Go p e s below _ _ _ _ T165 (mkF m 256 (LA16 p1 p2 p3 p4 rp mp q cc o151 o159) [])
          refine Go.of (fun _ hr => XS.aload X165.here hx rfl (hb hby at_256) rfl rfl hr) ?_
          show Go p e s below _ _ _ _ T165 (mkF m 258 (LA16 p1 p2 p3 p4 rp mp q cc o151 o159) [(.ref o159)])
          refine Go.of (fun _ hr => XS.iconst X165.here hx rfl (hb hby at_258) hr) ?_
          show Go p e s below _ _ _ _ T165 (mkF m 259 (LA16 p1 p2 p3 p4 rp mp q cc o151 o159) [(.int (2 : Int32)), (.ref o159)])
          refine Go.of (fun _ hr => XS.aload X165.here hx rfl (hb hby at_259) rfl rfl hr) ?_
          show Go p e s below _ _ _ _ T165 (mkF m 261 (LA16 p1 p2 p3 p4 rp mp q cc o151 o159) [(.ref o151), (.int (2 : Int32)), (.ref o159)])
          refine Go.of (fun _ hr => XS.iconst X165.here hx rfl (hb hby at_261) hr) ?_
          show Go p e s below _ _ _ _ T165 (mkF m 262 (LA16 p1 p2 p3 p4 rp mp q cc o151 o159) [(.int (2 : Int32)), (.ref o151), (.int (2 : Int32)), (.ref o159)])
          refine Go.of (fun _ hr => XS.iload X165.here hx rfl (hb hby at_262) rfl  hr) ?_
          show Go p e s below _ _ _ _ T165 (mkF m 264 (LA16 p1 p2 p3 p4 rp mp q cc o151 o159) [(.int q), (.int (2 : Int32)), (.ref o151), (.int (2 : Int32)), (.ref o159)])
          refine Go.of (fun _ hr => XS.iload X165.here hx rfl (hb hby at_264) rfl  hr) ?_
          show Go p e s below _ _ _ _ T165 (mkF m 266 (LA16 p1 p2 p3 p4 rp mp q cc o151 o159) [(.int cc), (.int q), (.int (2 : Int32)), (.ref o151), (.int (2 : Int32)), (.ref o159)])
          have f167 := (f164.other W165 ne_o151_o159)
          obtain ⟨_, b166, T166, h166, L166, e166, Cc166, X166, B166, J166, g166, hQ166, st166⟩ := own_callS Cc163 B165 J165 X165 (hw _ (List.mem_of_getElem? (i := 2) rfl)) (hw _ (List.mem_of_getElem? (i := 3) rfl)) (hw _ (List.mem_of_getElem? (i := 4) rfl)) (hw _ (List.mem_of_getElem? (i := 5) rfl)) (by decide) (rm1 l Z a0 hw [] o151 _ (2 : Int32) q cc bS _ h165 n0 O165 h0.size (own_ole O0) K165.1 bS_rng (by decide) (by decide) hq_cc f167) e165 (g := (mkF m 266 (LA16 p1 p2 p3 p4 rp mp q cc o151 o159) [(.int cc), (.int q), (.int (2 : Int32)), (.ref o151), (.int (2 : Int32)), (.ref o159)])) rfl (by rw [hml]; rfl) (argsL := [(.ref o151), (.int (2 : Int32)), (.int q), (.int cc)]) (rest := [(.int (2 : Int32)), (.ref o159)]) (lenOf pd7 rfl) rfl (W := 2) (by show 2 * 0 + _ ≤ _; exact Nat.le_of_eq rfl) (hb hby at_266) (by decide) (by decide) (by decide) (by decide)
          obtain ⟨rfl, Nq166, hh166⟩ := hQ166
          have N166 := Fr.app N165 Nq166
          obtain ⟨hx, hZ, hown, hby, hml, hnm, hret, hlk⟩ := id Cc166
          rw [hh166] at e166 B166 J166
          refine Go.of st166 ?_
          show Go p e s below _ _ _ _ T166 (mkF m 269 (LA16 p1 p2 p3 p4 rp mp q cc o151 o159) [(.int (atV bS (2 : Int32) q cc)), (.int (2 : Int32)), (.ref o159)])
          obtain ⟨cl168, Ar168, q168, S168, N168_, H168, G168⟩ := id V165
          have hin168 : ¬ ((2 : Int32) < 0 ∨ cl168.slots.size ≤ ((2 : Int32)).toNatClampNeg) := inb_of S168 ⟨by decide, by decide⟩
          obtain ⟨T168, h168, X168, e168, W168, st168⟩ := stC X166 hx hZ e166 Ar168 (j := (2 : Int32)) hin168 (g := (mkF m 269 (LA16 p1 p2 p3 p4 rp mp q cc o151 o159) [(.int (atV bS (2 : Int32) q cc)), (.int (2 : Int32)), (.ref o159)])) rfl rfl (hb hby at_269)
          rw [nar_c (atV_rng bS_rng (by decide) (by decide) hq_cc).1 (le255 (atV_rng bS_rng (by decide) (by decide) hq_cc).2)] at W168
          have V168 : Arv Z h168 o159 k159 .char (6 : Int32) ((outL bS 3 q cc).map Value.int) (.int 0) := outL_push bS 2 q cc ▸ own_push V165 W168 (by rw [List.length_map, outL_len]; decide) (fits_c (atV_rng bS_rng (by decide) (by decide) hq_cc).1 (le255 (atV_rng bS_rng (by decide) (by decide) hq_cc).2))
          have N168 := Fr.snoc X168 N166 fr159
          have J168 := J166.wr W168 (List.mem_cons_self ..)
          have B168 := B166.mono (Nat.le_of_eq W168.size.symm)
          have O168 := O165.wr W168 (Nat.le_trans (own_ole O0) fr159)
          have K168 := K165.wr W168 (Or.inr sz159)
          refine Go.of (fun _ hr => st168 _ hr) ?_
          show Go p e s below _ _ _ _ T168 (mkF m 270 (LA16 p1 p2 p3 p4 rp mp q cc o151 o159) [])
          refine Go.of (fun _ hr => XS.iload X168.here hx rfl (hb hby at_270) rfl  hr) ?_
          show Go p e s below _ _ _ _ T168 (mkF m 272 (LA16 p1 p2 p3 p4 rp mp q cc o151 o159) [(.int (6 : Int32))])
          refine Go.of (fun _ hr => XS.iconst X168.here hx rfl (hb hby at_272) hr) ?_
          show Go p e s below _ _ _ _ T168 (mkF m 273 (LA16 p1 p2 p3 p4 rp mp q cc o151 o159) [(.int (3 : Int32)), (.int (6 : Int32))])
          refine Go.of (fun _ hr => XS.icmpNo X168.here hx rfl (hb hby at_273) rfl (tlt (by decide : ((3 : Int32) < (6 : Int32)))).2.2.2 hr) ?_
          show Go p e s below _ _ _ _ T168 (mkF m 276 (LA16 p1 p2 p3 p4 rp mp q cc o151 o159) [])
          refine Go.of (fun _ hr => XS.aload X168.here hx rfl (hb hby at_276) rfl rfl hr) ?_
          show Go p e s below _ _ _ _ T168 (mkF m 278 (LA16 p1 p2 p3 p4 rp mp q cc o151 o159) [(.ref o159)])
          refine Go.of (fun _ hr => XS.iconst X168.here hx rfl (hb hby at_278) hr) ?_
          show Go p e s below _ _ _ _ T168 (mkF m 279 (LA16 p1 p2 p3 p4 rp mp q cc o151 o159) [(.int (3 : Int32)), (.ref o159)])
          refine Go.of (fun _ hr => XS.aload X168.here hx rfl (hb hby at_279) rfl rfl hr) ?_
          show Go p e s below _ _ _ _ T168 (mkF m 281 (LA16 p1 p2 p3 p4 rp mp q cc o151 o159) [(.ref o151), (.int (3 : Int32)), (.ref o159)])
          refine Go.of (fun _ hr => XS.iconst X168.here hx rfl (hb hby at_281) hr) ?_
          show Go p e s below _ _ _ _ T168 (mkF m 282 (LA16 p1 p2 p3 p4 rp mp q cc o151 o159) [(.int (3 : Int32)), (.ref o151), (.int (3 : Int32)), (.ref o159)])
          refine Go.of (fun _ hr => XS.iload X168.here hx rfl (hb hby at_282) rfl  hr) ?_
          show Go p e s below _ _ _ _ T168 (mkF m 284 (LA16 p1 p2 p3 p4 rp mp q cc o151 o159) [(.int q), (.int (3 : Int32)), (.ref o151), (.int (3 : Int32)), (.ref o159)])
          refine Go.of (fun _ hr => XS.iload X168.here hx rfl (hb hby at_284) rfl  hr) ?_
          show Go p e s below _ _ _ _ T168 (mkF m 286 (LA16 p1 p2 p3 p4 rp mp q cc o151 o159) [(.int cc), (.int q), (.int (3 : Int32)), (.ref o151), (.int (3 : Int32)), (.ref o159)])
          have f170 := (f167.other W168 ne_o151_o159)
          obtain ⟨_, b169, T169, h169, L169, e169, Cc169, X169, B169, J169, g169, hQ169, st169⟩ := own_callS Cc166 B168 J168 X168 (hw _ (List.mem_of_getElem? (i := 2) rfl)) (hw _ (List.mem_of_getElem? (i := 3) rfl)) (hw _ (List.mem_of_getElem? (i := 4) rfl)) (hw _ (List.mem_of_getElem? (i := 5) rfl)) (by decide) (rm1 l Z a0 hw [] o151 _ (3 : Int32) q cc bS _ h168 n0 O168 h0.size (own_ole O0) K168.1 bS_rng (by decide) (by decide) hq_cc f170) e168 (g := (mkF m 286 (LA16 p1 p2 p3 p4 rp mp q cc o151 o159) [(.int cc), (.int q), (.int (3 : Int32)), (.ref o151), (.int (3 : Int32)), (.ref o159)])) rfl (by rw [hml]; rfl) (argsL := [(.ref o151), (.int (3 : Int32)), (.int q), (.int cc)]) (rest := [(.int (3 : Int32)), (.ref o159)]) (lenOf pd7 rfl) rfl (W := 2) (by show 2 * 0 + _ ≤ _; exact Nat.le_of_eq rfl) (hb hby at_286) (by decide) (by decide) (by decide) (by decide)
          obtain ⟨rfl, Nq169, hh169⟩ := hQ169
          have N169 := Fr.app N168 Nq169
          obtain ⟨hx, hZ, hown, hby, hml, hnm, hret, hlk⟩ := id Cc169
          rw [hh169] at e169 B169 J169
          refine Go.of st169 ?_
          show Go p e s below _ _ _ _ T169 (mkF m 289 (LA16 p1 p2 p3 p4 rp mp q cc o151 o159) [(.int (atV bS (3 : Int32) q cc)), (.int (3 : Int32)), (.ref o159)])
          obtain ⟨cl171, Ar171, q171, S171, N171_, H171, G171⟩ := id V168
          have hin171 : ¬ ((3 : Int32) < 0 ∨ cl171.slots.size ≤ ((3 : Int32)).toNatClampNeg) := inb_of S171 ⟨by decide, by decide⟩
          obtain ⟨T171, h171, X171, e171, W171, st171⟩ := stC X169 hx hZ e169 Ar171 (j := (3 : Int32)) hin171 (g := (mkF m 289 (LA16 p1 p2 p3 p4 rp mp q cc o151 o159) [(.int (atV bS (3 : Int32) q cc)), (.int (3 : Int32)), (.ref o159)])) rfl rfl (hb hby at_289)
          rw [nar_c (atV_rng bS_rng (by decide) (by decide) hq_cc).1 (le255 (atV_rng bS_rng (by decide) (by decide) hq_cc).2)] at W171
          have V171 : Arv Z h171 o159 k159 .char (6 : Int32) ((outL bS 4 q cc).map Value.int) (.int 0) := outL_push bS 3 q cc ▸ own_push V168 W171 (by rw [List.length_map, outL_len]; decide) (fits_c (atV_rng bS_rng (by decide) (by decide) hq_cc).1 (le255 (atV_rng bS_rng (by decide) (by decide) hq_cc).2))
          have N171 := Fr.snoc X171 N169 fr159
          have J171 := J169.wr W171 (List.mem_cons_self ..)
          have B171 := B169.mono (Nat.le_of_eq W171.size.symm)
          have O171 := O168.wr W171 (Nat.le_trans (own_ole O0) fr159)
          have K171 := K168.wr W171 (Or.inr sz159)
          refine Go.of (fun _ hr => st171 _ hr) ?_
          show Go p e s below _ _ _ _ T171 (mkF m 290 (LA16 p1 p2 p3 p4 rp mp q cc o151 o159) [])
          refine Go.of (fun _ hr => XS.iload X171.here hx rfl (hb hby at_290) rfl  hr) ?_
          show Go p e s below _ _ _ _ T171 (mkF m 292 (LA16 p1 p2 p3 p4 rp mp q cc o151 o159) [(.int (6 : Int32))])
          refine Go.of (fun _ hr => XS.iconst X171.here hx rfl (hb hby at_292) hr) ?_
          show Go p e s below _ _ _ _ T171 (mkF m 293 (LA16 p1 p2 p3 p4 rp mp q cc o151 o159) [(.int (4 : Int32)), (.int (6 : Int32))])
          refine Go.of (fun _ hr => XS.icmpNo X171.here hx rfl (hb hby at_293) rfl (tlt (by decide : ((4 : Int32) < (6 : Int32)))).2.2.2 hr) ?_
          show Go p e s below _ _ _ _ T171 (mkF m 296 (LA16 p1 p2 p3 p4 rp mp q cc o151 o159) [])
          refine Go.of (fun _ hr => XS.aload X171.here hx rfl (hb hby at_296) rfl rfl hr) ?_
          show Go p e s below _ _ _ _ T171 (mkF m 298 (LA16 p1 p2 p3 p4 rp mp q cc o151 o159) [(.ref o159)])
          refine Go.of (fun _ hr => XS.iconst X171.here hx rfl (hb hby at_298) hr) ?_
          show Go p e s below _ _ _ _ T171 (mkF m 299 (LA16 p1 p2 p3 p4 rp mp q cc o151 o159) [(.int (4 : Int32)), (.ref o159)])
          refine Go.of (fun _ hr => XS.aload X171.here hx rfl (hb hby at_299) rfl rfl hr) ?_
          show Go p e s below _ _ _ _ T171 (mkF m 301 (LA16 p1 p2 p3 p4 rp mp q cc o151 o159) [(.ref o151), (.int (4 : Int32)), (.ref o159)])
          refine Go.of (fun _ hr => XS.iconst X171.here hx rfl (hb hby at_301) hr) ?_
          show Go p e s below _ _ _ _ T171 (mkF m 302 (LA16 p1 p2 p3 p4 rp mp q cc o151 o159) [(.int (4 : Int32)), (.ref o151), (.int (4 : Int32)), (.ref o159)])
          refine Go.of (fun _ hr => XS.iload X171.here hx rfl (hb hby at_302) rfl  hr) ?_
          show Go p e s below _ _ _ _ T171 (mkF m 304 (LA16 p1 p2 p3 p4 rp mp q cc o151 o159) [(.int q), (.int (4 : Int32)), (.ref o151), (.int (4 : Int32)), (.ref o159)])
          refine Go.of (fun _ hr => XS.iload X171.here hx rfl (hb hby at_304) rfl  hr) ?_
          show Go p e s below _ _ _ _ T171 (mkF m 306 (LA16 p1 p2 p3 p4 rp mp q cc o151 o159) [(.int cc), (.int q), (.int (4 : Int32)), (.ref o151), (.int (4 : Int32)), (.ref o159)])
          have f173 := (f170.other W171 ne_o151_o159)
          obtain ⟨_, b172, T172, h172, L172, e172, Cc172, X172, B172, J172, g172, hQ172, st172⟩ := own_callS Cc169 B171 J171 X171 (hw _ (List.mem_of_getElem? (i := 2) rfl)) (hw _ (List.mem_of_getElem? (i := 3) rfl)) (hw _ (List.mem_of_getElem? (i := 4) rfl)) (hw _ (List.mem_of_getElem? (i := 5) rfl)) (by decide) (rm1 l Z a0 hw [] o151 _ (4 : Int32) q cc bS _ h171 n0 O171 h0.size (own_ole O0) K171.1 bS_rng (by decide) (by decide) hq_cc f173) e171 (g := (mkF m 306 (LA16 p1 p2 p3 p4 rp mp q cc o151 o159) [(.int cc), (.int q), (.int (4 : Int32)), (.ref o151), (.int (4 : Int32)), (.ref o159)])) rfl (by rw [hml]; rfl) (argsL := [(.ref o151), (.int (4 : Int32)), (.int q), (.int cc)]) (rest := [(.int (4 : Int32)), (.ref o159)]) (lenOf pd7 rfl) rfl (W := 2) (by show 2 * 0 + _ ≤ _; exact Nat.le_of_eq rfl) (hb hby at_306) (by decide) (by decide) (by decide) (by decide)
          obtain ⟨rfl, Nq172, hh172⟩ := hQ172
          have N172 := Fr.app N171 Nq172
          obtain ⟨hx, hZ, hown, hby, hml, hnm, hret, hlk⟩ := id Cc172
          rw [hh172] at e172 B172 J172
          refine Go.of st172 ?_
          show Go p e s below _ _ _ _ T172 (mkF m 309 (LA16 p1 p2 p3 p4 rp mp q cc o151 o159) [(.int (atV bS (4 : Int32) q cc)), (.int (4 : Int32)), (.ref o159)])
          obtain ⟨cl174, Ar174, q174, S174, N174_, H174, G174⟩ := id V171
          have hin174 : ¬ ((4 : Int32) < 0 ∨ cl174.slots.size ≤ ((4 : Int32)).toNatClampNeg) := inb_of S174 ⟨by decide, by decide⟩
          obtain ⟨T174, h174, X174, e174, W174, st174⟩ := stC X172 hx hZ e172 Ar174 (j := (4 : Int32)) hin174 (g := (mkF m 309 (LA16 p1 p2 p3 p4 rp mp q cc o151 o159) [(.int (atV bS (4 : Int32) q cc)), (.int (4 : Int32)), (.ref o159)])) rfl rfl (hb hby at_309)
          rw [nar_c (atV_rng bS_rng (by decide) (by decide) hq_cc).1 (le255 (atV_rng bS_rng (by decide) (by decide) hq_cc).2)] at W174
          have V174 : Arv Z h174 o159 k159 .char (6 : Int32) ((outL bS 5 q cc).map Value.int) (.int 0) := outL_push bS 4 q cc ▸ own_push V171 W174 (by rw [List.length_map, outL_len]; decide) (fits_c (atV_rng bS_rng (by decide) (by decide) hq_cc).1 (le255 (atV_rng bS_rng (by decide) (by decide) hq_cc).2))
          have N174 := Fr.snoc X174 N172 fr159
          have J174 := J172.wr W174 (List.mem_cons_self ..)
          have B174 := B172.mono (Nat.le_of_eq W174.size.symm)
          have O174 := O171.wr W174 (Nat.le_trans (own_ole O0) fr159)
          have K174 := K171.wr W174 (Or.inr sz159)
          refine Go.of (fun _ hr => st174 _ hr) ?_
          show Go p e s below _ _ _ _ T174 (mkF m 310 (LA16 p1 p2 p3 p4 rp mp q cc o151 o159) [])
          refine Go.of (fun _ hr => XS.iload X174.here hx rfl (hb hby at_310) rfl  hr) ?_
          show Go p e s below _ _ _ _ T174 (mkF m 312 (LA16 p1 p2 p3 p4 rp mp q cc o151 o159) [(.int (6 : Int32))])
          refine Go.of (fun _ hr => XS.iconst X174.here hx rfl (hb hby at_312) hr) ?_
          show Go p e s below _ _ _ _ T174 (mkF m 313 (LA16 p1 p2 p3 p4 rp mp q cc o151 o159) [(.int (5 : Int32)), (.int (6 : Int32))])
          refine Go.of (fun _ hr => XS.icmpNo X174.here hx rfl (hb hby at_313) rfl (tlt (by decide : ((5 : Int32) < (6 : Int32)))).2.2.2 hr) ?_
          show Go p e s below _ _ _ _ T174 (mkF m 316 (LA16 p1 p2 p3 p4 rp mp q cc o151 o159) [])
          refine Go.of (fun _ hr => XS.aload X174.here hx rfl (hb hby at_316) rfl rfl hr) ?_
          show Go p e s below _ _ _ _ T174 (mkF m 318 (LA16 p1 p2 p3 p4 rp mp q cc o151 o159) [(.ref o159)])
          refine Go.of (fun _ hr => XS.iconst X174.here hx rfl (hb hby at_318) hr) ?_
          show Go p e s below _ _ _ _ T174 (mkF m 319 (LA16 p1 p2 p3 p4 rp mp q cc o151 o159) [(.int (5 : Int32)), (.ref o159)])
          refine Go.of (fun _ hr => XS.aload X174.here hx rfl (hb hby at_319) rfl rfl hr) ?_
          show Go p e s below _ _ _ _ T174 (mkF m 321 (LA16 p1 p2 p3 p4 rp mp q cc o151 o159) [(.ref o151), (.int (5 : Int32)), (.ref o159)])
          refine Go.of (fun _ hr => XS.iconst X174.here hx rfl (hb hby at_321) hr) ?_
          show Go p e s below _ _ _ _ T174 (mkF m 322 (LA16 p1 p2 p3 p4 rp mp q cc o151 o159) [(.int (5 : Int32)), (.ref o151), (.int (5 : Int32)), (.ref o159)])
          refine Go.of (fun _ hr => XS.iload X174.here hx rfl (hb hby at_322) rfl  hr) ?_
          show Go p e s below _ _ _ _ T174 (mkF m 324 (LA16 p1 p2 p3 p4 rp mp q cc o151 o159) [(.int q), (.int (5 : Int32)), (.ref o151), (.int (5 : Int32)), (.ref o159)])
          refine Go.of (fun _ hr => XS.iload X174.here hx rfl (hb hby at_324) rfl  hr) ?_
          show Go p e s below _ _ _ _ T174 (mkF m 326 (LA16 p1 p2 p3 p4 rp mp q cc o151 o159) [(.int cc), (.int q), (.int (5 : Int32)), (.ref o151), (.int (5 : Int32)), (.ref o159)])
          have f176 := (f173.other W174 ne_o151_o159)
          obtain ⟨_, b175, T175, h175, L175, e175, Cc175, X175, B175, J175, g175, hQ175, st175⟩ := own_callS Cc172 B174 J174 X174 (hw _ (List.mem_of_getElem? (i := 2) rfl)) (hw _ (List.mem_of_getElem? (i := 3) rfl)) (hw _ (List.mem_of_getElem? (i := 4) rfl)) (hw _ (List.mem_of_getElem? (i := 5) rfl)) (by decide) (rm1 l Z a0 hw [] o151 _ (5 : Int32) q cc bS _ h174 n0 O174 h0.size (own_ole O0) K174.1 bS_rng (by decide) (by decide) hq_cc f176) e174 (g := (mkF m 326 (LA16 p1 p2 p3 p4 rp mp q cc o151 o159) [(.int cc), (.int q), (.int (5 : Int32)), (.ref o151), (.int (5 : Int32)), (.ref o159)])) rfl (by rw [hml]; rfl) (argsL := [(.ref o151), (.int (5 : Int32)), (.int q), (.int cc)]) (rest := [(.int (5 : Int32)), (.ref o159)]) (lenOf pd7 rfl) rfl (W := 2) (by show 2 * 0 + _ ≤ _; exact Nat.le_of_eq rfl) (hb hby at_326) (by decide) (by decide) (by decide) (by decide)
          obtain ⟨rfl, Nq175, hh175⟩ := hQ175
          have N175 := Fr.app N174 Nq175
          obtain ⟨hx, hZ, hown, hby, hml, hnm, hret, hlk⟩ := id Cc175
          rw [hh175] at e175 B175 J175
          refine Go.of st175 ?_
          show Go p e s below _ _ _ _ T175 (mkF m 329 (LA16 p1 p2 p3 p4 rp mp q cc o151 o159) [(.int (atV bS (5 : Int32) q cc)), (.int (5 : Int32)), (.ref o159)])
          obtain ⟨cl177, Ar177, q177, S177, N177_, H177, G177⟩ := id V174
          have hin177 : ¬ ((5 : Int32) < 0 ∨ cl177.slots.size ≤ ((5 : Int32)).toNatClampNeg) := inb_of S177 ⟨by decide, by decide⟩
          obtain ⟨T177, h177, X177, e177, W177, st177⟩ := stC X175 hx hZ e175 Ar177 (j := (5 : Int32)) hin177 (g := (mkF m 329 (LA16 p1 p2 p3 p4 rp mp q cc o151 o159) [(.int (atV bS (5 : Int32) q cc)), (.int (5 : Int32)), (.ref o159)])) rfl rfl (hb hby at_329)
          rw [nar_c (atV_rng bS_rng (by decide) (by decide) hq_cc).1 (le255 (atV_rng bS_rng (by decide) (by decide) hq_cc).2)] at W177
          have V177 : Arv Z h177 o159 k159 .char (6 : Int32) ((outL bS 6 q cc).map Value.int) (.int 0) := outL_push bS 5 q cc ▸ own_push V174 W177 (by rw [List.length_map, outL_len]; decide) (fits_c (atV_rng bS_rng (by decide) (by decide) hq_cc).1 (le255 (atV_rng bS_rng (by decide) (by decide) hq_cc).2))
          have N177 := Fr.snoc X177 N175 fr159
          have J177 := J175.wr W177 (List.mem_cons_self ..)
          have B177 := B175.mono (Nat.le_of_eq W177.size.symm)
          have O177 := O174.wr W177 (Nat.le_trans (own_ole O0) fr159)
          have K177 := K174.wr W177 (Or.inr sz159)
          refine Go.of (fun _ hr => st177 _ hr) ?_
          show Go p e s below _ _ _ _ T177 (mkF m 330 (LA16 p1 p2 p3 p4 rp mp q cc o151 o159) [])
          refine Go.of (fun _ hr => XS.iload X177.here hx rfl (hb hby at_330) rfl  hr) ?_
          show Go p e s below _ _ _ _ T177 (mkF m 332 (LA16 p1 p2 p3 p4 rp mp q cc o151 o159) [(.int (6 : Int32))])
          refine Go.of (fun _ hr => XS.bipush X177.here hx rfl (hb hby at_332) hr) ?_
          show Go p e s below _ _ _ _ T177 (mkF m 334 (LA16 p1 p2 p3 p4 rp mp q cc o151 o159) [(.int (6 : Int32)), (.int (6 : Int32))])
          refine Go.of (fun _ hr => XS.icmpYes X177.here hx rfl (pc0 := 334) (pc' := 353) rfl (hb hby at_334) rfl (flt (by decide : ¬ ((6 : Int32) < (6 : Int32)))).2.2.2 (by decide) (by decide) hr) ?_
          show Go p e s below _ _ _ _ T177 (mkF m 353 (LA16 p1 p2 p3 p4 rp mp q cc o151 o159) [])
          refine Go.of (fun _ hr => XS.iload X177.here hx rfl (hb hby at_353) rfl  hr) ?_
          show Go p e s below _ _ _ _ T177 (mkF m 355 (LA16 p1 p2 p3 p4 rp mp q cc o151 o159) [(.int (6 : Int32))])
          refine Go.of (fun _ hr => XS.bipush X177.here hx rfl (hb hby at_355) hr) ?_
          show Go p e s below _ _ _ _ T177 (mkF m 357 (LA16 p1 p2 p3 p4 rp mp q cc o151 o159) [(.int (7 : Int32)), (.int (6 : Int32))])
          refine Go.of (fun _ hr => XS.icmpYes X177.here hx rfl (pc0 := 357) (pc' := 376) rfl (hb hby at_357) rfl (flt (by decide : ¬ ((7 : Int32) < (6 : Int32)))).2.2.2 (by decide) (by decide) hr) ?_
          show Go p e s below _ _ _ _ T177 (mkF m 376 (LA16 p1 p2 p3 p4 rp mp q cc o151 o159) [])
          refine Go.of (fun _ hr => XS.iload X177.here hx rfl (hb hby at_376) rfl  hr) ?_
          show Go p e s below _ _ _ _ T177 (mkF m 378 (LA16 p1 p2 p3 p4 rp mp q cc o151 o159) [(.int (6 : Int32))])
          refine Go.of (fun _ hr => XS.bipush X177.here hx rfl (hb hby at_378) hr) ?_
          show Go p e s below _ _ _ _ T177 (mkF m 380 (LA16 p1 p2 p3 p4 rp mp q cc o151 o159) [(.int (8 : Int32)), (.int (6 : Int32))])
          refine Go.of (fun _ hr => XS.icmpYes X177.here hx rfl (pc0 := 380) (pc' := 399) rfl (hb hby at_380) rfl (flt (by decide : ¬ ((8 : Int32) < (6 : Int32)))).2.2.2 (by decide) (by decide) hr) ?_
          show Go p e s below _ _ _ _ T177 (mkF m 399 (LA16 p1 p2 p3 p4 rp mp q cc o151 o159) [])
          refine Go.of (fun _ hr => XS.iload X177.here hx rfl (hb hby at_399) rfl  hr) ?_
          show Go p e s below _ _ _ _ T177 (mkF m 401 (LA16 p1 p2 p3 p4 rp mp q cc o151 o159) [(.int (6 : Int32))])
          refine Go.of (fun _ hr => XS.bipush X177.here hx rfl (hb hby at_401) hr) ?_
          show Go p e s below _ _ _ _ T177 (mkF m 403 (LA16 p1 p2 p3 p4 rp mp q cc o151 o159) [(.int (9 : Int32)), (.int (6 : Int32))])
          refine Go.of (fun _ hr => XS.icmpYes X177.here hx rfl (pc0 := 403) (pc' := 422) rfl (hb hby at_403) rfl (flt (by decide : ¬ ((9 : Int32) < (6 : Int32)))).2.2.2 (by decide) (by decide) hr) ?_
          show Go p e s below _ _ _ _ T177 (mkF m 422 (LA16 p1 p2 p3 p4 rp mp q cc o151 o159) [])
          refine Go.of (fun _ hr => XS.iload X177.here hx rfl (hb hby at_422) rfl  hr) ?_
          show Go p e s below _ _ _ _ T177 (mkF m 424 (LA16 p1 p2 p3 p4 rp mp q cc o151 o159) [(.int (6 : Int32))])
          refine Go.of (fun _ hr => XS.bipush X177.here hx rfl (hb hby at_424) hr) ?_
          show Go p e s below _ _ _ _ T177 (mkF m 426 (LA16 p1 p2 p3 p4 rp mp q cc o151 o159) [(.int (10 : Int32)), (.int (6 : Int32))])
          refine Go.of (fun _ hr => XS.icmpYes X177.here hx rfl (pc0 := 426) (pc' := 445) rfl (hb hby at_426) rfl (flt (by decide : ¬ ((10 : Int32) < (6 : Int32)))).2.2.2 (by decide) (by decide) hr) ?_
          show Go p e s below _ _ _ _ T177 (mkF m 445 (LA16 p1 p2 p3 p4 rp mp q cc o151 o159) [])
          refine Go.of (fun _ hr => XS.iload X177.here hx rfl (hb hby at_445) rfl  hr) ?_
          show Go p e s below _ _ _ _ T177 (mkF m 447 (LA16 p1 p2 p3 p4 rp mp q cc o151 o159) [(.int (6 : Int32))])
          refine Go.of (fun _ hr => XS.bipush X177.here hx rfl (hb hby at_447) hr) ?_
          show Go p e s below _ _ _ _ T177 (mkF m 449 (LA16 p1 p2 p3 p4 rp mp q cc o151 o159) [(.int (11 : Int32)), (.int (6 : Int32))])
          refine Go.of (fun _ hr => XS.icmpYes X177.here hx rfl (pc0 := 449) (pc' := 468) rfl (hb hby at_449) rfl (flt (by decide : ¬ ((11 : Int32) < (6 : Int32)))).2.2.2 (by decide) (by decide) hr) ?_
          show Go p e s below _ _ _ _ T177 (mkF m 468 (LA16 p1 p2 p3 p4 rp mp q cc o151 o159) [])
          refine Go.of (fun _ hr => XS.iload X177.here hx rfl (hb hby at_468) rfl  hr) ?_
          show Go p e s below _ _ _ _ T177 (mkF m 470 (LA16 p1 p2 p3 p4 rp mp q cc o151 o159) [(.int (6 : Int32))])
          refine Go.of (fun _ hr => XS.bipush X177.here hx rfl (hb hby at_470) hr) ?_
          show Go p e s below _ _ _ _ T177 (mkF m 472 (LA16 p1 p2 p3 p4 rp mp q cc o151 o159) [(.int (12 : Int32)), (.int (6 : Int32))])
          refine Go.of (fun _ hr => XS.icmpYes X177.here hx rfl (pc0 := 472) (pc' := 491) rfl (hb hby at_472) rfl (flt (by decide : ¬ ((12 : Int32) < (6 : Int32)))).2.2.2 (by decide) (by decide) hr) ?_
          show Go p e s below _ _ _ _ T177 (mkF m 491 (LA16 p1 p2 p3 p4 rp mp q cc o151 o159) [])
          refine Go.of (fun _ hr => XS.iload X177.here hx rfl (hb hby at_491) rfl  hr) ?_
          show Go p e s below _ _ _ _ T177 (mkF m 493 (LA16 p1 p2 p3 p4 rp mp q cc o151 o159) [(.int (6 : Int32))])
          refine Go.of (fun _ hr => XS.bipush X177.here hx rfl (hb hby at_493) hr) ?_
          show Go p e s below _ _ _ _ T177 (mkF m 495 (LA16 p1 p2 p3 p4 rp mp q cc o151 o159) [(.int (13 : Int32)), (.int (6 : Int32))])
          refine Go.of (fun _ hr => XS.icmpYes X177.here hx rfl (pc0 := 495) (pc' := 514) rfl (hb hby at_495) rfl (flt (by decide : ¬ ((13 : Int32) < (6 : Int32)))).2.2.2 (by decide) (by decide) hr) ?_
          show Go p e s below _ _ _ _ T177 (mkF m 514 (LA16 p1 p2 p3 p4 rp mp q cc o151 o159) [])
          refine Go.of (fun _ hr => XS.iload X177.here hx rfl (hb hby at_514) rfl  hr) ?_
          show Go p e s below _ _ _ _ T177 (mkF m 516 (LA16 p1 p2 p3 p4 rp mp q cc o151 o159) [(.int (6 : Int32))])
          refine Go.of (fun _ hr => XS.bipush X177.here hx rfl (hb hby at_516) hr) ?_
          show Go p e s below _ _ _ _ T177 (mkF m 518 (LA16 p1 p2 p3 p4 rp mp q cc o151 o159) [(.int (14 : Int32)), (.int (6 : Int32))])
          refine Go.of (fun _ hr => XS.icmpYes X177.here hx rfl (pc0 := 518) (pc' := 537) rfl (hb hby at_518) rfl (flt (by decide : ¬ ((14 : Int32) < (6 : Int32)))).2.2.2 (by decide) (by decide) hr) ?_
          show Go p e s below _ _ _ _ T177 (mkF m 537 (LA16 p1 p2 p3 p4 rp mp q cc o151 o159) [])
          refine Go.of (fun _ hr => XS.iload X177.here hx rfl (hb hby at_537) rfl  hr) ?_
          show Go p e s below _ _ _ _ T177 (mkF m 539 (LA16 p1 p2 p3 p4 rp mp q cc o151 o159) [(.int (6 : Int32))])
          refine Go.of (fun _ hr => XS.bipush X177.here hx rfl (hb hby at_539) hr) ?_
          show Go p e s below _ _ _ _ T177 (mkF m 541 (LA16 p1 p2 p3 p4 rp mp q cc o151 o159) [(.int (15 : Int32)), (.int (6 : Int32))])
          refine Go.of (fun _ hr => XS.icmpYes X177.here hx rfl (pc0 := 541) (pc' := 560) rfl (hb hby at_541) rfl (flt (by decide : ¬ ((15 : Int32) < (6 : Int32)))).2.2.2 (by decide) (by decide) hr) ?_
          show Go p e s below _ _ _ _ T177 (mkF m 560 (LA16 p1 p2 p3 p4 rp mp q cc o151 o159) [])
          obtain ⟨T178, h178, X178, e178, E178, A178, D178, -, st178⟩ := newO X177 hx hZ hown (hw _ (List.mem_of_getElem? (i := 6) rfl)) (hw _ (List.mem_of_getElem? (i := 7) rfl)) (hw _ (List.mem_of_getElem? (i := 8) rfl)) e177 (g := (mkF m 560 (LA16 p1 p2 p3 p4 rp mp q cc o151 o159) [])) rfl (hb hby at_560) (by decide) (by decide)
          obtain ⟨o178, g178⟩ : ∃ z, z = h177.size := ⟨_, rfl⟩
          rw [← g178] at A178 D178 st178
          have f179 := (f176.other W177 ne_o151_o159)
          have ne_o151_o178 : o151 ≠ o178 := Nat.ne_of_lt (Nat.lt_of_lt_of_le f179.lt (Nat.le_of_eq g178.symm))
          have ne_o159_o178 : o159 ≠ o178 := Nat.ne_of_lt (Nat.lt_of_lt_of_le V177.lt (Nat.le_of_eq g178.symm))
          have lt178 : o178 < h178.size := A178.lt
          have J178 := J177.add E178 g178 lt178
          have B178 := B177.mono E178.1
          have O178 := O177.ext E178
          have sz178 : h0.size ≤ o178 := Nat.le_trans K177.1 (Nat.le_of_eq g178.symm)
          have fr178 : h0.size ≤ o178 := sz178
          have K178 := K177.ext E178
          have F178_coder : Fld Z h178 o178 "java/lang/String" "coder" "B" (.int (0 : Int32)) := D178 (Or.inr (hw _ (List.mem_of_getElem? (i := 32) rfl))) (ty := .byte) (by decide)
          have F178_value : Fld Z h178 o178 "java/lang/String" "value" "[B" .null := D178 (Or.inr (hw _ (List.mem_of_getElem? (i := 34) rfl))) (ty := (.array .byte)) (by decide)
          refine Go.of (fun _ hr => st178 _ hr) ?_
          show Go p e s below _ _ _ _ T178 (mkF m 563 (LA16 p1 p2 p3 p4 rp mp q cc o151 o159) [(.ref o178)])
          refine Go.of (fun _ hr => XS.dup X178.here hx rfl (hb hby at_563) rfl rfl hr) ?_
          show Go p e s below _ _ _ _ T178 (mkF m 564 (LA16 p1 p2 p3 p4 rp mp q cc o151 o159) [(.ref o178), (.ref o178)])
          refine Go.of (fun _ hr => XS.aload X178.here hx rfl (hb hby at_564) rfl rfl hr) ?_
          show Go p e s below _ _ _ _ T178 (mkF m 566 (LA16 p1 p2 p3 p4 rp mp q cc o151 o159) [(.ref o159), (.ref o178), (.ref o178)])
          have f181 := (V177.ext E178)
          obtain ⟨_, b180, T180, h180, L180, e180, Cc180, X180, B180, J180, g180, hQ180, st180⟩ := own_callI Cc175 B178 J178 X178 rfl (hw _ (List.mem_of_getElem? (i := 9) rfl)) (hw _ (List.mem_of_getElem? (i := 10) rfl)) (hw _ (List.mem_of_getElem? (i := 8) rfl)) (hw _ (List.mem_of_getElem? (i := 11) rfl)) (by decide) (rm2 l Z a0 hw [] o178 o159 _ (outL bS 6 q cc) _ _ zc _ h178 n0 O178 h0.size (own_ole O0) K178.1 fr178 (List.mem_cons_self ..) (by rw [outL_len]; decide) (outL_rng bS_rng (by decide) (by decide) hq_cc) (by rw [outL_len]; decide) f181 ne_o159_o178 A178 F178_value F178_coder S_C hzc) e178 (g := (mkF m 566 (LA16 p1 p2 p3 p4 rp mp q cc o151 o159) [(.ref o159), (.ref o178), (.ref o178)])) rfl (by rw [hml]; rfl) (argsL := [(.ref o159)]) (rest := [(.ref o178)]) (lenOf pd8 rfl) rfl (W := 1) (by show 2 * 0 + _ ≤ _; exact Nat.le_of_eq rfl) (hb hby at_566) (by decide) (by decide) (by decide) (by decide)
          obtain ⟨rfl, Nq180, Kq180, t180, kt180, nt180, Fv180, Fc180, Vt180⟩ := hQ180
          have N180 := Fr.app N177 Nq180
          obtain ⟨hx, hZ, hown, hby, hml, hnm, hret, hlk⟩ := id Cc180
          have K180 := K178.trans Kq180 (allS (Or.inr sz178) all0)
          have O180 := O178.keep Kq180 (allS (Nat.le_trans (own_ole O0) fr178) all0)
          refine Go.of st180 ?_
          have nx_t180_o178 : t180 ≠ o178 := fun q => nt180 (by rw [q]; exact (List.mem_cons_self ..))
          have nx_t180_o159 : t180 ≠ o159 := fun q => nt180 (by rw [q]; exact (List.mem_cons_of_mem _ (List.mem_cons_self ..)))
          have nx_t180_o151 : t180 ≠ o151 := fun q => nt180 (by rw [q]; exact (List.mem_cons_of_mem _ (List.mem_cons_of_mem _ (List.mem_cons_self ..))))
          show Go p e s below _ _ _ _ T180 (mkF m 569 (LA16 p1 p2 p3 p4 rp mp q cc o151 o159) [(.ref o178)])
          refine Go.of (fun _ hr => XS.astore X180.here hx rfl (hb hby at_569) rfl rfl (l' := (LA17 p1 p2 p3 p4 rp mp q cc o151 o159 o178)) rfl hr) ?_
          show Go p e s below _ _ _ _ T180 (mkF m 571 (LA17 p1 p2 p3 p4 rp mp q cc o151 o159 o178) [])
          obtain ⟨T182, h182, X182, e182, E182, A182, D182, -, st182⟩ := newO X180 hx hZ hown (hw _ (List.mem_of_getElem? (i := 35) rfl)) (hw _ (List.mem_of_getElem? (i := 36) rfl)) (hw _ (List.mem_of_getElem? (i := 37) rfl)) e180 (g := (mkF m 571 (LA17 p1 p2 p3 p4 rp mp q cc o151 o159 o178) [])) rfl (hb hby at_571) (by decide) (by decide)
          obtain ⟨o182, g182⟩ : ∃ z, z = h180.size := ⟨_, rfl⟩
          rw [← g182] at A182 D182 st182
          have f183 := ((f179.ext E178).keep Kq180 (ninS ne_o151_o178 nin0))
          have ne_o151_o182 : o151 ≠ o182 := Nat.ne_of_lt (Nat.lt_of_lt_of_le f183.lt (Nat.le_of_eq g182.symm))
          have f184 := (f181.keep Kq180 (ninS ne_o159_o178 nin0))
          have ne_o159_o182 : o159 ≠ o182 := Nat.ne_of_lt (Nat.lt_of_lt_of_le f184.lt (Nat.le_of_eq g182.symm))
          have f185 := (A178.keep Kq180)
          have ne_o178_o182 : o178 ≠ o182 := Nat.ne_of_lt (Nat.lt_of_lt_of_le f185.lt (Nat.le_of_eq g182.symm))
          have ne_t180_o182 : t180 ≠ o182 := Nat.ne_of_lt (Nat.lt_of_lt_of_le Vt180.lt (Nat.le_of_eq g182.symm))
          have lt182 : o182 < h182.size := A182.lt
          have J182 := J180.add E182 g182 lt182
          have B182 := B180.mono E182.1
          have O182 := O180.ext E182
          have sz182 : h0.size ≤ o182 := Nat.le_trans K180.1 (Nat.le_of_eq g182.symm)
          have fr182 : h0.size ≤ o182 := sz182
          have K182 := K180.ext E182
          have F182_name : Fld Z h182 o182 "com/example/mthd/mthd/model/ApiMessage$Field" "name" "Ljava/lang/String;" .null := D182 (Or.inr (hw _ (List.mem_of_getElem? (i := 51) rfl))) (ty := (.object "java/lang/String")) (by decide)
          have F182_type : Fld Z h182 o182 "com/example/mthd/mthd/model/ApiMessage$Field" "type" "Ljava/lang/String;" .null := D182 (Or.inr (hw _ (List.mem_of_getElem? (i := 53) rfl))) (ty := (.object "java/lang/String")) (by decide)
          have F182_repeated : Fld Z h182 o182 "com/example/mthd/mthd/model/ApiMessage$Field" "repeated" "Z" (.int (0 : Int32)) := D182 (Or.inr (hw _ (List.mem_of_getElem? (i := 55) rfl))) (ty := .boolean) (by decide)
          have F182_map : Fld Z h182 o182 "com/example/mthd/mthd/model/ApiMessage$Field" "map" "Z" (.int (0 : Int32)) := D182 (Or.inr (hw _ (List.mem_of_getElem? (i := 57) rfl))) (ty := .boolean) (by decide)
          have F182_message : Fld Z h182 o182 "com/example/mthd/mthd/model/ApiMessage$Field" "message" "Ljava/util/Optional;" .null := D182 (Or.inr (hw _ (List.mem_of_getElem? (i := 59) rfl))) (ty := (.object "java/util/Optional")) (by decide)
          have F182_resource : Fld Z h182 o182 "com/example/mthd/mthd/model/ApiMessage$Field" "resource" "Ljava/util/Optional;" .null := D182 (Or.inr (hw _ (List.mem_of_getElem? (i := 61) rfl))) (ty := (.object "java/util/Optional")) (by decide)
          refine Go.of (fun _ hr => st182 _ hr) ?_
          show Go p e s below _ _ _ _ T182 (mkF m 574 (LA17 p1 p2 p3 p4 rp mp q cc o151 o159 o178) [(.ref o182)])
          refine Go.of (fun _ hr => XS.dup X182.here hx rfl (hb hby at_574) rfl rfl hr) ?_
          show Go p e s below _ _ _ _ T182 (mkF m 575 (LA17 p1 p2 p3 p4 rp mp q cc o151 o159 o178) [(.ref o182), (.ref o182)])
          obtain ⟨o186, t186, k186, b186, T186, h186, e186, Cc186, X186, B186, J186, E186, Sy186, na186, nt186, lt186, st186⟩ := own_ldcV Cc180 B182 J182 X182 lit0_in lit0_one (hw _ (List.mem_of_getElem? (i := 38) rfl)) (own_wS Z a0 hw) lit0_lat lit0_len (by rw [eb]; exact N180) (by rw [eb]; exact O0.2) e182 (g := (mkF m 575 (LA17 p1 p2 p3 p4 rp mp q cc o151 o159 o178) [(.ref o182), (.ref o182)])) rfl (hb hby at_575) (n := 4) lit0_sz (by decide) (by decide) (by decide)
          obtain ⟨hx, hZ, hown, hby, hml, hnm, hret, hlk⟩ := id Cc186
          have K186 := K182.ext E186
          have O186 := O182.ext E186
          have nx_o186_o182 : o186 ≠ o182 := fun q => na186 (by rw [q]; exact (List.mem_cons_self ..))
          have nx_o186_o178 : o186 ≠ o178 := fun q => na186 (by rw [q]; exact (List.mem_cons_of_mem _ (List.mem_cons_self ..)))
          have nx_o186_o159 : o186 ≠ o159 := fun q => na186 (by rw [q]; exact (List.mem_cons_of_mem _ (List.mem_cons_of_mem _ (List.mem_cons_self ..))))
          have nx_o186_o151 : o186 ≠ o151 := fun q => na186 (by rw [q]; exact (List.mem_cons_of_mem _ (List.mem_cons_of_mem _ (List.mem_cons_of_mem _ (List.mem_cons_self ..)))))
          have nx_t186_o182 : t186 ≠ o182 := fun q => nt186 (by rw [q]; exact (List.mem_cons_self ..))
          have nx_t186_o178 : t186 ≠ o178 := fun q => nt186 (by rw [q]; exact (List.mem_cons_of_mem _ (List.mem_cons_self ..)))
          have nx_t186_o159 : t186 ≠ o159 := fun q => nt186 (by rw [q]; exact (List.mem_cons_of_mem _ (List.mem_cons_of_mem _ (List.mem_cons_self ..))))
          have nx_t186_o151 : t186 ≠ o151 := fun q => nt186 (by rw [q]; exact (List.mem_cons_of_mem _ (List.mem_cons_of_mem _ (List.mem_cons_of_mem _ (List.mem_cons_self ..)))))
          refine Go.of (fun _ hr => st186 _ hr) ?_
          show Go p e s below _ _ _ _ T186 (mkF m 577 (LA17 p1 p2 p3 p4 rp mp q cc o151 o159 o178) [(.ref o186), (.ref o182), (.ref o182)])
          refine Go.of (fun _ hr => XS.aload X186.here hx rfl (hb hby at_577) rfl rfl hr) ?_
          show Go p e s below _ _ _ _ T186 (mkF m 579 (LA17 p1 p2 p3 p4 rp mp q cc o151 o159 o178) [(.ref o178), (.ref o186), (.ref o182), (.ref o182)])
          refine Go.of (fun _ hr => XS.iload X186.here hx rfl (hb hby at_579) rfl  hr) ?_
          show Go p e s below _ _ _ _ T186 (mkF m 581 (LA17 p1 p2 p3 p4 rp mp q cc o151 o159 o178) [(.int rp), (.ref o178), (.ref o186), (.ref o182), (.ref o182)])
          refine Go.of (fun _ hr => XS.iload X186.here hx rfl (hb hby at_581) rfl  hr) ?_
          show Go p e s below _ _ _ _ T186 (mkF m 583 (LA17 p1 p2 p3 p4 rp mp q cc o151 o159 o178) [(.int mp), (.int rp), (.ref o178), (.ref o186), (.ref o182), (.ref o182)])
          refine Go.of (fun _ hr => XS.aconstNull X186.here hx rfl (hb hby at_583) hr) ?_
          show Go p e s below _ _ _ _ T186 (mkF m 584 (LA17 p1 p2 p3 p4 rp mp q cc o151 o159 o178) [.null, (.int mp), (.int rp), (.ref o178), (.ref o186), (.ref o182), (.ref o182)])
          refine Go.of (fun _ hr => XS.aconstNull X186.here hx rfl (hb hby at_584) hr) ?_
          show Go p e s below _ _ _ _ T186 (mkF m 585 (LA17 p1 p2 p3 p4 rp mp q cc o151 o159 o178) [.null, .null, (.int mp), (.int rp), (.ref o178), (.ref o186), (.ref o182), (.ref o182)])
          have f188 := (A182.ext E186)
          have f189 := (F182_name.ext E186)
          have f190 := (F182_type.ext E186)
          have f191 := (F182_repeated.ext E186)
          have f192 := (F182_map.ext E186)
          have f193 := (F182_message.ext E186)
          have f194 := (F182_resource.ext E186)
          obtain ⟨_, b187, T187, h187, L187, e187, Cc187, X187, B187, J187, g187, hQ187, st187⟩ := own_callI Cc186 B186 J186 X186 rfl (hw _ (List.mem_of_getElem? (i := 41) rfl)) (hw _ (List.mem_of_getElem? (i := 42) rfl)) (hw _ (List.mem_of_getElem? (i := 37) rfl)) (hw _ (List.mem_of_getElem? (i := 43) rfl)) (by decide) (rm8 l Z a0 hw [] o182 _ o186 _ o178 _ rp _ mp _ _ _ h186 n0 O186 h0.size (own_ole O0) K186.1 fr182 (List.mem_cons_self ..) f188 f189 f190 f191 hz_rp f192 hz_mp f193 f194) e186 (g := (mkF m 585 (LA17 p1 p2 p3 p4 rp mp q cc o151 o159 o178) [.null, .null, (.int mp), (.int rp), (.ref o178), (.ref o186), (.ref o182), (.ref o182)])) rfl (by rw [hml]; rfl) (argsL := [(.ref o186), (.ref o178), (.int rp), (.int mp), .null, .null]) (rest := [(.ref o182)]) (lenOf pd9 rfl) rfl (W := 1) (by show 2 * 0 + _ ≤ _; exact Nat.le_of_eq rfl) (hb hby at_585) (by decide) (by decide) (by decide) (by decide)
          obtain ⟨rfl, Nq187, Kq187, Fs0_187, Fs1_187, Fs2_187, Fs3_187, Fs4_187, Fs5_187⟩ := hQ187
          have N187 := Fr.app N180 Nq187
          obtain ⟨hx, hZ, hown, hby, hml, hnm, hret, hlk⟩ := id Cc187
          have K187 := K186.trans Kq187 (allS (Or.inr sz182) all0)
          have O187 := O186.keep Kq187 (allS (Nat.le_trans (own_ole O0) fr182) all0)
          refine Go.of st187 ?_
          show Go p e s below _ _ _ _ T187 (mkF m 588 (LA17 p1 p2 p3 p4 rp mp q cc o151 o159 o178) [(.ref o182)])
          refine Go.of (fun _ hr => XS.astore X187.here hx rfl (hb hby at_588) rfl rfl (l' := #[.val (.int p1), .val (.int p2), .val (.int p3), .val (.int p4), .val (.int rp), .val (.int mp), .val (.int (0 : Int32)), .val (.int (0 : Int32)), .val (.int q), .val (.int cc), .val (.ref o151), .val (.int (6 : Int32)), .val (.ref o159), .val (.ref o178), .val (.ref o182), .unset, .unset]) rfl hr) ?_
          show Go p e s below _ _ _ _ T187 (mkF m 590 #[.val (.int p1), .val (.int p2), .val (.int p3), .val (.int p4), .val (.int rp), .val (.int mp), .val (.int (0 : Int32)), .val (.int (0 : Int32)), .val (.int q), .val (.int cc), .val (.ref o151), .val (.int (6 : Int32)), .val (.ref o159), .val (.ref o178), .val (.ref o182), .unset, .unset] [])
          have f195 := (f188.keep Kq187)
          have f196 := (((f185.ext E182).ext E186).keep Kq187)
          have f197 := (((Fv180.ext E182).ext E186).keep Kq187 (ninS ne_o178_o182 nin0))
          have f198 := (((Fc180.ext E182).ext E186).keep Kq187 (ninS ne_o178_o182 nin0))
          have f199 := (((Vt180.ext E182).ext E186).keep Kq187 (ninS ne_t180_o182 nin0))
          have f200 := (((f183.ext E182).ext E186).keep Kq187 (ninS ne_o151_o182 nin0))
          exact law_tail l Z a0 hw (by decide) (by decide) p1 p2 p3 p4 rp mp (0 : Int32) (0 : Int32) q cc o151 (6 : Int32) o159 o178 o182 t180 _ _ bS (outL bS 6 q cc) zc h187 n0 O187 nb hb0 (Nat.le_trans hnb K187.1) f195 Fs1_187 Fs2_187 f196 f197 f198 f199 f200 hq_q.1 (by rw [outL_len]; decide) (fin_S6 hz_rp hq_cc hq_q.1) S_C hzc Cc187 X187 e187 (fun y hy => Nat.le_trans hnb (N187 y hy)) (J187.sub (own_sub1 (List.mem_cons_of_mem _ (List.mem_cons_self ..)) (fun x hx => (List.mem_cons_of_mem _ (List.mem_cons_of_mem _ (List.mem_cons_of_mem _ (List.mem_cons_of_mem _ hx))))))) B187
        · rw [hd]
          show Go p e s below _ _ _ _ s₁ (mkF m 46 (LA3 p1 p2 p3 p4 rp mp) [(.int (1 : Int32))])
          refine Go.of (fun _ hr => XS.istore X0.here hx rfl (hb hby at_46) rfl (l' := (LA18 p1 p2 p3 p4 rp mp)) rfl hr) ?_
          show Go p e s below _ _ _ _ s₁ (mkF m 48 (LA18 p1 p2 p3 p4 rp mp) [])
          refine Go.of (fun _ hr => XS.iloadN X0.here hx rfl (hb hby at_48) rfl  hr) ?_
          show Go p e s below _ _ _ _ s₁ (mkF m 49 (LA18 p1 p2 p3 p4 rp mp) [(.int p2)])
          refine Go.of (fun _ hr => X0.ldcInt hx hown (mvT hZ (hw _ (List.mem_of_getElem? (i := 0) rfl))) (g := (mkF m 49 (LA18 p1 p2 p3 p4 rp mp) [(.int p2)])) rfl (hb hby at_49) _ hr) ?_
          show Go p e s below _ _ _ _ s₁ (mkF m 51 (LA18 p1 p2 p3 p4 rp mp) [(.int (2147483647 : Int32)), (.int p2)])
          refine Go.of (fun _ hr => XS.iand X0.here hx rfl (hb hby at_51) rfl hr) ?_
          show Go p e s below _ _ _ _ s₁ (mkF m 52 (LA18 p1 p2 p3 p4 rp mp) [(.int (p2 &&& (2147483647 : Int32)))])
          refine Go.of (fun _ hr => XS.bipush X0.here hx rfl (hb hby at_52) hr) ?_
          show Go p e s below _ _ _ _ s₁ (mkF m 54 (LA18 p1 p2 p3 p4 rp mp) [(.int (16 : Int32)), (.int (p2 &&& (2147483647 : Int32)))])
          refine Go.of (fun _ hr => iremM X0 hx rfl (hb hby at_54) rfl (by decide) hr) ?_
          show Go p e s below _ _ _ _ s₁ (mkF m 55 (LA18 p1 p2 p3 p4 rp mp) [(.int ((p2 &&& (2147483647 : Int32)) % (16 : Int32)))])
          have hq_q := rem16 p2
          generalize ((p2 &&& (2147483647 : Int32)) % (16 : Int32)) = q at hq_q ⊢
          show Go p e s below _ _ _ _ s₁ (mkF m 55 (LA18 p1 p2 p3 p4 rp mp) [(.int q)])
          refine Go.of (fun _ hr => XS.istore X0.here hx rfl (hb hby at_55) rfl (l' := (LA19 p1 p2 p3 p4 rp mp q)) rfl hr) ?_
          show Go p e s below _ _ _ _ s₁ (mkF m 57 (LA19 p1 p2 p3 p4 rp mp q) [])
          refine Go.of (fun _ hr => XS.iloadN X0.here hx rfl (hb hby at_57) rfl  hr) ?_
          show Go p e s below _ _ _ _ s₁ (mkF m 58 (LA19 p1 p2 p3 p4 rp mp q) [(.int p3)])
          refine Go.of (fun _ hr => XS.sipush X0.here hx rfl (hb hby at_58) hr) ?_
          show Go p e s below _ _ _ _ s₁ (mkF m 61 (LA19 p1 p2 p3 p4 rp mp q) [(.int (255 : Int32)), (.int p3)])
          refine Go.of (fun _ hr => XS.iand X0.here hx rfl (hb hby at_61) rfl hr) ?_
          show Go p e s below _ _ _ _ s₁ (mkF m 62 (LA19 p1 p2 p3 p4 rp mp q) [(.int (p3 &&& (255 : Int32)))])
          refine Go.of (fun _ hr => XS.i2c X0.here hx rfl (hb hby at_62) rfl hr) ?_
          show Go p e s below _ _ _ _ s₁ (mkF m 63 (LA19 p1 p2 p3 p4 rp mp q) [(.int ((p3 &&& (255 : Int32)).toUInt32.toUInt16.toUInt32.toInt32))])
          have hq_cc := chr8 p3
          generalize ((p3 &&& (255 : Int32)).toUInt32.toUInt16.toUInt32.toInt32) = cc at hq_cc ⊢
          show Go p e s below _ _ _ _ s₁ (mkF m 63 (LA19 p1 p2 p3 p4 rp mp q) [(.int cc)])
          refine Go.of (fun _ hr => XS.istore X0.here hx rfl (hb hby at_63) rfl (l' := (LA20 p1 p2 p3 p4 rp mp q cc)) rfl hr) ?_
          show Go p e s below _ _ _ _ s₁ (mkF m 65 (LA20 p1 p2 p3 p4 rp mp q cc) [])
          refine Go.of (fun _ hr => XS.iload X0.here hx rfl (hb hby at_65) rfl  hr) ?_
          show Go p e s below _ _ _ _ s₁ (mkF m 67 (LA20 p1 p2 p3 p4 rp mp q cc) [(.int (0 : Int32))])
          refine Go.of (fun _ hr => XS.ifYes X0.here hx rfl (pc0 := 67) (pc' := 161) rfl (hb hby at_67) rfl ((if0 _ _).trans (teq (by decide : ((0 : Int32) = (0 : Int32)))).1) (by decide) (by decide) hr) ?_
          show Go p e s below _ _ _ _ s₁ (mkF m 161 (LA20 p1 p2 p3 p4 rp mp q cc) [])
          refine Go.of (fun _ hr => XS.bipush X0.here hx rfl (hb hby at_161) hr) ?_
          show Go p e s below _ _ _ _ s₁ (mkF m 163 (LA20 p1 p2 p3 p4 rp mp q cc) [(.int (6 : Int32))])
          obtain ⟨T201, h201, k201, X201, e201, E201, A201, st201⟩ := newP X0 hx hZ (hw _ (List.mem_of_getElem? (i := 1) rfl)) e0 (g := (mkF m 163 (LA20 p1 p2 p3 p4 rp mp q cc) [(.int (6 : Int32))])) rfl (hb hby at_163) rfl (by decide) (cap := 6) (by decide) (by decide) (by decide) (by decide)
          obtain ⟨o201, g201⟩ : ∃ z, z = h0.size := ⟨_, rfl⟩
          rw [← g201] at A201 st201
          have V201 : Arv Z h201 o201 k201 .char (6 : Int32) [(.int (0 : Int32)), (.int (0 : Int32)), (.int (0 : Int32)), (.int (0 : Int32)), (.int (0 : Int32)), (.int (0 : Int32))] (.int (0 : Int32)) := (Arv.new A201 (by decide)).pad (pad_rep [] (.int (0 : Int32)) 6)
          have lt201 : o201 < h201.size := A201.lt
          have J201 := J0.add E201 g201 lt201
          have B201 := B0.mono E201.1
          have O201 := O0.ext E201
          have sz201 : h0.size ≤ o201 := Nat.le_trans K0.1 (Nat.le_of_eq g201.symm)
          have fr201 : h0.size ≤ o201 := sz201
          have K201 := K0.ext E201
          refine Go.of (fun _ hr => st201 _ hr) ?_
          show Go p e s below _ _ _ _ T201 (mkF m 165 (LA20 p1 p2 p3 p4 rp mp q cc) [(.ref o201)])
          refine Go.of (fun _ hr => XS.dup X201.here hx rfl (hb hby at_165) rfl rfl hr) ?_
          show Go p e s below _ _ _ _ T201 (mkF m 166 (LA20 p1 p2 p3 p4 rp mp q cc) [(.ref o201), (.ref o201)])
          refine Go.of (fun _ hr => XS.iconst X201.here hx rfl (hb hby at_166) hr) ?_
          show Go p e s below _ _ _ _ T201 (mkF m 167 (LA20 p1 p2 p3 p4 rp mp q cc) [(.int (0 : Int32)), (.ref o201), (.ref o201)])
          refine Go.of (fun _ hr => XS.bipush X201.here hx rfl (hb hby at_167) hr) ?_
          show Go p e s below _ _ _ _ T201 (mkF m 169 (LA20 p1 p2 p3 p4 rp mp q cc) [(.int (115 : Int32)), (.int (0 : Int32)), (.ref o201), (.ref o201)])
          obtain ⟨cl202, Ar202, q202, S202, N202_, H202, G202⟩ := id V201
          have hin202 : ¬ ((0 : Int32) < 0 ∨ cl202.slots.size ≤ ((0 : Int32)).toNatClampNeg) := inb_of S202 ⟨by decide, by decide⟩
          obtain ⟨T202, h202, X202, e202, W202, st202⟩ := stC X201 hx hZ e201 Ar202 (j := (0 : Int32)) hin202 (g := (mkF m 169 (LA20 p1 p2 p3 p4 rp mp q cc) [(.int (115 : Int32)), (.int (0 : Int32)), (.ref o201), (.ref o201)])) rfl rfl (hb hby at_169)
          have W202' := W202
          rw [show nar .char (115 : Int32) = (115 : Int32) from rfl] at W202'
          have V202 : Arv Z h202 o201 k201 .char (6 : Int32) [(.int (115 : Int32)), (.int (0 : Int32)), (.int (0 : Int32)), (.int (0 : Int32)), (.int (0 : Int32)), (.int (0 : Int32))] (.int (0 : Int32)) := Arv.set Ar202 q202 S202 N202_ H202 G202 rfl W202' 0 rfl (by simp)
          have N202 := Fr.snoc X202 N0 fr201
          have J202 := J201.wr W202 (List.mem_cons_self ..)
          have B202 := B201.mono (Nat.le_of_eq W202.size.symm)
          have O202 := O201.wr W202 (Nat.le_trans (own_ole O0) fr201)
          have K202 := K201.wr W202 (Or.inr sz201)
          refine Go.of (fun _ hr => st202 _ hr) ?_
          show Go p e s below _ _ _ _ T202 (mkF m 170 (LA20 p1 p2 p3 p4 rp mp q cc) [(.ref o201)])
          refine Go.of (fun _ hr => XS.dup X202.here hx rfl (hb hby at_170) rfl rfl hr) ?_
          show Go p e s below _ _ _ _ T202 (mkF m 171 (LA20 p1 p2 p3 p4 rp mp q cc) [(.ref o201), (.ref o201)])
          refine Go.of (fun _ hr => XS.iconst X202.here hx rfl (hb hby at_171) hr) ?_
          show Go p e s below _ _ _ _ T202 (mkF m 172 (LA20 p1 p2 p3 p4 rp mp q cc) [(.int (1 : Int32)), (.ref o201), (.ref o201)])
          refine Go.of (fun _ hr => XS.bipush X202.here hx rfl (hb hby at_172) hr) ?_
          show Go p e s below _ _ _ _ T202 (mkF m 174 (LA20 p1 p2 p3 p4 rp mp q cc) [(.int (116 : Int32)), (.int (1 : Int32)), (.ref o201), (.ref o201)])
          obtain ⟨cl203, Ar203, q203, S203, N203_, H203, G203⟩ := id V202
          have hin203 : ¬ ((1 : Int32) < 0 ∨ cl203.slots.size ≤ ((1 : Int32)).toNatClampNeg) := inb_of S203 ⟨by decide, by decide⟩
          obtain ⟨T203, h203, X203, e203, W203, st203⟩ := stC X202 hx hZ e202 Ar203 (j := (1 : Int32)) hin203 (g := (mkF m 174 (LA20 p1 p2 p3 p4 rp mp q cc) [(.int (116 : Int32)), (.int (1 : Int32)), (.ref o201), (.ref o201)])) rfl rfl (hb hby at_174)
          have W203' := W203
          rw [show nar .char (116 : Int32) = (116 : Int32) from rfl] at W203'
          have V203 : Arv Z h203 o201 k201 .char (6 : Int32) [(.int (115 : Int32)), (.int (116 : Int32)), (.int (0 : Int32)), (.int (0 : Int32)), (.int (0 : Int32)), (.int (0 : Int32))] (.int (0 : Int32)) := Arv.set Ar203 q203 S203 N203_ H203 G203 rfl W203' 1 rfl (by simp)
          have N203 := Fr.snoc X203 N202 fr201
          have J203 := J202.wr W203 (List.mem_cons_self ..)
          have B203 := B202.mono (Nat.le_of_eq W203.size.symm)
          have O203 := O202.wr W203 (Nat.le_trans (own_ole O0) fr201)
          have K203 := K202.wr W203 (Or.inr sz201)
          refine Go.of (fun _ hr => st203 _ hr) ?_
          show Go p e s below _ _ _ _ T203 (mkF m 175 (LA20 p1 p2 p3 p4 rp mp q cc) [(.ref o201)])
          refine Go.of (fun _ hr => XS.dup X203.here hx rfl (hb hby at_175) rfl rfl hr) ?_
          show Go p e s below _ _ _ _ T203 (mkF m 176 (LA20 p1 p2 p3 p4 rp mp q cc) [(.ref o201), (.ref o201)])
          refine Go.of (fun _ hr => XS.iconst X203.here hx rfl (hb hby at_176) hr) ?_
          show Go p e s below _ _ _ _ T203 (mkF m 177 (LA20 p1 p2 p3 p4 rp mp q cc) [(.int (2 : Int32)), (.ref o201), (.ref o201)])
          refine Go.of (fun _ hr => XS.bipush X203.here hx rfl (hb hby at_177) hr) ?_
          show Go p e s below _ _ _ _ T203 (mkF m 179 (LA20 p1 p2 p3 p4 rp mp q cc) [(.int (114 : Int32)), (.int (2 : Int32)), (.ref o201), (.ref o201)])
          obtain ⟨cl204, Ar204, q204, S204, N204_, H204, G204⟩ := id V203
          have hin204 : ¬ ((2 : Int32) < 0 ∨ cl204.slots.size ≤ ((2 : Int32)).toNatClampNeg) := inb_of S204 ⟨by decide, by decide⟩
          obtain ⟨T204, h204, X204, e204, W204, st204⟩ := stC X203 hx hZ e203 Ar204 (j := (2 : Int32)) hin204 (g := (mkF m 179 (LA20 p1 p2 p3 p4 rp mp q cc) [(.int (114 : Int32)), (.int (2 : Int32)), (.ref o201), (.ref o201)])) rfl rfl (hb hby at_179)
          have W204' := W204
          rw [show nar .char (114 : Int32) = (114 : Int32) from rfl] at W204'
          have V204 : Arv Z h204 o201 k201 .char (6 : Int32) [(.int (115 : Int32)), (.int (116 : Int32)), (.int (114 : Int32)), (.int (0 : Int32)), (.int (0 : Int32)), (.int (0 : Int32))] (.int (0 : Int32)) := Arv.set Ar204 q204 S204 N204_ H204 G204 rfl W204' 2 rfl (by simp)
          have N204 := Fr.snoc X204 N203 fr201
          have J204 := J203.wr W204 (List.mem_cons_self ..)
          have B204 := B203.mono (Nat.le_of_eq W204.size.symm)
          have O204 := O203.wr W204 (Nat.le_trans (own_ole O0) fr201)
          have K204 := K203.wr W204 (Or.inr sz201)
          refine Go.of (fun _ hr => st204 _ hr) ?_
          show Go p e s below _ _ _ _ T204 (mkF m 180 (LA20 p1 p2 p3 p4 rp mp q cc) [(.ref o201)])
          refine Go.of (fun _ hr => XS.dup X204.here hx rfl (hb hby at_180) rfl rfl hr) ?_
          show Go p e s below _ _ _ _ T204 (mkF m 181 (LA20 p1 p2 p3 p4 rp mp q cc) [(.ref o201), (.ref o201)])
          refine Go.of (fun _ hr => XS.iconst X204.here hx rfl (hb hby at_181) hr) ?_
          show Go p e s below _ _ _ _ T204 (mkF m 182 (LA20 p1 p2 p3 p4 rp mp q cc) [(.int (3 : Int32)), (.ref o201), (.ref o201)])
          refine Go.of (fun _ hr => XS.bipush X204.here hx rfl (hb hby at_182) hr) ?_
          show Go p e s below _ _ _ _ T204 (mkF m 184 (LA20 p1 p2 p3 p4 rp mp q cc) [(.int (105 : Int32)), (.int (3 : Int32)), (.ref o201), (.ref o201)])
          obtain ⟨cl205, Ar205, q205, S205, N205_, H205, G205⟩ := id V204
          have hin205 : ¬ ((3 : Int32) < 0 ∨ cl205.slots.size ≤ ((3 : Int32)).toNatClampNeg) := inb_of S205 ⟨by decide, by decide⟩
          obtain ⟨T205, h205, X205, e205, W205, st205⟩ := stC X204 hx hZ e204 Ar205 (j := (3 : Int32)) hin205 (g := (mkF m 184 (LA20 p1 p2 p3 p4 rp mp q cc) [(.int (105 : Int32)), (.int (3 : Int32)), (.ref o201), (.ref o201)])) rfl rfl (hb hby at_184)
          have W205' := W205
          rw [show nar .char (105 : Int32) = (105 : Int32) from rfl] at W205'
          have V205 : Arv Z h205 o201 k201 .char (6 : Int32) [(.int (115 : Int32)), (.int (116 : Int32)), (.int (114 : Int32)), (.int (105 : Int32)), (.int (0 : Int32)), (.int (0 : Int32))] (.int (0 : Int32)) := Arv.set Ar205 q205 S205 N205_ H205 G205 rfl W205' 3 rfl (by simp)
          have N205 := Fr.snoc X205 N204 fr201
          have J205 := J204.wr W205 (List.mem_cons_self ..)
          have B205 := B204.mono (Nat.le_of_eq W205.size.symm)
          have O205 := O204.wr W205 (Nat.le_trans (own_ole O0) fr201)
          have K205 := K204.wr W205 (Or.inr sz201)
          refine Go.of (fun _ hr => st205 _ hr) ?_
          show Go p e s below _ _ _ _ T205 (mkF m 185 (LA20 p1 p2 p3 p4 rp mp q cc) [(.ref o201)])
          refine Go.of (fun _ hr => XS.dup X205.here hx rfl (hb hby at_185) rfl rfl hr) ?_
          show Go p e s below _ _ _ _ T205 (mkF m 186 (LA20 p1 p2 p3 p4 rp mp q cc) [(.ref o201), (.ref o201)])
          refine Go.of (fun _ hr => XS.iconst X205.here hx rfl (hb hby at_186) hr) ?_
          show Go p e s below _ _ _ _ T205 (mkF m 187 (LA20 p1 p2 p3 p4 rp mp q cc) [(.int (4 : Int32)), (.ref o201), (.ref o201)])
          refine Go.of (fun _ hr => XS.bipush X205.here hx rfl (hb hby at_187) hr) ?_
          show Go p e s below _ _ _ _ T205 (mkF m 189 (LA20 p1 p2 p3 p4 rp mp q cc) [(.int (110 : Int32)), (.int (4 : Int32)), (.ref o201), (.ref o201)])
          obtain ⟨cl206, Ar206, q206, S206, N206_, H206, G206⟩ := id V205
          have hin206 : ¬ ((4 : Int32) < 0 ∨ cl206.slots.size ≤ ((4 : Int32)).toNatClampNeg) := inb_of S206 ⟨by decide, by decide⟩
          obtain ⟨T206, h206, X206, e206, W206, st206⟩ := stC X205 hx hZ e205 Ar206 (j := (4 : Int32)) hin206 (g := (mkF m 189 (LA20 p1 p2 p3 p4 rp mp q cc) [(.int (110 : Int32)), (.int (4 : Int32)), (.ref o201), (.ref o201)])) rfl rfl (hb hby at_189)
          have W206' := W206
          rw [show nar .char (110 : Int32) = (110 : Int32) from rfl] at W206'
          have V206 : Arv Z h206 o201 k201 .char (6 : Int32) [(.int (115 : Int32)), (.int (116 : Int32)), (.int (114 : Int32)), (.int (105 : Int32)), (.int (110 : Int32)), (.int (0 : Int32))] (.int (0 : Int32)) := Arv.set Ar206 q206 S206 N206_ H206 G206 rfl W206' 4 rfl (by simp)
          have N206 := Fr.snoc X206 N205 fr201
          have J206 := J205.wr W206 (List.mem_cons_self ..)
          have B206 := B205.mono (Nat.le_of_eq W206.size.symm)
          have O206 := O205.wr W206 (Nat.le_trans (own_ole O0) fr201)
          have K206 := K205.wr W206 (Or.inr sz201)
          refine Go.of (fun _ hr => st206 _ hr) ?_
          show Go p e s below _ _ _ _ T206 (mkF m 190 (LA20 p1 p2 p3 p4 rp mp q cc) [(.ref o201)])
          refine Go.of (fun _ hr => XS.dup X206.here hx rfl (hb hby at_190) rfl rfl hr) ?_
          show Go p e s below _ _ _ _ T206 (mkF m 191 (LA20 p1 p2 p3 p4 rp mp q cc) [(.ref o201), (.ref o201)])
          refine Go.of (fun _ hr => XS.iconst X206.here hx rfl (hb hby at_191) hr) ?_
          show Go p e s below _ _ _ _ T206 (mkF m 192 (LA20 p1 p2 p3 p4 rp mp q cc) [(.int (5 : Int32)), (.ref o201), (.ref o201)])
          refine Go.of (fun _ hr => XS.bipush X206.here hx rfl (hb hby at_192) hr) ?_
          show Go p e s below _ _ _ _ T206 (mkF m 194 (LA20 p1 p2 p3 p4 rp mp q cc) [(.int (103 : Int32)), (.int (5 : Int32)), (.ref o201), (.ref o201)])
          obtain ⟨cl207, Ar207, q207, S207, N207_, H207, G207⟩ := id V206
          have hin207 : ¬ ((5 : Int32) < 0 ∨ cl207.slots.size ≤ ((5 : Int32)).toNatClampNeg) := inb_of S207 ⟨by decide, by decide⟩
          obtain ⟨T207, h207, X207, e207, W207, st207⟩ := stC X206 hx hZ e206 Ar207 (j := (5 : Int32)) hin207 (g := (mkF m 194 (LA20 p1 p2 p3 p4 rp mp q cc) [(.int (103 : Int32)), (.int (5 : Int32)), (.ref o201), (.ref o201)])) rfl rfl (hb hby at_194)
          have W207' := W207
          rw [show nar .char (103 : Int32) = (103 : Int32) from rfl] at W207'
          have V207 : Arv Z h207 o201 k201 .char (6 : Int32) [(.int (115 : Int32)), (.int (116 : Int32)), (.int (114 : Int32)), (.int (105 : Int32)), (.int (110 : Int32)), (.int (103 : Int32))] (.int (0 : Int32)) := Arv.set Ar207 q207 S207 N207_ H207 G207 rfl W207' 5 rfl (by simp)
          have N207 := Fr.snoc X207 N206 fr201
          have J207 := J206.wr W207 (List.mem_cons_self ..)
          have B207 := B206.mono (Nat.le_of_eq W207.size.symm)
          have O207 := O206.wr W207 (Nat.le_trans (own_ole O0) fr201)
          have K207 := K206.wr W207 (Or.inr sz201)
          refine Go.of (fun _ hr => st207 _ hr) ?_
          show Go p e s below _ _ _ _ T207 (mkF m 195 (LA20 p1 p2 p3 p4 rp mp q cc) [(.ref o201)])
          refine Go.of (fun _ hr => XS.astore X207.here hx rfl (hb hby at_195) rfl rfl (l' := (LA21 p1 p2 p3 p4 rp mp q cc o201)) rfl hr) ?_
          show Go p e s below _ _ _ _ T207 (mkF m 197 (LA21 p1 p2 p3 p4 rp mp q cc o201) [])
          refine Go.of (fun _ hr => XS.aload X207.here hx rfl (hb hby at_197) rfl rfl hr) ?_
          show Go p e s below _ _ _ _ T207 (mkF m 199 (LA21 p1 p2 p3 p4 rp mp q cc o201) [(.ref o201)])
          obtain ⟨cl208, Ar208, q208, S208, N208_, H208, G208⟩ := id V207
          refine Go.of (fun _ hr => X207.arraylength hx (by rw [e207]; exact Ar208.1) (State.isArrayOf_alike hZ.alike Ar208.2.1) (g := (mkF m 199 (LA21 p1 p2 p3 p4 rp mp q cc o201) [(.ref o201)])) rfl rfl (hb hby at_199) _ hr) ?_
          rw [len_of S208 N208_]
          show Go p e s below _ _ _ _ T207 (mkF m 200 (LA21 p1 p2 p3 p4 rp mp q cc o201) [(.int (6 : Int32))])
          refine Go.of (fun _ hr => XS.iload X207.here hx rfl (hb hby at_200) rfl  hr) ?_
          show Go p e s below _ _ _ _ T207 (mkF m 202 (LA21 p1 p2 p3 p4 rp mp q cc o201) [(.int (1 : Int32)), (.int (6 : Int32))])
          refine Go.of (fun _ hr => XS.iadd X207.here hx rfl (hb hby at_202) rfl hr) ?_
          show Go p e s below _ _ _ _ T207 (mkF m 203 (LA21 p1 p2 p3 p4 rp mp q cc o201) [(.int (7 : Int32))])
          refine Go.of (fun _ hr => XS.istore X207.here hx rfl (hb hby at_203) rfl (l' := (LA22 p1 p2 p3 p4 rp mp q cc o201)) rfl hr) ?_
          show Go p e s below _ _ _ _ T207 (mkF m 205 (LA22 p1 p2 p3 p4 rp mp q cc o201) [])
          refine Go.of (fun _ hr => XS.iload X207.here hx rfl (hb hby at_205) rfl  hr) ?_
          show Go p e s below _ _ _ _ T207 (mkF m 207 (LA22 p1 p2 p3 p4 rp mp q cc o201) [(.int (7 : Int32))])
          obtain ⟨T209, h209, k209, X209, e209, E209, A209, st209⟩ := newP X207 hx hZ (hw _ (List.mem_of_getElem? (i := 1) rfl)) e207 (g := (mkF m 207 (LA22 p1 p2 p3 p4 rp mp q cc o201) [(.int (7 : Int32))])) rfl (hb hby at_207) rfl (by decide) (cap := 7) (by decide) (by decide) (by decide) (by decide)
          obtain ⟨o209, g209⟩ : ∃ z, z = h207.size := ⟨_, rfl⟩
          rw [← g209] at A209 st209
          have ne_o201_o209 : o201 ≠ o209 := Nat.ne_of_lt (Nat.lt_of_lt_of_le V207.lt (Nat.le_of_eq g209.symm))
          have V209 : Arv Z h209 o209 k209 .char (7 : Int32) [(.int (0 : Int32)), (.int (0 : Int32)), (.int (0 : Int32)), (.int (0 : Int32)), (.int (0 : Int32)), (.int (0 : Int32)), (.int (0 : Int32))] (.int (0 : Int32)) := (Arv.new A209 (by decide)).pad (pad_rep [] (.int (0 : Int32)) 7)
          have lt209 : o209 < h209.size := A209.lt
          have J209 := J207.add E209 g209 lt209
          have B209 := B207.mono E209.1
          have O209 := O207.ext E209
          have sz209 : h0.size ≤ o209 := Nat.le_trans K207.1 (Nat.le_of_eq g209.symm)
          have fr209 : h0.size ≤ o209 := sz209
          have K209 := K207.ext E209
          refine Go.of (fun _ hr => st209 _ hr) ?_
          show Go p e s below _ _ _ _ T209 (mkF m 209 (LA22 p1 p2 p3 p4 rp mp q cc o201) [(.ref o209)])
          refine Go.of (fun _ hr => XS.astore X209.here hx rfl (hb hby at_209) rfl rfl (l' := (LA23 p1 p2 p3 p4 rp mp q cc o201 o209)) rfl hr) ?_
          show Go p e s below _ _ _ _ T209 (mkF m 211 (LA23 p1 p2 p3 p4 rp mp q cc o201 o209) [])
          refine Go.of (fun _ hr => XS.iload X209.here hx rfl (hb hby at_211) rfl  hr) ?_
          show Go p e s below _ _ _ _ T209 (mkF m 213 (LA23 p1 p2 p3 p4 rp mp q cc o201 o209) [(.int (7 : Int32))])
          refine Go.of (fun _ hr => XS.ifNo X209.here hx rfl (hb hby at_213) rfl ((if0 _ _).trans (tlt (by decide : ((0 : Int32) < (7 : Int32)))).2.2.2) hr) ?_
          show Go p e s below _ _ _ _ T209 (mkF m 216 (LA23 p1 p2 p3 p4 rp mp q cc o201 o209) [])
          refine Go.of (fun _ hr => XS.aload X209.here hx rfl (hb hby at_216) rfl rfl hr) ?_
          show Go p e s below _ _ _ _ T209 (mkF m 218 (LA23 p1 p2 p3 p4 rp mp q cc o201 o209) [(.ref o209)])
          refine Go.of (fun _ hr => XS.iconst X209.here hx rfl (hb hby at_218) hr) ?_
          show Go p e s below _ _ _ _ T209 (mkF m 219 (LA23 p1 p2 p3 p4 rp mp q cc o201 o209) [(.int (0 : Int32)), (.ref o209)])
          refine Go.of (fun _ hr => XS.aload X209.here hx rfl (hb hby at_219) rfl rfl hr) ?_
          show Go p e s below _ _ _ _ T209 (mkF m 221 (LA23 p1 p2 p3 p4 rp mp q cc o201 o209) [(.ref o201), (.int (0 : Int32)), (.ref o209)])
          refine Go.of (fun _ hr => XS.iconst X209.here hx rfl (hb hby at_221) hr) ?_
          show Go p e s below _ _ _ _ T209 (mkF m 222 (LA23 p1 p2 p3 p4 rp mp q cc o201 o209) [(.int (0 : Int32)), (.ref o201), (.int (0 : Int32)), (.ref o209)])
          refine Go.of (fun _ hr => XS.iload X209.here hx rfl (hb hby at_222) rfl  hr) ?_
          show Go p e s below _ _ _ _ T209 (mkF m 224 (LA23 p1 p2 p3 p4 rp mp q cc o201 o209) [(.int q), (.int (0 : Int32)), (.ref o201), (.int (0 : Int32)), (.ref o209)])
          refine Go.of (fun _ hr => XS.iload X209.here hx rfl (hb hby at_224) rfl  hr) ?_
          show Go p e s below _ _ _ _ T209 (mkF m 226 (LA23 p1 p2 p3 p4 rp mp q cc o201 o209) [(.int cc), (.int q), (.int (0 : Int32)), (.ref o201), (.int (0 : Int32)), (.ref o209)])
          have f211 := (V207.ext E209)
          obtain ⟨_, b210, T210, h210, L210, e210, Cc210, X210, B210, J210, g210, hQ210, st210⟩ := own_callS Cc B209 J209 X209 (hw _ (List.mem_of_getElem? (i := 2) rfl)) (hw _ (List.mem_of_getElem? (i := 3) rfl)) (hw _ (List.mem_of_getElem? (i := 4) rfl)) (hw _ (List.mem_of_getElem? (i := 5) rfl)) (by decide) (rm1 l Z a0 hw [] o201 _ (0 : Int32) q cc bS _ h209 n0 O209 h0.size (own_ole O0) K209.1 bS_rng (by decide) (by decide) hq_cc f211) e209 (g := (mkF m 226 (LA23 p1 p2 p3 p4 rp mp q cc o201 o209) [(.int cc), (.int q), (.int (0 : Int32)), (.ref o201), (.int (0 : Int32)), (.ref o209)])) rfl (by rw [hml]; rfl) (argsL := [(.ref o201), (.int (0 : Int32)), (.int q), (.int cc)]) (rest := [(.int (0 : Int32)), (.ref o209)]) (lenOf pd7 rfl) rfl (W := 2) (by show 2 * 0 + _ ≤ _; exact Nat.le_of_eq rfl) (hb hby at_226) (by decide) (by decide) (by decide) (by decide)
          obtain ⟨rfl, Nq210, hh210⟩ := hQ210
          have N210 := Fr.app N207 Nq210
          obtain ⟨hx, hZ, hown, hby, hml, hnm, hret, hlk⟩ := id Cc210
          rw [hh210] at e210 B210 J210
          refine Go.of st210 ?_
          show Go p e s below _ _ _ _ T210 (mkF m 229 (LA23 p1 p2 p3 p4 rp mp q cc o201 o209) [(.int (atV bS (0 : Int32) q cc)), (.int (0 : Int32)), (.ref o209)])
          have Vz : Arv Z h209 o209 k209 .char (7 : Int32) ((outL bS 0 q cc).map Value.int) (.int 0) := Arv.fill0 V209
          obtain ⟨cl212, Ar212, q212, S212, N212_, H212, G212⟩ := id Vz
          have hin212 : ¬ ((0 : Int32) < 0 ∨ cl212.slots.size ≤ ((0 : Int32)).toNatClampNeg) := inb_of S212 ⟨by decide, by decide⟩
          obtain ⟨T212, h212, X212, e212, W212, st212⟩ := stC X210 hx hZ e210 Ar212 (j := (0 : Int32)) hin212 (g := (mkF m 229 (LA23 p1 p2 p3 p4 rp mp q cc o201 o209) [(.int (atV bS (0 : Int32) q cc)), (.int (0 : Int32)), (.ref o209)])) rfl rfl (hb hby at_229)
          rw [nar_c (atV_rng bS_rng (by decide) (by decide) hq_cc).1 (le255 (atV_rng bS_rng (by decide) (by decide) hq_cc).2)] at W212
          have V212 : Arv Z h212 o209 k209 .char (7 : Int32) ((outL bS 1 q cc).map Value.int) (.int 0) := outL_push bS 0 q cc ▸ own_push Vz W212 (by rw [List.length_map, outL_len]; decide) (fits_c (atV_rng bS_rng (by decide) (by decide) hq_cc).1 (le255 (atV_rng bS_rng (by decide) (by decide) hq_cc).2))
          have N212 := Fr.snoc X212 N210 fr209
          have J212 := J210.wr W212 (List.mem_cons_self ..)
          have B212 := B210.mono (Nat.le_of_eq W212.size.symm)
          have O212 := O209.wr W212 (Nat.le_trans (own_ole O0) fr209)
          have K212 := K209.wr W212 (Or.inr sz209)
          refine Go.of (fun _ hr => st212 _ hr) ?_
          show Go p e s below _ _ _ _ T212 (mkF m 230 (LA23 p1 p2 p3 p4 rp mp q cc o201 o209) [])
          refine Go.of (fun _ hr => XS.iload X212.here hx rfl (hb hby at_230) rfl  hr) ?_
          show Go p e s below _ _ _ _ T212 (mkF m 232 (LA23 p1 p2 p3 p4 rp mp q cc o201 o209) [(.int (7 : Int32))])
          refine Go.of (fun _ hr => XS.iconst X212.here hx rfl (hb hby at_232) hr) ?_
          show Go p e s below _ _ _ _ T212 (mkF m 233 (LA23 p1 p2 p3 p4 rp mp q cc o201 o209) [(.int (1 : Int32)), (.int (7 : Int32))])
          refine Go.of (fun _ hr => XS.icmpNo X212.here hx rfl (hb hby at_233) rfl (tlt (by decide : ((1 : Int32) < (7 : Int32)))).2.2.2 hr) ?_
          show Go p e s below _ _ _ _ T212 (mkF m 236 (LA23 p1 p2 p3 p4 rp mp q cc o201 o209) [])
          refine Go.of (fun _ hr => XS.aload X212.here hx rfl (hb hby at_236) rfl rfl hr) ?_
          show Go p e s below _ _ _ _ T212 (mkF m 238 (LA23 p1 p2 p3 p4 rp mp q cc o201 o209) [(.ref o209)])
          refine Go.of (fun _ hr => XS.iconst X212.here hx rfl (hb hby at_238) hr) ?_
          show Go p e s below _ _ _ _ T212 (mkF m 239 (LA23 p1 p2 p3 p4 rp mp q cc o201 o209) [(.int (1 : Int32)), (.ref o209)])
          refine Go.of (fun _ hr => XS.aload X212.here hx rfl (hb hby at_239) rfl rfl hr) ?_
          show Go p e s below _ _ _ _ T212 (mkF m 241 (LA23 p1 p2 p3 p4 rp mp q cc o201 o209) [(.ref o201), (.int (1 : Int32)), (.ref o209)])
          refine Go.of (fun _ hr => XS.iconst X212.here hx rfl (hb hby at_241) hr) ?_
          show Go p e s below _ _ _ _ T212 (mkF m 242 (LA23 p1 p2 p3 p4 rp mp q cc o201 o209) [(.int (1 : Int32)), (.ref o201), (.int (1 : Int32)), (.ref o209)])
          refine Go.of (fun _ hr => XS.iload X212.here hx rfl (hb hby at_242) rfl  hr) ?_
          show Go p e s below _ _ _ _ T212 (mkF m 244 (LA23 p1 p2 p3 p4 rp mp q cc o201 o209) [(.int q), (.int (1 : Int32)), (.ref o201), (.int (1 : Int32)), (.ref o209)])
          refine Go.of (fun _ hr => XS.iload X212.here hx rfl (hb hby at_244) rfl  hr) ?_
          show Go p e s below _ _ _ _ T212 (mkF m 246 (LA23 p1 p2 p3 p4 rp mp q cc o201 o209) [(.int cc), (.int q), (.int (1 : Int32)), (.ref o201), (.int (1 : Int32)), (.ref o209)])
          have f214 := (f211.other W212 ne_o201_o209)
          obtain ⟨_, b213, T213, h213, L213, e213, Cc213, X213, B213, J213, g213, hQ213, st213⟩ := own_callS Cc210 B212 J212 X212 (hw _ (List.mem_of_getElem? (i := 2) rfl)) (hw _ (List.mem_of_getElem? (i := 3) rfl)) (hw _ (List.mem_of_getElem? (i := 4) rfl)) (hw _ (List.mem_of_getElem? (i := 5) rfl)) (by decide) (rm1 l Z a0 hw [] o201 _ (1 : Int32) q cc bS _ h212 n0 O212 h0.size (own_ole O0) K212.1 bS_rng (by decide) (by decide) hq_cc f214) e212 (g := (mkF m 246 (LA23 p1 p2 p3 p4 rp mp q cc o201 o209) [(.int cc), (.int q), (.int (1 : Int32)), (.ref o201), (.int (1 : Int32)), (.ref o209)])) rfl (by rw [hml]; rfl) (argsL := [(.ref o201), (.int (1 : Int32)), (.int q), (.int cc)]) (rest := [(.int (1 : Int32)), (.ref o209)]) (lenOf pd7 rfl) rfl (W := 2) (by show 2 * 0 + _ ≤ _; exact Nat.le_of_eq rfl) (hb hby at_246) (by decide) (by decide) (by decide) (by decide)
          obtain ⟨rfl, Nq213, hh213⟩ := hQ213
          have N213 := Fr.app N212 Nq213
          obtain ⟨hx, hZ, hown, hby, hml, hnm, hret, hlk⟩ := id Cc213
          rw [hh213] at e213 B213 J213
          refine Go.of st213 ?_
          show Go p e s below _ _ _ _ T213 (mkF m 249 (LA23 p1 p2 p3 p4 rp mp q cc o201 o209) [(.int (atV bS (1 : Int32) q cc)), (.int (1 : Int32)), (.ref o209)])
          obtain ⟨cl215, Ar215, q215, S215, N215_, H215, G215⟩ := id V212
          have hin215 : ¬ ((1 : Int32) < 0 ∨ cl215.slots.size ≤ ((1 : Int32)).toNatClampNeg) := inb_of S215 ⟨by decide, by decide⟩
          obtain ⟨T215, h215, X215, e215, W215, st215⟩ := stC X213 hx hZ e213 Ar215 (j := (1 : Int32)) hin215 (g := (mkF m 249 (LA23 p1 p2 p3 p4 rp mp q cc o201 o209) [(.int (atV bS (1 : Int32) q cc)), (.int (1 : Int32)), (.ref o209)])) rfl rfl (hb hby at_249)
          rw [nar_c (atV_rng bS_rng (by decide) (by decide) hq_cc).1 (le255 (atV_rng bS_rng (by decide) (by decide) hq_cc).2)] at W215
          have V215 : Arv Z h215 o209 k209 .char (7 : Int32) ((outL bS 2 q cc).map Value.int) (.int 0) := outL_push bS 1 q cc ▸ own_push V212 W215 (by rw [List.length_map, outL_len]; decide) (fits_c (atV_rng bS_rng (by decide) (by decide) hq_cc).1 (le255 (atV_rng bS_rng (by decide) (by decide) hq_cc).2))
          have N215 := Fr.snoc X215 N213 fr209
          have J215 := J213.wr W215 (List.mem_cons_self ..)
          have B215 := B213.mono (Nat.le_of_eq W215.size.symm)
          have O215 := O212.wr W215 (Nat.le_trans (own_ole O0) fr209)
          have K215 := K212.wr W215 (Or.inr sz209)
          refine Go.of (fun _ hr => st215 _ hr) ?_
          show Go p e s below _ _ _ _ T215 (mkF m 250 (LA23 p1 p2 p3 p4 rp mp q cc o201 o209) [])
          refine Go.of (fun _ hr => XS.iload X215.here hx rfl (hb hby at_250) rfl  hr) ?_
          show Go p e s below _ _ _ _ T215 (mkF m 252 (LA23 p1 p2 p3 p4 rp mp q cc o201 o209) [(.int (7 : Int32))])
          refine Go.of (fun _ hr => XS.iconst X215.here hx rfl (hb hby at_252) hr) ?_
          show Go p e s below _ _ _ _ T215 (mkF m 253 (LA23 p1 p2 p3 p4 rp mp q cc o201 o209) [(.int (2 : Int32)), (.int (7 : Int32))])
          refine Go.of (fun _ hr => XS.icmpNo X215.here hx rfl (hb hby at_253) rfl (tlt (by decide : ((2 : Int32) < (7 : Int32)))).2.2.2 hr) ?_
          show Go p e s below _ _ _ _ T215 (mkF m 256 (LA23 p1 p2 p3 p4 rp mp q cc o201 o209) [])
          refine Go.of (fun _ hr => XS.aload X215.here hx rfl (hb hby at_256) rfl rfl hr) ?_
          show Go p e s below _ _ _ _ T215 (mkF m 258 (LA23 p1 p2 p3 p4 rp mp q cc o201 o209) [(.ref o209)])
          refine Go.of (fun _ hr => XS.iconst X215.here hx rfl (hb hby at_258) hr) ?_
          show Go p e s below _ _ _ _ T215 (mkF m 259 (LA23 p1 p2 p3 p4 rp mp q cc o201 o209) [(.int (2 : Int32)), (.ref o209)])
          refine Go.of (fun _ hr => XS.aload X215.here hx rfl (hb hby at_259) rfl rfl hr) ?_
          show Go p e s below _ _ _ _ T215 (mkF m 261 (LA23 p1 p2 p3 p4 rp mp q cc o201 o209) [(.ref o201), (.int (2 : Int32)), (.ref o209)])
          refine Go.of (fun _ hr => XS.iconst X215.here hx rfl (hb hby at_261) hr) ?_
          show Go p e s below _ _ _ _ T215 (mkF m 262 (LA23 p1 p2 p3 p4 rp mp q cc o201 o209) [(.int (2 : Int32)), (.ref o201), (.int (2 : Int32)), (.ref o209)])
          refine Go.of (fun _ hr => XS.iload X215.here hx rfl (hb hby at_262) rfl  hr) ?_
          show Go p e s below _ _ _ _ T215 (mkF m 264 (LA23 p1 p2 p3 p4 rp mp q cc o201 o209) [(.int q), (.int (2 : Int32)), (.ref o201), (.int (2 : Int32)), (.ref o209)])
          refine Go.of (fun _ hr => XS.iload X215.here hx rfl (hb hby at_264) rfl  hr) ?_
          show Go p e s below _ _ _ _ T215 (mkF m 266 (LA23 p1 p2 p3 p4 rp mp q cc o201 o209) [(.int cc), (.int q), (.int (2 : Int32)), (.ref o201), (.int (2 : Int32)), (.ref o209)])
          have f217 := (f214.other W215 ne_o201_o209)
          obtain ⟨_, b216, T216, h216, L216, e216, Cc216, X216, B216, J216, g216, hQ216, st216⟩ := own_callS Cc213 B215 J215 X215 (hw _ (List.mem_of_getElem? (i := 2) rfl)) (hw _ (List.mem_of_getElem? (i := 3) rfl)) (hw _ (List.mem_of_getElem? (i := 4) rfl)) (hw _ (List.mem_of_getElem? (i := 5) rfl)) (by decide) (rm1 l Z a0 hw [] o201 _ (2 : Int32) q cc bS _ h215 n0 O215 h0.size (own_ole O0) K215.1 bS_rng (by decide) (by decide) hq_cc f217) e215 (g := (mkF m 266 (LA23 p1 p2 p3 p4 rp mp q cc o201 o209) [(.int cc), (.int q), (.int (2 : Int32)), (.ref o201), (.int (2 : Int32)), (.ref o209)])) rfl (by rw [hml]; rfl) (argsL := [(.ref o201), (.int (2 : Int32)), (.int q), (.int cc)]) (rest := [(.int (2 : Int32)), (.ref o209)]) (lenOf pd7 rfl) rfl (W := 2) (by show 2 * 0 + _ ≤ _; exact Nat.le_of_eq rfl) (hb hby at_266) (by decide) (by decide) (by decide) (by decide)
          obtain ⟨rfl, Nq216, hh216⟩ := hQ216
          have N216 := Fr.app N215 Nq216
          obtain ⟨hx, hZ, hown, hby, hml, hnm, hret, hlk⟩ := id Cc216
          rw [hh216] at e216 B216 J216
          refine Go.of st216 ?_
          show Go p e s below _ _ _ _ T216 (mkF m 269 (LA23 p1 p2 p3 p4 rp mp q cc o201 o209) [(.int (atV bS (2 : Int32) q cc)), (.int (2 : Int32)), (.ref o209)])
          obtain ⟨cl218, Ar218, q218, S218, N218_, H218, G218⟩ := id V215
          have hin218 : ¬ ((2 : Int32) < 0 ∨ cl218.slots.size ≤ ((2 : Int32)).toNatClampNeg) := inb_of S218 ⟨by decide, by decide⟩
          obtain ⟨T218, h218, X218, e218, W218, st218⟩ := stC X216 hx hZ e216 Ar218 (j := (2 : Int32)) hin218 (g := (mkF m 269 (LA23 p1 p2 p3 p4 rp mp q cc o201 o209) [(.int (atV bS (2 : Int32) q cc)), (.int (2 : Int32)), (.ref o209)])) rfl rfl (hb hby at_269)
          rw [nar_c (atV_rng bS_rng (by decide) (by decide) hq_cc).1 (le255 (atV_rng bS_rng (by decide) (by decide) hq_cc).2)] at W218
          have V218 : Arv Z h218 o209 k209 .char (7 : Int32) ((outL bS 3 q cc).map Value.int) (.int 0) := outL_push bS 2 q cc ▸ own_push V215 W218 (by rw [List.length_map, outL_len]; decide) (fits_c (atV_rng bS_rng (by decide) (by decide) hq_cc).1 (le255 (atV_rng bS_rng (by decide) (by decide) hq_cc).2))
          have N218 := Fr.snoc X218 N216 fr209
          have J218 := J216.wr W218 (List.mem_cons_self ..)
          have B218 := B216.mono (Nat.le_of_eq W218.size.symm)
          have O218 := O215.wr W218 (Nat.le_trans (own_ole O0) fr209)
          have K218 := K215.wr W218 (Or.inr sz209)
          refine Go.of (fun _ hr => st218 _ hr) ?_
          show Go p e s below _ _ _ _ T218 (mkF m 270 (LA23 p1 p2 p3 p4 rp mp q cc o201 o209) [])
          refine Go.of (fun _ hr => XS.iload X218.here hx rfl (hb hby at_270) rfl  hr) ?_
          show Go p e s below _ _ _ _ T218 (mkF m 272 (LA23 p1 p2 p3 p4 rp mp q cc o201 o209) [(.int (7 : Int32))])
          refine Go.of (fun _ hr => XS.iconst X218.here hx rfl (hb hby at_272) hr) ?_
          show Go p e s below _ _ _ _ T218 (mkF m 273 (LA23 p1 p2 p3 p4 rp mp q cc o201 o209) [(.int (3 : Int32)), (.int (7 : Int32))])
          refine Go.of (fun _ hr => XS.icmpNo X218.here hx rfl (hb hby at_273) rfl (tlt (by decide : ((3 : Int32) < (7 : Int32)))).2.2.2 hr) ?_
          show Go p e s below _ _ _ _ T218 (mkF m 276 (LA23 p1 p2 p3 p4 rp mp q cc o201 o209) [])
          refine Go.of (fun _ hr => XS.aload X218.here hx rfl (hb hby at_276) rfl rfl hr) ?_
          show Go p e s below _ _ _ _ T218 (mkF m 278 (LA23 p1 p2 p3 p4 rp mp q cc o201 o209) [(.ref o209)])
          refine Go.of (fun _ hr => XS.iconst X218.here hx rfl (hb hby at_278) hr) ?_
          show Go p e s below _ _ _ _ T218 (mkF m 279 (LA23 p1 p2 p3 p4 rp mp q cc o201 o209) [(.int (3 : Int32)), (.ref o209)])
          refine Go.of (fun _ hr => XS.aload X218.here hx rfl (hb hby at_279) rfl rfl hr) ?_
          show Go p e s below _ _ _ _ T218 (mkF m 281 (LA23 p1 p2 p3 p4 rp mp q cc o201 o209) [(.ref o201), (.int (3 : Int32)), (.ref o209)])
          refine Go.of (fun _ hr => XS.iconst X218.here hx rfl (hb hby at_281) hr) ?_
          show Go p e s below _ _ _ _ T218 (mkF m 282 (LA23 p1 p2 p3 p4 rp mp q cc o201 o209) [(.int (3 : Int32)), (.ref o201), (.int (3 : Int32)), (.ref o209)])
          refine Go.of (fun _ hr => XS.iload X218.here hx rfl (hb hby at_282) rfl  hr) ?_
          show Go p e s below _ _ _ _ T218 (mkF m 284 (LA23 p1 p2 p3 p4 rp mp q cc o201 o209) [(.int q), (.int (3 : Int32)), (.ref o201), (.int (3 : Int32)), (.ref o209)])
          refine Go.of (fun _ hr => XS.iload X218.here hx rfl (hb hby at_284) rfl  hr) ?_
          show Go p e s below _ _ _ _ T218 (mkF m 286 (LA23 p1 p2 p3 p4 rp mp q cc o201 o209) [(.int cc), (.int q), (.int (3 : Int32)), (.ref o201), (.int (3 : Int32)), (.ref o209)])
          have f220 := (f217.other W218 ne_o201_o209)
          obtain ⟨_, b219, T219, h219, L219, e219, Cc219, X219, B219, J219, g219, hQ219, st219⟩ := own_callS Cc216 B218 J218 X218 (hw _ (List.mem_of_getElem? (i := 2) rfl)) (hw _ (List.mem_of_getElem? (i := 3) rfl)) (hw _ (List.mem_of_getElem? (i := 4) rfl)) (hw _ (List.mem_of_getElem? (i := 5) rfl)) (by decide) (rm1 l Z a0 hw [] o201 _ (3 : Int32) q cc bS _ h218 n0 O218 h0.size (own_ole O0) K218.1 bS_rng (by decide) (by decide) hq_cc f220) e218 (g := (mkF m 286 (LA23 p1 p2 p3 p4 rp mp q cc o201 o209) [(.int cc), (.int q), (.int (3 : Int32)), (.ref o201), (.int (3 : Int32)), (.ref o209)])) rfl (by rw [hml]; rfl) (argsL := [(.ref o201), (.int (3 : Int32)), (.int q), (.int cc)]) (rest := [(.int (3 : Int32)), (.ref o209)]) (lenOf pd7 rfl) rfl (W := 2) (by show 2 * 0 + _ ≤ _; exact Nat.le_of_eq rfl) (hb hby at_286) (by decide) (by decide) (by decide) (by decide)
          obtain ⟨rfl, Nq219, hh219⟩ := hQ219
          have N219 := Fr.app N218 Nq219
          obtain ⟨hx, hZ, hown, hby, hml, hnm, hret, hlk⟩ := id Cc219
          rw [hh219] at e219 B219 J219
          refine Go.of st219 ?_
          show Go p e s below _ _ _ _ T219 (mkF m 289 (LA23 p1 p2 p3 p4 rp mp q cc o201 o209) [(.int (atV bS (3 : Int32) q cc)), (.int (3 : Int32)), (.ref o209)])
          obtain ⟨cl221, Ar221, q221, S221, N221_, H221, G221⟩ := id V218
          have hin221 : ¬ ((3 : Int32) < 0 ∨ cl221.slots.size ≤ ((3 : Int32)).toNatClampNeg) := inb_of S221 ⟨by decide, by decide⟩
          obtain ⟨T221, h221, X221, e221, W221, st221⟩ := stC X219 hx hZ e219 Ar221 (j := (3 : Int32)) hin221 (g := (mkF m 289 (LA23 p1 p2 p3 p4 rp mp q cc o201 o209) [(.int (atV bS (3 : Int32) q cc)), (.int (3 : Int32)), (.ref o209)])) rfl rfl (hb hby at_289)
          rw [nar_c (atV_rng bS_rng (by decide) (by decide) hq_cc).1 (le255 (atV_rng bS_rng (by decide) (by decide) hq_cc).2)] at W221
          have V221 : Arv Z h221 o209 k209 .char (7 : Int32) ((outL bS 4 q cc).map Value.int) (.int 0) := outL_push bS 3 q cc ▸ own_push V218 W221 (by rw [List.length_map, outL_len]; decide) (fits_c (atV_rng bS_rng (by decide) (by decide) hq_cc).1 (le255 (atV_rng bS_rng (by decide) (by decide) hq_cc).2))
          have N221 := Fr.snoc X221 N219 fr209
          have J221 := J219.wr W221 (List.mem_cons_self ..)
          have B221 := B219.mono (Nat.le_of_eq W221.size.symm)
          have O221 := O218.wr W221 (Nat.le_trans (own_ole O0) fr209)
          have K221 := K218.wr W221 (Or.inr sz209)
          refine Go.of (fun _ hr => st221 _ hr) ?_
          show Go p e s below _ _ _ _ T221 (mkF m 290 (LA23 p1 p2 p3 p4 rp mp q cc o201 o209) [])
          refine Go.of (fun _ hr => XS.iload X221.here hx rfl (hb hby at_290) rfl  hr) ?_
          show Go p e s below _ _ _ _ T221 (mkF m 292 (LA23 p1 p2 p3 p4 rp mp q cc o201 o209) [(.int (7 : Int32))])
          refine Go.of (fun _ hr => XS.iconst X221.here hx rfl (hb hby at_292) hr) ?_
          show Go p e s below _ _ _ _ T221 (mkF m 293 (LA23 p1 p2 p3 p4 rp mp q cc o201 o209) [(.int (4 : Int32)), (.int (7 : Int32))])
          refine Go.of (fun _ hr => XS.icmpNo X221.here hx rfl (hb hby at_293) rfl (tlt (by decide : ((4 : Int32) < (7 : Int32)))).2.2.2 hr) ?_
          show Go p e s below _ _ _ _ T221 (mkF m 296 (LA23 p1 p2 p3 p4 rp mp q cc o201 o209) [])
          refine Go.of (fun _ hr => XS.aload X221.here hx rfl (hb hby at_296) rfl rfl hr) ?_
          show Go p e s below _ _ _ _ T221 (mkF m 298 (LA23 p1 p2 p3 p4 rp mp q cc o201 o209) [(.ref o209)])
          refine Go.of (fun _ hr => XS.iconst X221.here hx rfl (hb hby at_298) hr) ?_
          show Go p e s below _ _ _ _ T221 (mkF m 299 (LA23 p1 p2 p3 p4 rp mp q cc o201 o209) [(.int (4 : Int32)), (.ref o209)])
          refine Go.of (fun _ hr => XS.aload X221.here hx rfl (hb hby at_299) rfl rfl hr) ?_
          show Go p e s below _ _ _ _ T221 (mkF m 301 (LA23 p1 p2 p3 p4 rp mp q cc o201 o209) [(.ref o201), (.int (4 : Int32)), (.ref o209)])
          refine Go.of (fun _ hr => XS.iconst X221.here hx rfl (hb hby at_301) hr) ?_
          show Go p e s below _ _ _ _ T221 (mkF m 302 (LA23 p1 p2 p3 p4 rp mp q cc o201 o209) [(.int (4 : Int32)), (.ref o201), (.int (4 : Int32)), (.ref o209)])
          refine Go.of (fun _ hr => XS.iload X221.here hx rfl (hb hby at_302) rfl  hr) ?_
          show Go p e s below _ _ _ _ T221 (mkF m 304 (LA23 p1 p2 p3 p4 rp mp q cc o201 o209) [(.int q), (.int (4 : Int32)), (.ref o201), (.int (4 : Int32)), (.ref o209)])
          refine Go.of (fun _ hr => XS.iload X221.here hx rfl (hb hby at_304) rfl  hr) ?_
          show Go p e s below _ _ _ _ T221 (mkF m 306 (LA23 p1 p2 p3 p4 rp mp q cc o201 o209) [(.int cc), (.int q), (.int (4 : Int32)), (.ref o201), (.int (4 : Int32)), (.ref o209)])
          have f223 := (f220.other W221 ne_o201_o209)
          obtain ⟨_, b222, T222, h222, L222, e222, Cc222, X222, B222, J222, g222, hQ222, st222⟩ := own_callS Cc219 B221 J221 X221 (hw _ (List.mem_of_getElem? (i := 2) rfl)) (hw _ (List.mem_of_getElem? (i := 3) rfl)) (hw _ (List.mem_of_getElem? (i := 4) rfl)) (hw _ (List.mem_of_getElem? (i := 5) rfl)) (by decide) (rm1 l Z a0 hw [] o201 _ (4 : Int32) q cc bS _ h221 n0 O221 h0.size (own_ole O0) K221.1 bS_rng (by decide) (by decide) hq_cc f223) e221 (g := (mkF m 306 (LA23 p1 p2 p3 p4 rp mp q cc o201 o209) [(.int cc), (.int q), (.int (4 : Int32)), (.ref o201), (.int (4 : Int32)), (.ref o209)])) rfl (by rw [hml]; rfl) (argsL := [(.ref o201), (.int (4 : Int32)), (.int q), (.int cc)]) (rest := [(.int (4 : Int32)), (.ref o209)]) (lenOf pd7 rfl) rfl (W := 2) (by show 2 * 0 + _ ≤ _; exact Nat.le_of_eq rfl) (hb hby at_306) (by decide) (by decide) (by decide) (by decide)
          obtain ⟨rfl, Nq222, hh222⟩ := hQ222
          have N222 := Fr.app N221 Nq222
          obtain ⟨hx, hZ, hown, hby, hml, hnm, hret, hlk⟩ := id Cc222
          rw [hh222] at e222 B222 J222
          refine Go.of st222 ?_
          show Go p e s below _ _ _ _ T222 (mkF m 309 (LA23 p1 p2 p3 p4 rp mp q cc o201 o209) [(.int (atV bS (4 : Int32) q cc)), (.int (4 : Int32)), (.ref o209)])
          obtain ⟨cl224, Ar224, q224, S224, N224_, H224, G224⟩ := id V221
          have hin224 : ¬ ((4 : Int32) < 0 ∨ cl224.slots.size ≤ ((4 : Int32)).toNatClampNeg) := inb_of S224 ⟨by decide, by decide⟩
          obtain ⟨T224, h224, X224, e224, W224, st224⟩ := stC X222 hx hZ e222 Ar224 (j := (4 : Int32)) hin224 (g := (mkF m 309 (LA23 p1 p2 p3 p4 rp mp q cc o201 o209) [(.int (atV bS (4 : Int32) q cc)), (.int (4 : Int32)), (.ref o209)])) rfl rfl (hb hby at_309)
          rw [nar_c (atV_rng bS_rng (by decide) (by decide) hq_cc).1 (le255 (atV_rng bS_rng (by decide) (by decide) hq_cc).2)] at W224
          have V224 : Arv Z h224 o209 k209 .char (7 : Int32) ((outL bS 5 q cc).map Value.int) (.int 0) := outL_push bS 4 q cc ▸ own_push V221 W224 (by rw [List.length_map, outL_len]; decide) (fits_c (atV_rng bS_rng (by decide) (by decide) hq_cc).1 (le255 (atV_rng bS_rng (by decide) (by decide) hq_cc).2))
          have N224 := Fr.snoc X224 N222 fr209
          have J224 := J222.wr W224 (List.mem_cons_self ..)
          have B224 := B222.mono (Nat.le_of_eq W224.size.symm)
          have O224 := O221.wr W224 (Nat.le_trans (own_ole O0) fr209)
          have K224 := K221.wr W224 (Or.inr sz209)
          refine Go.of (fun _ hr => st224 _ hr) ?_
          show Go p e s below _ _ _ _ T224 (mkF m 310 (LA23 p1 p2 p3 p4 rp mp q cc o201 o209) [])
          refine Go.of (fun _ hr => XS.iload X224.here hx rfl (hb hby at_310) rfl  hr) ?_
          show Go p e s below _ _ _ _ T224 (mkF m 312 (LA23 p1 p2 p3 p4 rp mp q cc o201 o209) [(.int (7 : Int32))])
          refine Go.of (fun _ hr => XS.iconst X224.here hx rfl (hb hby at_312) hr) ?_
          show Go p e s below _ _ _ _ T224 (mkF m 313 (LA23 p1 p2 p3 p4 rp mp q cc o201 o209) [(.int (5 : Int32)), (.int (7 : Int32))])
          refine Go.of (fun _ hr => XS.icmpNo X224.here hx rfl (hb hby at_313) rfl (tlt (by decide : ((5 : Int32) < (7 : Int32)))).2.2.2 hr) ?_
          show Go p e s below _ _ _ _ T224 (mkF m 316 (LA23 p1 p2 p3 p4 rp mp q cc o201 o209) [])
          refine Go.of (fun _ hr => XS.aload X224.here hx rfl (hb hby at_316) rfl rfl hr) ?_
          show Go p e s below _ _ _ _ T224 (mkF m 318 (LA23 p1 p2 p3 p4 rp mp q cc o201 o209) [(.ref o209)])
          refine Go.of (fun _ hr => XS.iconst X224.here hx rfl (hb hby at_318) hr) ?_
          show Go p e s below _ _ _ _ T224 (mkF m 319 (LA23 p1 p2 p3 p4 rp mp q cc o201 o209) [(.int (5 : Int32)), (.ref o209)])
          refine Go.of (fun _ hr => XS.aload X224.here hx rfl (hb hby at_319) rfl rfl hr) ?_
          show Go p e s below _ _ _ _ T224 (mkF m 321 (LA23 p1 p2 p3 p4 rp mp q cc o201 o209) [(.ref o201), (.int (5 : Int32)), (.ref o209)])
          refine Go.of (fun _ hr => XS.iconst X224.here hx rfl (hb hby at_321) hr) ?_
          show Go p e s below _ _ _ _ T224 (mkF m 322 (LA23 p1 p2 p3 p4 rp mp q cc o201 o209) [(.int (5 : Int32)), (.ref o201), (.int (5 : Int32)), (.ref o209)])
          refine Go.of (fun _ hr => XS.iload X224.here hx rfl (hb hby at_322) rfl  hr) ?_
          show Go p e s below _ _ _ _ T224 (mkF m 324 (LA23 p1 p2 p3 p4 rp mp q cc o201 o209) [(.int q), (.int (5 : Int32)), (.ref o201), (.int (5 : Int32)), (.ref o209)])
          refine Go.of (fun _ hr => XS.iload X224.here hx rfl (hb hby at_324) rfl  hr) ?_
          show Go p e s below _ _ _ _ T224 (mkF m 326 (LA23 p1 p2 p3 p4 rp mp q cc o201 o209) [(.int cc), (.int q), (.int (5 : Int32)), (.ref o201), (.int (5 : Int32)), (.ref o209)])
          have f226 := (f223.other W224 ne_o201_o209)
          obtain ⟨_, b225, T225, h225, L225, e225, Cc225, X225, B225, J225, g225, hQ225, st225⟩ := own_callS Cc222 B224 J224 X224 (hw _ (List.mem_of_getElem? (i := 2) rfl)) (hw _ (List.mem_of_getElem? (i := 3) rfl)) (hw _ (List.mem_of_getElem? (i := 4) rfl)) (hw _ (List.mem_of_getElem? (i := 5) rfl)) (by decide) (rm1 l Z a0 hw [] o201 _ (5 : Int32) q cc bS _ h224 n0 O224 h0.size (own_ole O0) K224.1 bS_rng (by decide) (by decide) hq_cc f226) e224 (g := (mkF m 326 (LA23 p1 p2 p3 p4 rp mp q cc o201 o209) [(.int cc), (.int q), (.int (5 : Int32)), (.ref o201), (.int (5 : Int32)), (.ref o209)])) rfl (by rw [hml]; rfl) (argsL := [(.ref o201), (.int (5 : Int32)), (.int q), (.int cc)]) (rest := [(.int (5 : Int32)), (.ref o209)]) (lenOf pd7 rfl) rfl (W := 2) (by show 2 * 0 + _ ≤ _; exact Nat.le_of_eq rfl) (hb hby at_326) (by decide) (by decide) (by decide) (by decide)
          obtain ⟨rfl, Nq225, hh225⟩ := hQ225
          have N225 := Fr.app N224 Nq225
          obtain ⟨hx, hZ, hown, hby, hml, hnm, hret, hlk⟩ := id Cc225
          rw [hh225] at e225 B225 J225
          refine Go.of st225 ?_
          show Go p e s below _ _ _ _ T225 (mkF m 329 (LA23 p1 p2 p3 p4 rp mp q cc o201 o209) [(.int (atV bS (5 : Int32) q cc)), (.int (5 : Int32)), (.ref o209)])
          obtain ⟨cl227, Ar227, q227, S227, N227_, H227, G227⟩ := id V224
          have hin227 : ¬ ((5 : Int32) < 0 ∨ cl227.slots.size ≤ ((5 : Int32)).toNatClampNeg) := inb_of S227 ⟨by decide, by decide⟩
          obtain ⟨T227, h227, X227, e227, W227, st227⟩ := stC X225 hx hZ e225 Ar227 (j := (5 : Int32)) hin227 (g := (mkF m 329 (LA23 p1 p2 p3 p4 rp mp q cc o201 o209) [(.int (atV bS (5 : Int32) q cc)), (.int (5 : Int32)), (.ref o209)])) rfl rfl (hb hby at_329)
          rw [nar_c (atV_rng bS_rng (by decide) (by decide) hq_cc).1 (le255 (atV_rng bS_rng (by decide) (by decide) hq_cc).2)] at W227
          have V227 : Arv Z h227 o209 k209 .char (7 : Int32) ((outL bS 6 q cc).map Value.int) (.int 0) := outL_push bS 5 q cc ▸ own_push V224 W227 (by rw [List.length_map, outL_len]; decide) (fits_c (atV_rng bS_rng (by decide) (by decide) hq_cc).1 (le255 (atV_rng bS_rng (by decide) (by decide) hq_cc).2))
          have N227 := Fr.snoc X227 N225 fr209
          have J227 := J225.wr W227 (List.mem_cons_self ..)
          have B227 := B225.mono (Nat.le_of_eq W227.size.symm)
          have O227 := O224.wr W227 (Nat.le_trans (own_ole O0) fr209)
          have K227 := K224.wr W227 (Or.inr sz209)
          refine Go.of (fun _ hr => st227 _ hr) ?_
          show Go p e s below _ _ _ _ T227 (mkF m 330 (LA23 p1 p2 p3 p4 rp mp q cc o201 o209) [])
          refine Go.of (fun _ hr => XS.iload X227.here hx rfl (hb hby at_330) rfl  hr) ?_
          show Go p e s below _ _ _ _ T227 (mkF m 332 (LA23 p1 p2 p3 p4 rp mp q cc o201 o209) [(.int (7 : Int32))])
          refine Go.of (fun _ hr => XS.bipush X227.here hx rfl (hb hby at_332) hr) ?_
          show Go p e s below _ _ _ _ T227 (mkF m 334 (LA23 p1 p2 p3 p4 rp mp q cc o201 o209) [(.int (6 : Int32)), (.int (7 : Int32))])
          refine Go.of (fun _ hr => XS.icmpNo X227.here hx rfl (hb hby at_334) rfl (tlt (by decide : ((6 : Int32) < (7 : Int32)))).2.2.2 hr) ?_
          show Go p e s below _ _ _ _ T227 (mkF m 337 (LA23 p1 p2 p3 p4 rp mp q cc o201 o209) [])
          refine Go.of (fun _ hr => XS.aload X227.here hx rfl (hb hby at_337) rfl rfl hr) ?_
          show Go p e s below _ _ _ _ T227 (mkF m 339 (LA23 p1 p2 p3 p4 rp mp q cc o201 o209) [(.ref o209)])
          refine Go.of (fun _ hr => XS.bipush X227.here hx rfl (hb hby at_339) hr) ?_
          show Go p e s below _ _ _ _ T227 (mkF m 341 (LA23 p1 p2 p3 p4 rp mp q cc o201 o209) [(.int (6 : Int32)), (.ref o209)])
          refine Go.of (fun _ hr => XS.aload X227.here hx rfl (hb hby at_341) rfl rfl hr) ?_
          show Go p e s below _ _ _ _ T227 (mkF m 343 (LA23 p1 p2 p3 p4 rp mp q cc o201 o209) [(.ref o201), (.int (6 : Int32)), (.ref o209)])
          refine Go.of (fun _ hr => XS.bipush X227.here hx rfl (hb hby at_343) hr) ?_
          show Go p e s below _ _ _ _ T227 (mkF m 345 (LA23 p1 p2 p3 p4 rp mp q cc o201 o209) [(.int (6 : Int32)), (.ref o201), (.int (6 : Int32)), (.ref o209)])
          refine Go.of (fun _ hr => XS.iload X227.here hx rfl (hb hby at_345) rfl  hr) ?_
          show Go p e s below _ _ _ _ T227 (mkF m 347 (LA23 p1 p2 p3 p4 rp mp q cc o201 o209) [(.int q), (.int (6 : Int32)), (.ref o201), (.int (6 : Int32)), (.ref o209)])
          refine Go.of (fun _ hr => XS.iload X227.here hx rfl (hb hby at_347) rfl  hr) ?_
          show Go p e s below _ _ _ _ T227 (mkF m 349 (LA23 p1 p2 p3 p4 rp mp q cc o201 o209) [(.int cc), (.int q), (.int (6 : Int32)), (.ref o201), (.int (6 : Int32)), (.ref o209)])
          have f229 := (f226.other W227 ne_o201_o209)
          obtain ⟨_, b228, T228, h228, L228, e228, Cc228, X228, B228, J228, g228, hQ228, st228⟩ := own_callS Cc225 B227 J227 X227 (hw _ (List.mem_of_getElem? (i := 2) rfl)) (hw _ (List.mem_of_getElem? (i := 3) rfl)) (hw _ (List.mem_of_getElem? (i := 4) rfl)) (hw _ (List.mem_of_getElem? (i := 5) rfl)) (by decide) (rm1 l Z a0 hw [] o201 _ (6 : Int32) q cc bS _ h227 n0 O227 h0.size (own_ole O0) K227.1 bS_rng (by decide) (by decide) hq_cc f229) e227 (g := (mkF m 349 (LA23 p1 p2 p3 p4 rp mp q cc o201 o209) [(.int cc), (.int q), (.int (6 : Int32)), (.ref o201), (.int (6 : Int32)), (.ref o209)])) rfl (by rw [hml]; rfl) (argsL := [(.ref o201), (.int (6 : Int32)), (.int q), (.int cc)]) (rest := [(.int (6 : Int32)), (.ref o209)]) (lenOf pd7 rfl) rfl (W := 2) (by show 2 * 0 + _ ≤ _; exact Nat.le_of_eq rfl) (hb hby at_349) (by decide) (by decide) (by decide) (by decide)
          obtain ⟨rfl, Nq228, hh228⟩ := hQ228
          have N228 := Fr.app N227 Nq228
          obtain ⟨hx, hZ, hown, hby, hml, hnm, hret, hlk⟩ := id Cc228
          rw [hh228] at e228 B228 J228
          refine Go.of st228 ?_
          show Go p e s below _ _ _ _ T228 (mkF m 352 (LA23 p1 p2 p3 p4 rp mp q cc o201 o209) [(.int (atV bS (6 : Int32) q cc)), (.int (6 : Int32)), (.ref o209)])
          obtain ⟨cl230, Ar230, q230, S230, N230_, H230, G230⟩ := id V227
          have hin230 : ¬ ((6 : Int32) < 0 ∨ cl230.slots.size ≤ ((6 : Int32)).toNatClampNeg) := inb_of S230 ⟨by decide, by decide⟩
          obtain ⟨T230, h230, X230, e230, W230, st230⟩ := stC X228 hx hZ e228 Ar230 (j := (6 : Int32)) hin230 (g := (mkF m 352 (LA23 p1 p2 p3 p4 rp mp q cc o201 o209) [(.int (atV bS (6 : Int32) q cc)), (.int (6 : Int32)), (.ref o209)])) rfl rfl (hb hby at_352)
          rw [nar_c (atV_rng bS_rng (by decide) (by decide) hq_cc).1 (le255 (atV_rng bS_rng (by decide) (by decide) hq_cc).2)] at W230
          have V230 : Arv Z h230 o209 k209 .char (7 : Int32) ((outL bS 7 q cc).map Value.int) (.int 0) := outL_push bS 6 q cc ▸ own_push V227 W230 (by rw [List.length_map, outL_len]; decide) (fits_c (atV_rng bS_rng (by decide) (by decide) hq_cc).1 (le255 (atV_rng bS_rng (by decide) (by decide) hq_cc).2))
          have N230 := Fr.snoc X230 N228 fr209
          have J230 := J228.wr W230 (List.mem_cons_self ..)
          have B230 := B228.mono (Nat.le_of_eq W230.size.symm)
          have O230 := O227.wr W230 (Nat.le_trans (own_ole O0) fr209)
          have K230 := K227.wr W230 (Or.inr sz209)
          refine Go.of (fun _ hr => st230 _ hr) ?_
          show Go p e s below _ _ _ _ T230 (mkF m 353 (LA23 p1 p2 p3 p4 rp mp q cc o201 o209) [])
          refine Go.of (fun _ hr => XS.iload X230.here hx rfl (hb hby at_353) rfl  hr) ?_
          show Go p e s below _ _ _ _ T230 (mkF m 355 (LA23 p1 p2 p3 p4 rp mp q cc o201 o209) [(.int (7 : Int32))])
          refine Go.of (fun _ hr => XS.bipush X230.here hx rfl (hb hby at_355) hr) ?_
          show Go p e s below _ _ _ _ T230 (mkF m 357 (LA23 p1 p2 p3 p4 rp mp q cc o201 o209) [(.int (7 : Int32)), (.int (7 : Int32))])
          refine Go.of (fun _ hr => XS.icmpYes X230.here hx rfl (pc0 := 357) (pc' := 376) rfl (hb hby at_357) rfl (flt (by decide : ¬ ((7 : Int32) < (7 : Int32)))).2.2.2 (by decide) (by decide) hr) ?_
          show Go p e s below _ _ _ _ T230 (mkF m 376 (LA23 p1 p2 p3 p4 rp mp q cc o201 o209) [])
          refine Go.of (fun _ hr => XS.iload X230.here hx rfl (hb hby at_376) rfl  hr) ?_
          show Go p e s below _ _ _ _ T230 (mkF m 378 (LA23 p1 p2 p3 p4 rp mp q cc o201 o209) [(.int (7 : Int32))])
          refine Go.of (fun _ hr => XS.bipush X230.here hx rfl (hb hby at_378) hr) ?_
          show Go p e s below _ _ _ _ T230 (mkF m 380 (LA23 p1 p2 p3 p4 rp mp q cc o201 o209) [(.int (8 : Int32)), (.int (7 : Int32))])
          refine Go.of (fun _ hr => XS.icmpYes X230.here hx rfl (pc0 := 380) (pc' := 399) rfl (hb hby at_380) rfl (flt (by decide : ¬ ((8 : Int32) < (7 : Int32)))).2.2.2 (by decide) (by decide) hr) ?_
          show Go p e s below _ _ _ _ T230 (mkF m 399 (LA23 p1 p2 p3 p4 rp mp q cc o201 o209) [])
          refine Go.of (fun _ hr => XS.iload X230.here hx rfl (hb hby at_399) rfl  hr) ?_
          show Go p e s below _ _ _ _ T230 (mkF m 401 (LA23 p1 p2 p3 p4 rp mp q cc o201 o209) [(.int (7 : Int32))])
          refine Go.of (fun _ hr => XS.bipush X230.here hx rfl (hb hby at_401) hr) ?_
          show Go p e s below _ _ _ _ T230 (mkF m 403 (LA23 p1 p2 p3 p4 rp mp q cc o201 o209) [(.int (9 : Int32)), (.int (7 : Int32))])
          refine Go.of (fun _ hr => XS.icmpYes X230.here hx rfl (pc0 := 403) (pc' := 422) rfl (hb hby at_403) rfl (flt (by decide : ¬ ((9 : Int32) < (7 : Int32)))).2.2.2 (by decide) (by decide) hr) ?_
          show Go p e s below _ _ _ _ T230 (mkF m 422 (LA23 p1 p2 p3 p4 rp mp q cc o201 o209) [])
          refine Go.of (fun _ hr => XS.iload X230.here hx rfl (hb hby at_422) rfl  hr) ?_
          show Go p e s below _ _ _ _ T230 (mkF m 424 (LA23 p1 p2 p3 p4 rp mp q cc o201 o209) [(.int (7 : Int32))])
          refine Go.of (fun _ hr => XS.bipush X230.here hx rfl (hb hby at_424) hr) ?_
          show Go p e s below _ _ _ _ T230 (mkF m 426 (LA23 p1 p2 p3 p4 rp mp q cc o201 o209) [(.int (10 : Int32)), (.int (7 : Int32))])
          refine Go.of (fun _ hr => XS.icmpYes X230.here hx rfl (pc0 := 426) (pc' := 445) rfl (hb hby at_426) rfl (flt (by decide : ¬ ((10 : Int32) < (7 : Int32)))).2.2.2 (by decide) (by decide) hr) ?_
          show Go p e s below _ _ _ _ T230 (mkF m 445 (LA23 p1 p2 p3 p4 rp mp q cc o201 o209) [])
          refine Go.of (fun _ hr => XS.iload X230.here hx rfl (hb hby at_445) rfl  hr) ?_
          show Go p e s below _ _ _ _ T230 (mkF m 447 (LA23 p1 p2 p3 p4 rp mp q cc o201 o209) [(.int (7 : Int32))])
          refine Go.of (fun _ hr => XS.bipush X230.here hx rfl (hb hby at_447) hr) ?_
          show Go p e s below _ _ _ _ T230 (mkF m 449 (LA23 p1 p2 p3 p4 rp mp q cc o201 o209) [(.int (11 : Int32)), (.int (7 : Int32))])
          refine Go.of (fun _ hr => XS.icmpYes X230.here hx rfl (pc0 := 449) (pc' := 468) rfl (hb hby at_449) rfl (flt (by decide : ¬ ((11 : Int32) < (7 : Int32)))).2.2.2 (by decide) (by decide) hr) ?_
          show Go p e s below _ _ _ _ T230 (mkF m 468 (LA23 p1 p2 p3 p4 rp mp q cc o201 o209) [])
          refine Go.of (fun _ hr => XS.iload X230.here hx rfl (hb hby at_468) rfl  hr) ?_
          show Go p e s below _ _ _ _ T230 (mkF m 470 (LA23 p1 p2 p3 p4 rp mp q cc o201 o209) [(.int (7 : Int32))])
          refine Go.of (fun _ hr => XS.bipush X230.here hx rfl (hb hby at_470) hr) ?_
          show Go p e s below _ _ _ _ T230 (mkF m 472 (LA23 p1 p2 p3 p4 rp mp q cc o201 o209) [(.int (12 : Int32)), (.int (7 : Int32))])
          refine Go.of (fun _ hr => XS.icmpYes X230.here hx rfl (pc0 := 472) (pc' := 491) rfl (hb hby at_472) rfl (flt (by decide : ¬ ((12 : Int32) < (7 : Int32)))).2.2.2 (by decide) (by decide) hr) ?_
          show Go p e s below _ _ _ _ T230 (mkF m 491 (LA23 p1 p2 p3 p4 rp mp q cc o201 o209) [])
          refine Go.of (fun _ hr => XS.iload X230.here hx rfl (hb hby at_491) rfl  hr) ?_
          show Go p e s below _ _ _ _ T230 (mkF m 493 (LA23 p1 p2 p3 p4 rp mp q cc o201 o209) [(.int (7 : Int32))])
          refine Go.of (fun _ hr => XS.bipush X230.here hx rfl (hb hby at_493) hr) ?_
          show Go p e s below _ _ _ _ T230 (mkF m 495 (LA23 p1 p2 p3 p4 rp mp q cc o201 o209) [(.int (13 : Int32)), (.int (7 : Int32))])
          refine Go.of (fun _ hr => XS.icmpYes X230.here hx rfl (pc0 := 495) (pc' := 514) rfl (hb hby at_495) rfl (flt (by decide : ¬ ((13 : Int32) < (7 : Int32)))).2.2.2 (by decide) (by decide) hr) ?_
          show Go p e s below _ _ _ _ T230 (mkF m 514 (LA23 p1 p2 p3 p4 rp mp q cc o201 o209) [])
          refine Go.of (fun _ hr => XS.iload X230.here hx rfl (hb hby at_514) rfl  hr) ?_
          show Go p e s below _ _ _ _ T230 (mkF m 516 (LA23 p1 p2 p3 p4 rp mp q cc o201 o209) [(.int (7 : Int32))])
          refine Go.of (fun _ hr => XS.bipush X230.here hx rfl (hb hby at_516) hr) ?_
          show Go p e s below _ _ _ _ T230 (mkF m 518 (LA23 p1 p2 p3 p4 rp mp q cc o201 o209) [(.int (14 : Int32)), (.int (7 : Int32))])
          refine Go.of (fun _ hr => XS.icmpYes X230.here hx rfl (pc0 := 518) (pc' := 537) rfl (hb hby at_518) rfl (flt (by decide : ¬ ((14 : Int32) < (7 : Int32)))).2.2.2 (by decide) (by decide) hr) ?_
          show Go p e s below _ _ _ _ T230 (mkF m 537 (LA23 p1 p2 p3 p4 rp mp q cc o201 o209) [])
          refine Go.of (fun _ hr => XS.iload X230.here hx rfl (hb hby at_537) rfl  hr) ?_
          show Go p e s below _ _ _ _ T230 (mkF m 539 (LA23 p1 p2 p3 p4 rp mp q cc o201 o209) [(.int (7 : Int32))])
          refine Go.of (fun _ hr => XS.bipush X230.here hx rfl (hb hby at_539) hr) ?_
          show Go p e s below _ _ _ _ T230 (mkF m 541 (LA23 p1 p2 p3 p4 rp mp q cc o201 o209) [(.int (15 : Int32)), (.int (7 : Int32))])
          refine Go.of (fun _ hr => XS.icmpYes X230.here hx rfl (pc0 := 541) (pc' := 560) rfl (hb hby at_541) rfl (flt (by decide : ¬ ((15 : Int32) < (7 : Int32)))).2.2.2 (by decide) (by decide) hr) ?_
          show Go p e s below _ _ _ _ T230 (mkF m 560 (LA23 p1 p2 p3 p4 rp mp q cc o201 o209) [])
          obtain ⟨T231, h231, X231, e231, E231, A231, D231, -, st231⟩ := newO X230 hx hZ hown (hw _ (List.mem_of_getElem? (i := 6) rfl)) (hw _ (List.mem_of_getElem? (i := 7) rfl)) (hw _ (List.mem_of_getElem? (i := 8) rfl)) e230 (g := (mkF m 560 (LA23 p1 p2 p3 p4 rp mp q cc o201 o209) [])) rfl (hb hby at_560) (by decide) (by decide)
          obtain ⟨o231, g231⟩ : ∃ z, z = h230.size := ⟨_, rfl⟩
          rw [← g231] at A231 D231 st231
          have f232 := (f229.other W230 ne_o201_o209)
          have ne_o201_o231 : o201 ≠ o231 := Nat.ne_of_lt (Nat.lt_of_lt_of_le f232.lt (Nat.le_of_eq g231.symm))
          have ne_o209_o231 : o209 ≠ o231 := Nat.ne_of_lt (Nat.lt_of_lt_of_le V230.lt (Nat.le_of_eq g231.symm))
          have lt231 : o231 < h231.size := A231.lt
          have J231 := J230.add E231 g231 lt231
          have B231 := B230.mono E231.1
          have O231 := O230.ext E231
          have sz231 : h0.size ≤ o231 := Nat.le_trans K230.1 (Nat.le_of_eq g231.symm)
          have fr231 : h0.size ≤ o231 := sz231
          have K231 := K230.ext E231
          have F231_coder : Fld Z h231 o231 "java/lang/String" "coder" "B" (.int (0 : Int32)) := D231 (Or.inr (hw _ (List.mem_of_getElem? (i := 32) rfl))) (ty := .byte) (by decide)
          have F231_value : Fld Z h231 o231 "java/lang/String" "value" "[B" .null := D231 (Or.inr (hw _ (List.mem_of_getElem? (i := 34) rfl))) (ty := (.array .byte)) (by decide)
          refine Go.of (fun _ hr => st231 _ hr) ?_
          show Go p e s below _ _ _ _ T231 (mkF m 563 (LA23 p1 p2 p3 p4 rp mp q cc o201 o209) [(.ref o231)])
          refine Go.of (fun _ hr => XS.dup X231.here hx rfl (hb hby at_563) rfl rfl hr) ?_
          show Go p e s below _ _ _ _ T231 (mkF m 564 (LA23 p1 p2 p3 p4 rp mp q cc o201 o209) [(.ref o231), (.ref o231)])
          refine Go.of (fun _ hr => XS.aload X231.here hx rfl (hb hby at_564) rfl rfl hr) ?_
          show Go p e s below _ _ _ _ T231 (mkF m 566 (LA23 p1 p2 p3 p4 rp mp q cc o201 o209) [(.ref o209), (.ref o231), (.ref o231)])
          have f234 := (V230.ext E231)
          obtain ⟨_, b233, T233, h233, L233, e233, Cc233, X233, B233, J233, g233, hQ233, st233⟩ := own_callI Cc228 B231 J231 X231 rfl (hw _ (List.mem_of_getElem? (i := 9) rfl)) (hw _ (List.mem_of_getElem? (i := 10) rfl)) (hw _ (List.mem_of_getElem? (i := 8) rfl)) (hw _ (List.mem_of_getElem? (i := 11) rfl)) (by decide) (rm2 l Z a0 hw [] o231 o209 _ (outL bS 7 q cc) _ _ zc _ h231 n0 O231 h0.size (own_ole O0) K231.1 fr231 (List.mem_cons_self ..) (by rw [outL_len]; decide) (outL_rng bS_rng (by decide) (by decide) hq_cc) (by rw [outL_len]; decide) f234 ne_o209_o231 A231 F231_value F231_coder S_C hzc) e231 (g := (mkF m 566 (LA23 p1 p2 p3 p4 rp mp q cc o201 o209) [(.ref o209), (.ref o231), (.ref o231)])) rfl (by rw [hml]; rfl) (argsL := [(.ref o209)]) (rest := [(.ref o231)]) (lenOf pd8 rfl) rfl (W := 1) (by show 2 * 0 + _ ≤ _; exact Nat.le_of_eq rfl) (hb hby at_566) (by decide) (by decide) (by decide) (by decide)
          obtain ⟨rfl, Nq233, Kq233, t233, kt233, nt233, Fv233, Fc233, Vt233⟩ := hQ233
          have N233 := Fr.app N230 Nq233
          obtain ⟨hx, hZ, hown, hby, hml, hnm, hret, hlk⟩ := id Cc233
          have K233 := K231.trans Kq233 (allS (Or.inr sz231) all0)
          have O233 := O231.keep Kq233 (allS (Nat.le_trans (own_ole O0) fr231) all0)
          refine Go.of st233 ?_
          have nx_t233_o231 : t233 ≠ o231 := fun q => nt233 (by rw [q]; exact (List.mem_cons_self ..))
          have nx_t233_o209 : t233 ≠ o209 := fun q => nt233 (by rw [q]; exact (List.mem_cons_of_mem _ (List.mem_cons_self ..)))
          have nx_t233_o201 : t233 ≠ o201 := fun q => nt233 (by rw [q]; exact (List.mem_cons_of_mem _ (List.mem_cons_of_mem _ (List.mem_cons_self ..))))
          show Go p e s below _ _ _ _ T233 (mkF m 569 (LA23 p1 p2 p3 p4 rp mp q cc o201 o209) [(.ref o231)])
          refine Go.of (fun _ hr => XS.astore X233.here hx rfl (hb hby at_569) rfl rfl (l' := (LA24 p1 p2 p3 p4 rp mp q cc o201 o209 o231)) rfl hr) ?_
          show Go p e s below _ _ _ _ T233 (mkF m 571 (LA24 p1 p2 p3 p4 rp mp q cc o201 o209 o231) [])
          obtain ⟨T235, h235, X235, e235, E235, A235, D235, -, st235⟩ := newO X233 hx hZ hown (hw _ (List.mem_of_getElem? (i := 35) rfl)) (hw _ (List.mem_of_getElem? (i := 36) rfl)) (hw _ (List.mem_of_getElem? (i := 37) rfl)) e233 (g := (mkF m 571 (LA24 p1 p2 p3 p4 rp mp q cc o201 o209 o231) [])) rfl (hb hby at_571) (by decide) (by decide)
          obtain ⟨o235, g235⟩ : ∃ z, z = h233.size := ⟨_, rfl⟩
          rw [← g235] at A235 D235 st235
          have f236 := ((f232.ext E231).keep Kq233 (ninS ne_o201_o231 nin0))
          have ne_o201_o235 : o201 ≠ o235 := Nat.ne_of_lt (Nat.lt_of_lt_of_le f236.lt (Nat.le_of_eq g235.symm))
          have f237 := (f234.keep Kq233 (ninS ne_o209_o231 nin0))
          have ne_o209_o235 : o209 ≠ o235 := Nat.ne_of_lt (Nat.lt_of_lt_of_le f237.lt (Nat.le_of_eq g235.symm))
          have f238 := (A231.keep Kq233)
          have ne_o231_o235 : o231 ≠ o235 := Nat.ne_of_lt (Nat.lt_of_lt_of_le f238.lt (Nat.le_of_eq g235.symm))
          have ne_t233_o235 : t233 ≠ o235 := Nat.ne_of_lt (Nat.lt_of_lt_of_le Vt233.lt (Nat.le_of_eq g235.symm))
          have lt235 : o235 < h235.size := A235.lt
          have J235 := J233.add E235 g235 lt235
          have B235 := B233.mono E235.1
          have O235 := O233.ext E235
          have sz235 : h0.size ≤ o235 := Nat.le_trans K233.1 (Nat.le_of_eq g235.symm)
          have fr235 : h0.size ≤ o235 := sz235
          have K235 := K233.ext E235
          have F235_name : Fld Z h235 o235 "com/example/mthd/mthd/model/ApiMessage$Field" "name" "Ljava/lang/String;" .null := D235 (Or.inr (hw _ (List.mem_of_getElem? (i := 51) rfl))) (ty := (.object "java/lang/String")) (by decide)
          have F235_type : Fld Z h235 o235 "com/example/mthd/mthd/model/ApiMessage$Field" "type" "Ljava/lang/String;" .null := D235 (Or.inr (hw _ (List.mem_of_getElem? (i := 53) rfl))) (ty := (.object "java/lang/String")) (by decide)
          have F235_repeated : Fld Z h235 o235 "com/example/mthd/mthd/model/ApiMessage$Field" "repeated" "Z" (.int (0 : Int32)) := D235 (Or.inr (hw _ (List.mem_of_getElem? (i := 55) rfl))) (ty := .boolean) (by decide)
          have F235_map : Fld Z h235 o235 "com/example/mthd/mthd/model/ApiMessage$Field" "map" "Z" (.int (0 : Int32)) := D235 (Or.inr (hw _ (List.mem_of_getElem? (i := 57) rfl))) (ty := .boolean) (by decide)
          have F235_message : Fld Z h235 o235 "com/example/mthd/mthd/model/ApiMessage$Field" "message" "Ljava/util/Optional;" .null := D235 (Or.inr (hw _ (List.mem_of_getElem? (i := 59) rfl))) (ty := (.object "java/util/Optional")) (by decide)
          have F235_resource : Fld Z h235 o235 "com/example/mthd/mthd/model/ApiMessage$Field" "resource" "Ljava/util/Optional;" .null := D235 (Or.inr (hw _ (List.mem_of_getElem? (i := 61) rfl))) (ty := (.object "java/util/Optional")) (by decide)
          refine Go.of (fun _ hr => st235 _ hr) ?_
          show Go p e s below _ _ _ _ T235 (mkF m 574 (LA24 p1 p2 p3 p4 rp mp q cc o201 o209 o231) [(.ref o235)])
          refine Go.of (fun _ hr => XS.dup X235.here hx rfl (hb hby at_574) rfl rfl hr) ?_
          show Go p e s below _ _ _ _ T235 (mkF m 575 (LA24 p1 p2 p3 p4 rp mp q cc o201 o209 o231) [(.ref o235), (.ref o235)])
          obtain ⟨o239, t239, k239, b239, T239, h239, e239, Cc239, X239, B239, J239, E239, Sy239, na239, nt239, lt239, st239⟩ := own_ldcV Cc233 B235 J235 X235 lit0_in lit0_one (hw _ (List.mem_of_getElem? (i := 38) rfl)) (own_wS Z a0 hw) lit0_lat lit0_len (by rw [eb]; exact N233) (by rw [eb]; exact O0.2) e235 (g := (mkF m 575 (LA24 p1 p2 p3 p4 rp mp q cc o201 o209 o231) [(.ref o235), (.ref o235)])) rfl (hb hby at_575) (n := 4) lit0_sz (by decide) (by decide) (by decide)
          obtain ⟨hx, hZ, hown, hby, hml, hnm, hret, hlk⟩ := id Cc239
          have K239 := K235.ext E239
          have O239 := O235.ext E239
          have nx_o239_o235 : o239 ≠ o235 := fun q => na239 (by rw [q]; exact (List.mem_cons_self ..))
          have nx_o239_o231 : o239 ≠ o231 := fun q => na239 (by rw [q]; exact (List.mem_cons_of_mem _ (List.mem_cons_self ..)))
          have nx_o239_o209 : o239 ≠ o209 := fun q => na239 (by rw [q]; exact (List.mem_cons_of_mem _ (List.mem_cons_of_mem _ (List.mem_cons_self ..))))
          have nx_o239_o201 : o239 ≠ o201 := fun q => na239 (by rw [q]; exact (List.mem_cons_of_mem _ (List.mem_cons_of_mem _ (List.mem_cons_of_mem _ (List.mem_cons_self ..)))))
          have nx_t239_o235 : t239 ≠ o235 := fun q => nt239 (by rw [q]; exact (List.mem_cons_self ..))
          have nx_t239_o231 : t239 ≠ o231 := fun q => nt239 (by rw [q]; exact (List.mem_cons_of_mem _ (List.mem_cons_self ..)))
          have nx_t239_o209 : t239 ≠ o209 := fun q => nt239 (by rw [q]; exact (List.mem_cons_of_mem _ (List.mem_cons_of_mem _ (List.mem_cons_self ..))))
          have nx_t239_o201 : t239 ≠ o201 := fun q => nt239 (by rw [q]; exact (List.mem_cons_of_mem _ (List.mem_cons_of_mem _ (List.mem_cons_of_mem _ (List.mem_cons_self ..)))))
          refine Go.of (fun _ hr => st239 _ hr) ?_
          show Go p e s below _ _ _ _ T239 (mkF m 577 (LA24 p1 p2 p3 p4 rp mp q cc o201 o209 o231) [(.ref o239), (.ref o235), (.ref o235)])
          refine Go.of (fun _ hr => XS.aload X239.here hx rfl (hb hby at_577) rfl rfl hr) ?_
          show Go p e s below _ _ _ _ T239 (mkF m 579 (LA24 p1 p2 p3 p4 rp mp q cc o201 o209 o231) [(.ref o231), (.ref o239), (.ref o235), (.ref o235)])
          refine Go.of (fun _ hr => XS.iload X239.here hx rfl (hb hby at_579) rfl  hr) ?_
          show Go p e s below _ _ _ _ T239 (mkF m 581 (LA24 p1 p2 p3 p4 rp mp q cc o201 o209 o231) [(.int rp), (.ref o231), (.ref o239), (.ref o235), (.ref o235)])
          refine Go.of (fun _ hr => XS.iload X239.here hx rfl (hb hby at_581) rfl  hr) ?_
          show Go p e s below _ _ _ _ T239 (mkF m 583 (LA24 p1 p2 p3 p4 rp mp q cc o201 o209 o231) [(.int mp), (.int rp), (.ref o231), (.ref o239), (.ref o235), (.ref o235)])
          refine Go.of (fun _ hr => XS.aconstNull X239.here hx rfl (hb hby at_583) hr) ?_
          show Go p e s below _ _ _ _ T239 (mkF m 584 (LA24 p1 p2 p3 p4 rp mp q cc o201 o209 o231) [.null, (.int mp), (.int rp), (.ref o231), (.ref o239), (.ref o235), (.ref o235)])
          refine Go.of (fun _ hr => XS.aconstNull X239.here hx rfl (hb hby at_584) hr) ?_
          show Go p e s below _ _ _ _ T239 (mkF m 585 (LA24 p1 p2 p3 p4 rp mp q cc o201 o209 o231) [.null, .null, (.int mp), (.int rp), (.ref o231), (.ref o239), (.ref o235), (.ref o235)])
          have f241 := (A235.ext E239)
          have f242 := (F235_name.ext E239)
          have f243 := (F235_type.ext E239)
          have f244 := (F235_repeated.ext E239)
          have f245 := (F235_map.ext E239)
          have f246 := (F235_message.ext E239)
          have f247 := (F235_resource.ext E239)
          obtain ⟨_, b240, T240, h240, L240, e240, Cc240, X240, B240, J240, g240, hQ240, st240⟩ := own_callI Cc239 B239 J239 X239 rfl (hw _ (List.mem_of_getElem? (i := 41) rfl)) (hw _ (List.mem_of_getElem? (i := 42) rfl)) (hw _ (List.mem_of_getElem? (i := 37) rfl)) (hw _ (List.mem_of_getElem? (i := 43) rfl)) (by decide) (rm8 l Z a0 hw [] o235 _ o239 _ o231 _ rp _ mp _ _ _ h239 n0 O239 h0.size (own_ole O0) K239.1 fr235 (List.mem_cons_self ..) f241 f242 f243 f244 hz_rp f245 hz_mp f246 f247) e239 (g := (mkF m 585 (LA24 p1 p2 p3 p4 rp mp q cc o201 o209 o231) [.null, .null, (.int mp), (.int rp), (.ref o231), (.ref o239), (.ref o235), (.ref o235)])) rfl (by rw [hml]; rfl) (argsL := [(.ref o239), (.ref o231), (.int rp), (.int mp), .null, .null]) (rest := [(.ref o235)]) (lenOf pd9 rfl) rfl (W := 1) (by show 2 * 0 + _ ≤ _; exact Nat.le_of_eq rfl) (hb hby at_585) (by decide) (by decide) (by decide) (by decide)
          obtain ⟨rfl, Nq240, Kq240, Fs0_240, Fs1_240, Fs2_240, Fs3_240, Fs4_240, Fs5_240⟩ := hQ240
          have N240 := Fr.app N233 Nq240
          obtain ⟨hx, hZ, hown, hby, hml, hnm, hret, hlk⟩ := id Cc240
          have K240 := K239.trans Kq240 (allS (Or.inr sz235) all0)
          have O240 := O239.keep Kq240 (allS (Nat.le_trans (own_ole O0) fr235) all0)
          refine Go.of st240 ?_
          show Go p e s below _ _ _ _ T240 (mkF m 588 (LA24 p1 p2 p3 p4 rp mp q cc o201 o209 o231) [(.ref o235)])
          refine Go.of (fun _ hr => XS.astore X240.here hx rfl (hb hby at_588) rfl rfl (l' := #[.val (.int p1), .val (.int p2), .val (.int p3), .val (.int p4), .val (.int rp), .val (.int mp), .val (.int (0 : Int32)), .val (.int (1 : Int32)), .val (.int q), .val (.int cc), .val (.ref o201), .val (.int (7 : Int32)), .val (.ref o209), .val (.ref o231), .val (.ref o235), .unset, .unset]) rfl hr) ?_
          show Go p e s below _ _ _ _ T240 (mkF m 590 #[.val (.int p1), .val (.int p2), .val (.int p3), .val (.int p4), .val (.int rp), .val (.int mp), .val (.int (0 : Int32)), .val (.int (1 : Int32)), .val (.int q), .val (.int cc), .val (.ref o201), .val (.int (7 : Int32)), .val (.ref o209), .val (.ref o231), .val (.ref o235), .unset, .unset] [])
          have f248 := (f241.keep Kq240)
          have f249 := (((f238.ext E235).ext E239).keep Kq240)
          have f250 := (((Fv233.ext E235).ext E239).keep Kq240 (ninS ne_o231_o235 nin0))
          have f251 := (((Fc233.ext E235).ext E239).keep Kq240 (ninS ne_o231_o235 nin0))
          have f252 := (((Vt233.ext E235).ext E239).keep Kq240 (ninS ne_t233_o235 nin0))
          have f253 := (((f236.ext E235).ext E239).keep Kq240 (ninS ne_o201_o235 nin0))
          exact law_tail l Z a0 hw (by decide) (by decide) p1 p2 p3 p4 rp mp (0 : Int32) (1 : Int32) q cc o201 (7 : Int32) o209 o231 o235 t233 _ _ bS (outL bS 7 q cc) zc h240 n0 O240 nb hb0 (Nat.le_trans hnb K240.1) f248 Fs1_240 Fs2_240 f249 f250 f251 f252 f253 hq_q.1 (by rw [outL_len]; decide) (fin_N6 (fin_N (by decide +kernel) (by decide +kernel)) (by decide)) S_C hzc Cc240 X240 e240 (fun y hy => Nat.le_trans hnb (N240 y hy)) (J240.sub (own_sub1 (List.mem_cons_of_mem _ (List.mem_cons_self ..)) (fun x hx => (List.mem_cons_of_mem _ (List.mem_cons_of_mem _ (List.mem_cons_of_mem _ (List.mem_cons_of_mem _ hx))))))) B240
      · refine Go.of (fun _ hr => XS.ifNo X0.here hx rfl (hb hby at_29) rfl ((if0 _ _).trans (feq hb29_103).1) hr) ?_
        show Go p e s below _ _ _ _ s₁ (mkF m 32 (LA2 p1 p2 p3 p4 rp mp) [])
        refine Go.of (fun _ hr => XS.iconst X0.here hx rfl (hb hby at_32) hr) ?_
        show Go p e s below _ _ _ _ s₁ (mkF m 33 (LA2 p1 p2 p3 p4 rp mp) [(.int (1 : Int32))])
        refine Go.of (fun _ hr => XS.goto X0.here hx rfl (pc0 := 33) (pc' := 37) rfl (hb hby at_33) (by decide) (by decide) hr) ?_
        show Go p e s below _ _ _ _ s₁ (mkF m 37 (LA2 p1 p2 p3 p4 rp mp) [(.int (1 : Int32))])
        refine Go.of (fun _ hr => XS.istore X0.here hx rfl (hb hby at_37) rfl (l' := (LA25 p1 p2 p3 p4 rp mp)) rfl hr) ?_
        show Go p e s below _ _ _ _ s₁ (mkF m 39 (LA25 p1 p2 p3 p4 rp mp) [])
        refine Go.of (fun _ hr => XS.iloadN X0.here hx rfl (hb hby at_39) rfl  hr) ?_
        show Go p e s below _ _ _ _ s₁ (mkF m 40 (LA25 p1 p2 p3 p4 rp mp) [(.int p1)])
        refine Go.of (fun _ hr => XS.iconst X0.here hx rfl (hb hby at_40) hr) ?_
        show Go p e s below _ _ _ _ s₁ (mkF m 41 (LA25 p1 p2 p3 p4 rp mp) [(.int (1 : Int32)), (.int p1)])
        refine Go.of (fun _ hr => XS.iushr X0.here hx rfl (hb hby at_41) rfl hr) ?_
        show Go p e s below _ _ _ _ s₁ (mkF m 42 (LA25 p1 p2 p3 p4 rp mp) [(.int ((p1.toUInt32 >>> ((1 : Int32) &&& 31).toUInt32).toInt32))])
        refine Go.of (fun _ hr => XS.iconst X0.here hx rfl (hb hby at_42) hr) ?_
        show Go p e s below _ _ _ _ s₁ (mkF m 43 (LA25 p1 p2 p3 p4 rp mp) [(.int (3 : Int32)), (.int ((p1.toUInt32 >>> ((1 : Int32) &&& 31).toUInt32).toInt32))])
        refine Go.of (fun _ hr => iremM X0 hx rfl (hb hby at_43) rfl (by decide) hr) ?_
        show Go p e s below _ _ _ _ s₁ (mkF m 44 (LA25 p1 p2 p3 p4 rp mp) [(.int (((p1.toUInt32 >>> ((1 : Int32) &&& 31).toUInt32).toInt32) % (3 : Int32)))])
        refine Go.of (fun _ hr => XS.iconst X0.here hx rfl (hb hby at_44) hr) ?_
        show Go p e s below _ _ _ _ s₁ (mkF m 45 (LA25 p1 p2 p3 p4 rp mp) [(.int (1 : Int32)), (.int (((p1.toUInt32 >>> ((1 : Int32) &&& 31).toUInt32).toInt32) % (3 : Int32)))])
        refine Go.of (fun _ hr => XS.isub X0.here hx rfl (hb hby at_45) rfl hr) ?_
        show Go p e s below _ _ _ _ s₁ (mkF m 46 (LA25 p1 p2 p3 p4 rp mp) [(.int ((((p1.toUInt32 >>> ((1 : Int32) &&& 31).toUInt32).toInt32) % (3 : Int32)) - (1 : Int32)))])
        rcases dl3 p1 with hd | hd | hd
        · rw [hd]
          show Go p e s below _ _ _ _ s₁ (mkF m 46 (LA25 p1 p2 p3 p4 rp mp) [(.int (-1 : Int32))])
          refine Go.of (fun _ hr => XS.istore X0.here hx rfl (hb hby at_46) rfl (l' := (LA26 p1 p2 p3 p4 rp mp)) rfl hr) ?_
          show Go p e s below _ _ _ _ s₁ (mkF m 48 (LA26 p1 p2 p3 p4 rp mp) [])
          refine Go.of (fun _ hr => XS.iloadN X0.here hx rfl (hb hby at_48) rfl  hr) ?_
          show Go p e s below _ _ _ _ s₁ (mkF m 49 (LA26 p1 p2 p3 p4 rp mp) [(.int p2)])
          refine Go.of (fun _ hr => X0.ldcInt hx hown (mvT hZ (hw _ (List.mem_of_getElem? (i := 0) rfl))) (g := (mkF m 49 (LA26 p1 p2 p3 p4 rp mp) [(.int p2)])) rfl (hb hby at_49) _ hr) ?_
          show Go p e s below _ _ _ _ s₁ (mkF m 51 (LA26 p1 p2 p3 p4 rp mp) [(.int (2147483647 : Int32)), (.int p2)])
          refine Go.of (fun _ hr => XS.iand X0.here hx rfl (hb hby at_51) rfl hr) ?_
          show Go p e s below _ _ _ _ s₁ (mkF m 52 (LA26 p1 p2 p3 p4 rp mp) [(.int (p2 &&& (2147483647 : Int32)))])
          refine Go.of (fun _ hr => XS.bipush X0.here hx rfl (hb hby at_52) hr) ?_
          show Go p e s below _ _ _ _ s₁ (mkF m 54 (LA26 p1 p2 p3 p4 rp mp) [(.int (16 : Int32)), (.int (p2 &&& (2147483647 : Int32)))])
          refine Go.of (fun _ hr => iremM X0 hx rfl (hb hby at_54) rfl (by decide) hr) ?_
          show Go p e s below _ _ _ _ s₁ (mkF m 55 (LA26 p1 p2 p3 p4 rp mp) [(.int ((p2 &&& (2147483647 : Int32)) % (16 : Int32)))])
          have hq_q := rem16 p2
          generalize ((p2 &&& (2147483647 : Int32)) % (16 : Int32)) = q at hq_q ⊢
          show Go p e s below _ _ _ _ s₁ (mkF m 55 (LA26 p1 p2 p3 p4 rp mp) [(.int q)])
          refine Go.of (fun _ hr => XS.istore X0.here hx rfl (hb hby at_55) rfl (l' := (LA27 p1 p2 p3 p4 rp mp q)) rfl hr) ?_
          show Go p e s below _ _ _ _ s₁ (mkF m 57 (LA27 p1 p2 p3 p4 rp mp q) [])
          refine Go.of (fun _ hr => XS.iloadN X0.here hx rfl (hb hby at_57) rfl  hr) ?_
          show Go p e s below _ _ _ _ s₁ (mkF m 58 (LA27 p1 p2 p3 p4 rp mp q) [(.int p3)])
          refine Go.of (fun _ hr => XS.sipush X0.here hx rfl (hb hby at_58) hr) ?_
          show Go p e s below _ _ _ _ s₁ (mkF m 61 (LA27 p1 p2 p3 p4 rp mp q) [(.int (255 : Int32)), (.int p3)])
          refine Go.of (fun _ hr => XS.iand X0.here hx rfl (hb hby at_61) rfl hr) ?_
          show Go p e s below _ _ _ _ s₁ (mkF m 62 (LA27 p1 p2 p3 p4 rp mp q) [(.int (p3 &&& (255 : Int32)))])
          refine Go.of (fun _ hr => XS.i2c X0.here hx rfl (hb hby at_62) rfl hr) ?_
          show Go p e s below _ _ _ _ s₁ (mkF m 63 (LA27 p1 p2 p3 p4 rp mp q) [(.int ((p3 &&& (255 : Int32)).toUInt32.toUInt16.toUInt32.toInt32))])
          have hq_cc := chr8 p3
          generalize ((p3 &&& (255 : Int32)).toUInt32.toUInt16.toUInt32.toInt32) = cc at hq_cc ⊢
          show Go p e s below _ _ _ _ s₁ (mkF m 63 (LA27 p1 p2 p3 p4 rp mp q) [(.int cc)])
          refine Go.of (fun _ hr => XS.istore X0.here hx rfl (hb hby at_63) rfl (l' := (LA28 p1 p2 p3 p4 rp mp q cc)) rfl hr) ?_
          show Go p e s below _ _ _ _ s₁ (mkF m 65 (LA28 p1 p2 p3 p4 rp mp q cc) [])
          refine Go.of (fun _ hr => XS.iload X0.here hx rfl (hb hby at_65) rfl  hr) ?_
          show Go p e s below _ _ _ _ s₁ (mkF m 67 (LA28 p1 p2 p3 p4 rp mp q cc) [(.int (1 : Int32))])
          refine Go.of (fun _ hr => XS.ifNo X0.here hx rfl (hb hby at_67) rfl ((if0 _ _).trans (feq (by decide : ¬ ((1 : Int32) = (0 : Int32)))).1) hr) ?_
          show Go p e s below _ _ _ _ s₁ (mkF m 70 (LA28 p1 p2 p3 p4 rp mp q cc) [])
          refine Go.of (fun _ hr => XS.bipush X0.here hx rfl (hb hby at_70) hr) ?_
          show Go p e s below _ _ _ _ s₁ (mkF m 72 (LA28 p1 p2 p3 p4 rp mp q cc) [(.int (15 : Int32))])
          obtain ⟨T254, h254, k254, X254, e254, E254, A254, st254⟩ := newP X0 hx hZ (hw _ (List.mem_of_getElem? (i := 1) rfl)) e0 (g := (mkF m 72 (LA28 p1 p2 p3 p4 rp mp q cc) [(.int (15 : Int32))])) rfl (hb hby at_72) rfl (by decide) (cap := 15) (by decide) (by decide) (by decide) (by decide)
          obtain ⟨o254, g254⟩ : ∃ z, z = h0.size := ⟨_, rfl⟩
          rw [← g254] at A254 st254
          have V254 : Arv Z h254 o254 k254 .char (15 : Int32) [(.int (0 : Int32)), (.int (0 : Int32)), (.int (0 : Int32)), (.int (0 : Int32)), (.int (0 : Int32)), (.int (0 : Int32)), (.int (0 : Int32)), (.int (0 : Int32)), (.int (0 : Int32)), (.int (0 : Int32)), (.int (0 : Int32)), (.int (0 : Int32)), (.int (0 : Int32)), (.int (0 : Int32)), (.int (0 : Int32))] (.int (0 : Int32)) := (Arv.new A254 (by decide)).pad (pad_rep [] (.int (0 : Int32)) 15)
          have lt254 : o254 < h254.size := A254.lt
          have J254 := J0.add E254 g254 lt254
          have B254 := B0.mono E254.1
          have O254 := O0.ext E254
          have sz254 : h0.size ≤ o254 := Nat.le_trans K0.1 (Nat.le_of_eq g254.symm)
          have fr254 : h0.size ≤ o254 := sz254
          have K254 := K0.ext E254
          refine Go.of (fun _ hr => st254 _ hr) ?_
          show Go p e s below _ _ _ _ T254 (mkF m 74 (LA28 p1 p2 p3 p4 rp mp q cc) [(.ref o254)])
          refine Go.of (fun _ hr => XS.dup X254.here hx rfl (hb hby at_74) rfl rfl hr) ?_
          show Go p e s below _ _ _ _ T254 (mkF m 75 (LA28 p1 p2 p3 p4 rp mp q cc) [(.ref o254), (.ref o254)])
          refine Go.of (fun _ hr => XS.iconst X254.here hx rfl (hb hby at_75) hr) ?_
          show Go p e s below _ _ _ _ T254 (mkF m 76 (LA28 p1 p2 p3 p4 rp mp q cc) [(.int (0 : Int32)), (.ref o254), (.ref o254)])
          refine Go.of (fun _ hr => XS.bipush X254.here hx rfl (hb hby at_76) hr) ?_
          show Go p e s below _ _ _ _ T254 (mkF m 78 (LA28 p1 p2 p3 p4 rp mp q cc) [(.int (114 : Int32)), (.int (0 : Int32)), (.ref o254), (.ref o254)])
          obtain ⟨cl255, Ar255, q255, S255, N255_, H255, G255⟩ := id V254
          have hin255 : ¬ ((0 : Int32) < 0 ∨ cl255.slots.size ≤ ((0 : Int32)).toNatClampNeg) := inb_of S255 ⟨by decide, by decide⟩
          obtain ⟨T255, h255, X255, e255, W255, st255⟩ := stC X254 hx hZ e254 Ar255 (j := (0 : Int32)) hin255 (g := (mkF m 78 (LA28 p1 p2 p3 p4 rp mp q cc) [(.int (114 : Int32)), (.int (0 : Int32)), (.ref o254), (.ref o254)])) rfl rfl (hb hby at_78)
          have W255' := W255
          rw [show nar .char (114 : Int32) = (114 : Int32) from rfl] at W255'
          have V255 : Arv Z h255 o254 k254 .char (15 : Int32) [(.int (114 : Int32)), (.int (0 : Int32)), (.int (0 : Int32)), (.int (0 : Int32)), (.int (0 : Int32)), (.int (0 : Int32)), (.int (0 : Int32)), (.int (0 : Int32)), (.int (0 : Int32)), (.int (0 : Int32)), (.int (0 : Int32)), (.int (0 : Int32)), (.int (0 : Int32)), (.int (0 : Int32)), (.int (0 : Int32))] (.int (0 : Int32)) := Arv.set Ar255 q255 S255 N255_ H255 G255 rfl W255' 0 rfl (by simp)
          have N255 := Fr.snoc X255 N0 fr254
          have J255 := J254.wr W255 (List.mem_cons_self ..)
          have B255 := B254.mono (Nat.le_of_eq W255.size.symm)
          have O255 := O254.wr W255 (Nat.le_trans (own_ole O0) fr254)
          have K255 := K254.wr W255 (Or.inr sz254)
          refine Go.of (fun _ hr => st255 _ hr) ?_
          show Go p e s below _ _ _ _ T255 (mkF m 79 (LA28 p1 p2 p3 p4 rp mp q cc) [(.ref o254)])
          refine Go.of (fun _ hr => XS.dup X255.here hx rfl (hb hby at_79) rfl rfl hr) ?_
          show Go p e s below _ _ _ _ T255 (mkF m 80 (LA28 p1 p2 p3 p4 rp mp q cc) [(.ref o254), (.ref o254)])
          refine Go.of (fun _ hr => XS.iconst X255.here hx rfl (hb hby at_80) hr) ?_
          show Go p e s below _ _ _ _ T255 (mkF m 81 (LA28 p1 p2 p3 p4 rp mp q cc) [(.int (1 : Int32)), (.ref o254), (.ref o254)])
          refine Go.of (fun _ hr => XS.bipush X255.here hx rfl (hb hby at_81) hr) ?_
          show Go p e s below _ _ _ _ T255 (mkF m 83 (LA28 p1 p2 p3 p4 rp mp q cc) [(.int (101 : Int32)), (.int (1 : Int32)), (.ref o254), (.ref o254)])
          obtain ⟨cl256, Ar256, q256, S256, N256_, H256, G256⟩ := id V255
          have hin256 : ¬ ((1 : Int32) < 0 ∨ cl256.slots.size ≤ ((1 : Int32)).toNatClampNeg) := inb_of S256 ⟨by decide, by decide⟩
          obtain ⟨T256, h256, X256, e256, W256, st256⟩ := stC X255 hx hZ e255 Ar256 (j := (1 : Int32)) hin256 (g := (mkF m 83 (LA28 p1 p2 p3 p4 rp mp q cc) [(.int (101 : Int32)), (.int (1 : Int32)), (.ref o254), (.ref o254)])) rfl rfl (hb hby at_83)
          have W256' := W256
          rw [show nar .char (101 : Int32) = (101 : Int32) from rfl] at W256'
          have V256 : Arv Z h256 o254 k254 .char (15 : Int32) [(.int (114 : Int32)), (.int (101 : Int32)), (.int (0 : Int32)), (.int (0 : Int32)), (.int (0 : Int32)), (.int (0 : Int32)), (.int (0 : Int32)), (.int (0 : Int32)), (.int (0 : Int32)), (.int (0 : Int32)), (.int (0 : Int32)), (.int (0 : Int32)), (.int (0 : Int32)), (.int (0 : Int32)), (.int (0 : Int32))] (.int (0 : Int32)) := Arv.set Ar256 q256 S256 N256_ H256 G256 rfl W256' 1 rfl (by simp)
          have N256 := Fr.snoc X256 N255 fr254
          have J256 := J255.wr W256 (List.mem_cons_self ..)
          have B256 := B255.mono (Nat.le_of_eq W256.size.symm)
          have O256 := O255.wr W256 (Nat.le_trans (own_ole O0) fr254)
          have K256 := K255.wr W256 (Or.inr sz254)
          refine Go.of (fun _ hr => st256 _ hr) ?_
          show Go p e s below _ _ _ _ T256 (mkF m 84 (LA28 p1 p2 p3 p4 rp mp q cc) [(.ref o254)])
          refine Go.of (fun _ hr => XS.dup X256.here hx rfl (hb hby at_84) rfl rfl hr) ?_
          show Go p e s below _ _ _ _ T256 (mkF m 85 (LA28 p1 p2 p3 p4 rp mp q cc) [(.ref o254), (.ref o254)])
          refine Go.of (fun _ hr => XS.iconst X256.here hx rfl (hb hby at_85) hr) ?_
          show Go p e s below _ _ _ _ T256 (mkF m 86 (LA28 p1 p2 p3 p4 rp mp q cc) [(.int (2 : Int32)), (.ref o254), (.ref o254)])
          refine Go.of (fun _ hr => XS.bipush X256.here hx rfl (hb hby at_86) hr) ?_
          show Go p e s below _ _ _ _ T256 (mkF m 88 (LA28 p1 p2 p3 p4 rp mp q cc) [(.int (112 : Int32)), (.int (2 : Int32)), (.ref o254), (.ref o254)])
          obtain ⟨cl257, Ar257, q257, S257, N257_, H257, G257⟩ := id V256
          have hin257 : ¬ ((2 : Int32) < 0 ∨ cl257.slots.size ≤ ((2 : Int32)).toNatClampNeg) := inb_of S257 ⟨by decide, by decide⟩
          obtain ⟨T257, h257, X257, e257, W257, st257⟩ := stC X256 hx hZ e256 Ar257 (j := (2 : Int32)) hin257 (g := (mkF m 88 (LA28 p1 p2 p3 p4 rp mp q cc) [(.int (112 : Int32)), (.int (2 : Int32)), (.ref o254), (.ref o254)])) rfl rfl (hb hby at_88)
          have W257' := W257
          rw [show nar .char (112 : Int32) = (112 : Int32) from rfl] at W257'
          have V257 : Arv Z h257 o254 k254 .char (15 : Int32) [(.int (114 : Int32)), (.int (101 : Int32)), (.int (112 : Int32)), (.int (0 : Int32)), (.int (0 : Int32)), (.int (0 : Int32)), (.int (0 : Int32)), (.int (0 : Int32)), (.int (0 : Int32)), (.int (0 : Int32)), (.int (0 : Int32)), (.int (0 : Int32)), (.int (0 : Int32)), (.int (0 : Int32)), (.int (0 : Int32))] (.int (0 : Int32)) := Arv.set Ar257 q257 S257 N257_ H257 G257 rfl W257' 2 rfl (by simp)
          have N257 := Fr.snoc X257 N256 fr254
          have J257 := J256.wr W257 (List.mem_cons_self ..)
          have B257 := B256.mono (Nat.le_of_eq W257.size.symm)
          have O257 := O256.wr W257 (Nat.le_trans (own_ole O0) fr254)
          have K257 := K256.wr W257 (Or.inr sz254)
          refine Go.of (fun _ hr => st257 _ hr) ?_
          show Go p e s below _ _ _ _ T257 (mkF m 89 (LA28 p1 p2 p3 p4 rp mp q cc) [(.ref o254)])
          refine Go.of (fun _ hr => XS.dup X257.here hx rfl (hb hby at_89) rfl rfl hr) ?_
          show Go p e s below _ _ _ _ T257 (mkF m 90 (LA28 p1 p2 p3 p4 rp mp q cc) [(.ref o254), (.ref o254)])
          refine Go.of (fun _ hr => XS.iconst X257.here hx rfl (hb hby at_90) hr) ?_
          show Go p e s below _ _ _ _ T257 (mkF m 91 (LA28 p1 p2 p3 p4 rp mp q cc) [(.int (3 : Int32)), (.ref o254), (.ref o254)])
          refine Go.of (fun _ hr => XS.bipush X257.here hx rfl (hb hby at_91) hr) ?_
          show Go p e s below _ _ _ _ T257 (mkF m 93 (LA28 p1 p2 p3 p4 rp mp q cc) [(.int (101 : Int32)), (.int (3 : Int32)), (.ref o254), (.ref o254)])
          obtain ⟨cl258, Ar258, q258, S258, N258_, H258, G258⟩ := id V257
          have hin258 : ¬ ((3 : Int32) < 0 ∨ cl258.slots.size ≤ ((3 : Int32)).toNatClampNeg) := inb_of S258 ⟨by decide, by decide⟩
          obtain ⟨T258, h258, X258, e258, W258, st258⟩ := stC X257 hx hZ e257 Ar258 (j := (3 : Int32)) hin258 (g := (mkF m 93 (LA28 p1 p2 p3 p4 rp mp q cc) [(.int (101 : Int32)), (.int (3 : Int32)), (.ref o254), (.ref o254)])) rfl rfl (hb hby at_93)
          have W258' := W258
          rw [show nar .char (101 : Int32) = (101 : Int32) from rfl] at W258'
          have V258 : Arv Z h258 o254 k254 .char (15 : Int32) [(.int (114 : Int32)), (.int (101 : Int32)), (.int (112 : Int32)), (.int (101 : Int32)), (.int (0 : Int32)), (.int (0 : Int32)), (.int (0 : Int32)), (.int (0 : Int32)), (.int (0 : Int32)), (.int (0 : Int32)), (.int (0 : Int32)), (.int (0 : Int32)), (.int (0 : Int32)), (.int (0 : Int32)), (.int (0 : Int32))] (.int (0 : Int32)) := Arv.set Ar258 q258 S258 N258_ H258 G258 rfl W258' 3 rfl (by simp)
          have N258 := Fr.snoc X258 N257 fr254
          have J258 := J257.wr W258 (List.mem_cons_self ..)
          have B258 := B257.mono (Nat.le_of_eq W258.size.symm)
          have O258 := O257.wr W258 (Nat.le_trans (own_ole O0) fr254)
          have K258 := K257.wr W258 (Or.inr sz254)
          refine Go.of (fun _ hr => st258 _ hr) ?_
          show Go p e s below _ _ _ _ T258 (mkF m 94 (LA28 p1 p2 p3 p4 rp mp q cc) [(.ref o254)])
          refine Go.of (fun _ hr => XS.dup X258.here hx rfl (hb hby at_94) rfl rfl hr) ?_
          show Go p e s below _ _ _ _ T258 (mkF m 95 (LA28 p1 p2 p3 p4 rp mp q cc) [(.ref o254), (.ref o254)])
          refine Go.of (fun _ hr => XS.iconst X258.here hx rfl (hb hby at_95) hr) ?_
          show Go p e s below _ _ _ _ T258 (mkF m 96 (LA28 p1 p2 p3 p4 rp mp q cc) [(.int (4 : Int32)), (.ref o254), (.ref o254)])
          refine Go.of (fun _ hr => XS.bipush X258.here hx rfl (hb hby at_96) hr) ?_
          show Go p e s below _ _ _ _ T258 (mkF m 98 (LA28 p1 p2 p3 p4 rp mp q cc) [(.int (97 : Int32)), (.int (4 : Int32)), (.ref o254), (.ref o254)])
          obtain ⟨cl259, Ar259, q259, S259, N259_, H259, G259⟩ := id V258
          have hin259 : ¬ ((4 : Int32) < 0 ∨ cl259.slots.size ≤ ((4 : Int32)).toNatClampNeg) := inb_of S259 ⟨by decide, by decide⟩
          obtain ⟨T259, h259, X259, e259, W259, st259⟩ := stC X258 hx hZ e258 Ar259 (j := (4 : Int32)) hin259 (g := (mkF m 98 (LA28 p1 p2 p3 p4 rp mp q cc) [(.int (97 : Int32)), (.int (4 : Int32)), (.ref o254), (.ref o254)])) rfl rfl (hb hby at_98)
          have W259' := W259
          rw [show nar .char (97 : Int32) = (97 : Int32) from rfl] at W259'
          have V259 : Arv Z h259 o254 k254 .char (15 : Int32) [(.int (114 : Int32)), (.int (101 : Int32)), (.int (112 : Int32)), (.int (101 : Int32)), (.int (97 : Int32)), (.int (0 : Int32)), (.int (0 : Int32)), (.int (0 : Int32)), (.int (0 : Int32)), (.int (0 : Int32)), (.int (0 : Int32)), (.int (0 : Int32)), (.int (0 : Int32)), (.int (0 : Int32)), (.int (0 : Int32))] (.int (0 : Int32)) := Arv.set Ar259 q259 S259 N259_ H259 G259 rfl W259' 4 rfl (by simp)
          have N259 := Fr.snoc X259 N258 fr254
          have J259 := J258.wr W259 (List.mem_cons_self ..)
          have B259 := B258.mono (Nat.le_of_eq W259.size.symm)
          have O259 := O258.wr W259 (Nat.le_trans (own_ole O0) fr254)
          have K259 := K258.wr W259 (Or.inr sz254)
          refine Go.of (fun _ hr => st259 _ hr) ?_
          show Go p e s below _ _ _ _ T259 (mkF m 99 (LA28 p1 p2 p3 p4 rp mp q cc) [(.ref o254)])
          refine Go.of (fun _ hr => XS.dup X259.here hx rfl (hb hby at_99) rfl rfl hr) ?_
          show Go p e s below _ _ _ _ T259 (mkF m 100 (LA28 p1 p2 p3 p4 rp mp q cc) [(.ref o254), (.ref o254)])
          refine Go.of (fun _ hr => XS.iconst X259.here hx rfl (hb hby at_100) hr) ?_
          show Go p e s below _ _ _ _ T259 (mkF m 101 (LA28 p1 p2 p3 p4 rp mp q cc) [(.int (5 : Int32)), (.ref o254), (.ref o254)])
          refine Go.of (fun _ hr => XS.bipush X259.here hx rfl (hb hby at_101) hr) ?_
          show Go p e s below _ _ _ _ T259 (mkF m 103 (LA28 p1 p2 p3 p4 rp mp q cc) [(.int (116 : Int32)), (.int (5 : Int32)), (.ref o254), (.ref o254)])
          obtain ⟨cl260, Ar260, q260, S260, N260_, H260, G260⟩ := id V259
          have hin260 : ¬ ((5 : Int32) < 0 ∨ cl260.slots.size ≤ ((5 : Int32)).toNatClampNeg) := inb_of S260 ⟨by decide, by decide⟩
          obtain ⟨T260, h260, X260, e260, W260, st260⟩ := stC X259 hx hZ e259 Ar260 (j := (5 : Int32)) hin260 (g := (mkF m 103 (LA28 p1 p2 p3 p4 rp mp q cc) [(.int (116 : Int32)), (.int (5 : Int32)), (.ref o254), (.ref o254)])) rfl rfl (hb hby at_103)
          have W260' := W260
          rw [show nar .char (116 : Int32) = (116 : Int32) from rfl] at W260'
          have V260 : Arv Z h260 o254 k254 .char (15 : Int32) [(.int (114 : Int32)), (.int (101 : Int32)), (.int (112 : Int32)), (.int (101 : Int32)), (.int (97 : Int32)), (.int (116 : Int32)), (.int (0 : Int32)), (.int (0 : Int32)), (.int (0 : Int32)), (.int (0 : Int32)), (.int (0 : Int32)), (.int (0 : Int32)), (.int (0 : Int32)), (.int (0 : Int32)), (.int (0 : Int32))] (.int (0 : Int32)) := Arv.set Ar260 q260 S260 N260_ H260 G260 rfl W260' 5 rfl (by simp)
          have N260 := Fr.snoc X260 N259 fr254
          have J260 := J259.wr W260 (List.mem_cons_self ..)
          have B260 := B259.mono (Nat.le_of_eq W260.size.symm)
          have O260 := O259.wr W260 (Nat.le_trans (own_ole O0) fr254)
          have K260 := K259.wr W260 (Or.inr sz254)
          refine Go.of (fun _ hr => st260 _ hr) ?_
          show Go p e s below _ _ _ _ T260 (mkF m 104 (LA28 p1 p2 p3 p4 rp mp q cc) [(.ref o254)])
          refine Go.of (fun _ hr => XS.dup X260.here hx rfl (hb hby at_104) rfl rfl hr) ?_
          show Go p e s below _ _ _ _ T260 (mkF m 105 (LA28 p1 p2 p3 p4 rp mp q cc) [(.ref o254), (.ref o254)])
          refine Go.of (fun _ hr => XS.bipush X260.here hx rfl (hb hby at_105) hr) ?_
          show Go p e s below _ _ _ _ T260 (mkF m 107 (LA28 p1 p2 p3 p4 rp mp q cc) [(.int (6 : Int32)), (.ref o254), (.ref o254)])
          refine Go.of (fun _ hr => XS.bipush X260.here hx rfl (hb hby at_107) hr) ?_
          show Go p e s below _ _ _ _ T260 (mkF m 109 (LA28 p1 p2 p3 p4 rp mp q cc) [(.int (101 : Int32)), (.int (6 : Int32)), (.ref o254), (.ref o254)])
          obtain ⟨cl261, Ar261, q261, S261, N261_, H261, G261⟩ := id V260
          have hin261 : ¬ ((6 : Int32) < 0 ∨ cl261.slots.size ≤ ((6 : Int32)).toNatClampNeg) := inb_of S261 ⟨by decide, by decide⟩
          obtain ⟨T261, h261, X261, e261, W261, st261⟩ := stC X260 hx hZ e260 Ar261 (j := (6 : Int32)) hin261 (g := (mkF m 109 (LA28 p1 p2 p3 p4 rp mp q cc) [(.int (101 : Int32)), (.int (6 : Int32)), (.ref o254), (.ref o254)])) rfl rfl (hb hby at_109)
          have W261' := W261
          rw [show nar .char (101 : Int32) = (101 : Int32) from rfl] at W261'
          have V261 : Arv Z h261 o254 k254 .char (15 : Int32) [(.int (114 : Int32)), (.int (101 : Int32)), (.int (112 : Int32)), (.int (101 : Int32)), (.int (97 : Int32)), (.int (116 : Int32)), (.int (101 : Int32)), (.int (0 : Int32)), (.int (0 : Int32)), (.int (0 : Int32)), (.int (0 : Int32)), (.int (0 : Int32)), (.int (0 : Int32)), (.int (0 : Int32)), (.int (0 : Int32))] (.int (0 : Int32)) := Arv.set Ar261 q261 S261 N261_ H261 G261 rfl W261' 6 rfl (by simp)
          have N261 := Fr.snoc X261 N260 fr254
          have J261 := J260.wr W261 (List.mem_cons_self ..)
          have B261 := B260.mono (Nat.le_of_eq W261.size.symm)
          have O261 := O260.wr W261 (Nat.le_trans (own_ole O0) fr254)
          have K261 := K260.wr W261 (Or.inr sz254)
          refine Go.of (fun _ hr => st261 _ hr) ?_
          show Go p e s below _ _ _ _ T261 (mkF m 110 (LA28 p1 p2 p3 p4 rp mp q cc) [(.ref o254)])
          refine Go.of (fun _ hr => XS.dup X261.here hx rfl (hb hby at_110) rfl rfl hr) ?_
          show Go p e s below _ _ _ _ T261 (mkF m 111 (LA28 p1 p2 p3 p4 rp mp q cc) [(.ref o254), (.ref o254)])
          refine Go.of (fun _ hr => XS.bipush X261.here hx rfl (hb hby at_111) hr) ?_
          show Go p e s below _ _ _ _ T261 (mkF m 113 (LA28 p1 p2 p3 p4 rp mp q cc) [(.int (7 : Int32)), (.ref o254), (.ref o254)])
          refine Go.of (fun _ hr => XS.bipush X261.here hx rfl (hb hby at_113) hr) ?_
          show Go p e s below _ _ _ _ T261 (mkF m 115 (LA28 p1 p2 p3 p4 rp mp q cc) [(.int (100 : Int32)), (.int (7 : Int32)), (.ref o254), (.ref o254)])
          obtain ⟨cl262, Ar262, q262, S262, N262_, H262, G262⟩ := id V261
          have hin262 : ¬ ((7 : Int32) < 0 ∨ cl262.slots.size ≤ ((7 : Int32)).toNatClampNeg) := inb_of S262 ⟨by decide, by decide⟩
          obtain ⟨T262, h262, X262, e262, W262, st262⟩ := stC X261 hx hZ e261 Ar262 (j := (7 : Int32)) hin262 (g := (mkF m 115 (LA28 p1 p2 p3 p4 rp mp q cc) [(.int (100 : Int32)), (.int (7 : Int32)), (.ref o254), (.ref o254)])) rfl rfl (hb hby at_115)
          have W262' := W262
          rw [show nar .char (100 : Int32) = (100 : Int32) from rfl] at W262'
          have V262 : Arv Z h262 o254 k254 .char (15 : Int32) [(.int (114 : Int32)), (.int (101 : Int32)), (.int (112 : Int32)), (.int (101 : Int32)), (.int (97 : Int32)), (.int (116 : Int32)), (.int (101 : Int32)), (.int (100 : Int32)), (.int (0 : Int32)), (.int (0 : Int32)), (.int (0 : Int32)), (.int (0 : Int32)), (.int (0 : Int32)), (.int (0 : Int32)), (.int (0 : Int32))] (.int (0 : Int32)) := Arv.set Ar262 q262 S262 N262_ H262 G262 rfl W262' 7 rfl (by simp)
          have N262 := Fr.snoc X262 N261 fr254
          have J262 := J261.wr W262 (List.mem_cons_self ..)
          have B262 := B261.mono (Nat.le_of_eq W262.size.symm)
          have O262 := O261.wr W262 (Nat.le_trans (own_ole O0) fr254)
          have K262 := K261.wr W262 (Or.inr sz254)
          refine Go.of (fun _ hr => st262 _ hr) ?_
          show Go p e s below _ _ _ _ T262 (mkF m 116 (LA28 p1 p2 p3 p4 rp mp q cc) [(.ref o254)])
          refine Go.of (fun _ hr => XS.dup X262.here hx rfl (hb hby at_116) rfl rfl hr) ?_
          show Go p e s below _ _ _ _ T262 (mkF m 117 (LA28 p1 p2 p3 p4 rp mp q cc) [(.ref o254), (.ref o254)])
          refine Go.of (fun _ hr => XS.bipush X262.here hx rfl (hb hby at_117) hr) ?_
          show Go p e s below _ _ _ _ T262 (mkF m 119 (LA28 p1 p2 p3 p4 rp mp q cc) [(.int (8 : Int32)), (.ref o254), (.ref o254)])
          refine Go.of (fun _ hr => XS.bipush X262.here hx rfl (hb hby at_119) hr) ?_
          show Go p e s below _ _ _ _ T262 (mkF m 121 (LA28 p1 p2 p3 p4 rp mp q cc) [(.int (32 : Int32)), (.int (8 : Int32)), (.ref o254), (.ref o254)])
          obtain ⟨cl263, Ar263, q263, S263, N263_, H263, G263⟩ := id V262
          have hin263 : ¬ ((8 : Int32) < 0 ∨ cl263.slots.size ≤ ((8 : Int32)).toNatClampNeg) := inb_of S263 ⟨by decide, by decide⟩
          obtain ⟨T263, h263, X263, e263, W263, st263⟩ := stC X262 hx hZ e262 Ar263 (j := (8 : Int32)) hin263 (g := (mkF m 121 (LA28 p1 p2 p3 p4 rp mp q cc) [(.int (32 : Int32)), (.int (8 : Int32)), (.ref o254), (.ref o254)])) rfl rfl (hb hby at_121)
          have W263' := W263
          rw [show nar .char (32 : Int32) = (32 : Int32) from rfl] at W263'
          have V263 : Arv Z h263 o254 k254 .char (15 : Int32) [(.int (114 : Int32)), (.int (101 : Int32)), (.int (112 : Int32)), (.int (101 : Int32)), (.int (97 : Int32)), (.int (116 : Int32)), (.int (101 : Int32)), (.int (100 : Int32)), (.int (32 : Int32)), (.int (0 : Int32)), (.int (0 : Int32)), (.int (0 : Int32)), (.int (0 : Int32)), (.int (0 : Int32)), (.int (0 : Int32))] (.int (0 : Int32)) := Arv.set Ar263 q263 S263 N263_ H263 G263 rfl W263' 8 rfl (by simp)
          have N263 := Fr.snoc X263 N262 fr254
          have J263 := J262.wr W263 (List.mem_cons_self ..)
          have B263 := B262.mono (Nat.le_of_eq W263.size.symm)
          have O263 := O262.wr W263 (Nat.le_trans (own_ole O0) fr254)
          have K263 := K262.wr W263 (Or.inr sz254)
          refine Go.of (fun _ hr => st263 _ hr) ?_
          show Go p e s below _ _ _ _ T263 (mkF m 122 (LA28 p1 p2 p3 p4 rp mp q cc) [(.ref o254)])
          refine Go.of (fun _ hr => XS.dup X263.here hx rfl (hb hby at_122) rfl rfl hr) ?_
          show Go p e s below _ _ _ _ T263 (mkF m 123 (LA28 p1 p2 p3 p4 rp mp q cc) [(.ref o254), (.ref o254)])
          refine Go.of (fun _ hr => XS.bipush X263.here hx rfl (hb hby at_123) hr) ?_
          show Go p e s below _ _ _ _ T263 (mkF m 125 (LA28 p1 p2 p3 p4 rp mp q cc) [(.int (9 : Int32)), (.ref o254), (.ref o254)])
          refine Go.of (fun _ hr => XS.bipush X263.here hx rfl (hb hby at_125) hr) ?_
          show Go p e s below _ _ _ _ T263 (mkF m 127 (LA28 p1 p2 p3 p4 rp mp q cc) [(.int (115 : Int32)), (.int (9 : Int32)), (.ref o254), (.ref o254)])
          obtain ⟨cl264, Ar264, q264, S264, N264_, H264, G264⟩ := id V263
          have hin264 : ¬ ((9 : Int32) < 0 ∨ cl264.slots.size ≤ ((9 : Int32)).toNatClampNeg) := inb_of S264 ⟨by decide, by decide⟩
          obtain ⟨T264, h264, X264, e264, W264, st264⟩ := stC X263 hx hZ e263 Ar264 (j := (9 : Int32)) hin264 (g := (mkF m 127 (LA28 p1 p2 p3 p4 rp mp q cc) [(.int (115 : Int32)), (.int (9 : Int32)), (.ref o254), (.ref o254)])) rfl rfl (hb hby at_127)
          have W264' := W264
          rw [show nar .char (115 : Int32) = (115 : Int32) from rfl] at W264'
          have V264 : Arv Z h264 o254 k254 .char (15 : Int32) [(.int (114 : Int32)), (.int (101 : Int32)), (.int (112 : Int32)), (.int (101 : Int32)), (.int (97 : Int32)), (.int (116 : Int32)), (.int (101 : Int32)), (.int (100 : Int32)), (.int (32 : Int32)), (.int (115 : Int32)), (.int (0 : Int32)), (.int (0 : Int32)), (.int (0 : Int32)), (.int (0 : Int32)), (.int (0 : Int32))] (.int (0 : Int32)) := Arv.set Ar264 q264 S264 N264_ H264 G264 rfl W264' 9 rfl (by simp)
          have N264 := Fr.snoc X264 N263 fr254
          have J264 := J263.wr W264 (List.mem_cons_self ..)
          have B264 := B263.mono (Nat.le_of_eq W264.size.symm)
          have O264 := O263.wr W264 (Nat.le_trans (own_ole O0) fr254)
          have K264 := K263.wr W264 (Or.inr sz254)
          refine Go.of (fun _ hr => st264 _ hr) ?_
          show Go p e s below _ _ _ _ T264 (mkF m 128 (LA28 p1 p2 p3 p4 rp mp q cc) [(.ref o254)])
          refine Go.of (fun _ hr => XS.dup X264.here hx rfl (hb hby at_128) rfl rfl hr) ?_
          show Go p e s below _ _ _ _ T264 (mkF m 129 (LA28 p1 p2 p3 p4 rp mp q cc) [(.ref o254), (.ref o254)])
          refine Go.of (fun _ hr => XS.bipush X264.here hx rfl (hb hby at_129) hr) ?_
          show Go p e s below _ _ _ _ T264 (mkF m 131 (LA28 p1 p2 p3 p4 rp mp q cc) [(.int (10 : Int32)), (.ref o254), (.ref o254)])
          refine Go.of (fun _ hr => XS.bipush X264.here hx rfl (hb hby at_131) hr) ?_
          show Go p e s below _ _ _ _ T264 (mkF m 133 (LA28 p1 p2 p3 p4 rp mp q cc) [(.int (116 : Int32)), (.int (10 : Int32)), (.ref o254), (.ref o254)])
          obtain ⟨cl265, Ar265, q265, S265, N265_, H265, G265⟩ := id V264
          have hin265 : ¬ ((10 : Int32) < 0 ∨ cl265.slots.size ≤ ((10 : Int32)).toNatClampNeg) := inb_of S265 ⟨by decide, by decide⟩
          obtain ⟨T265, h265, X265, e265, W265, st265⟩ := stC X264 hx hZ e264 Ar265 (j := (10 : Int32)) hin265 (g := (mkF m 133 (LA28 p1 p2 p3 p4 rp mp q cc) [(.int (116 : Int32)), (.int (10 : Int32)), (.ref o254), (.ref o254)])) rfl rfl (hb hby at_133)
          have W265' := W265
          rw [show nar .char (116 : Int32) = (116 : Int32) from rfl] at W265'
          have V265 : Arv Z h265 o254 k254 .char (15 : Int32) [(.int (114 : Int32)), (.int (101 : Int32)), (.int (112 : Int32)), (.int (101 : Int32)), (.int (97 : Int32)), (.int (116 : Int32)), (.int (101 : Int32)), (.int (100 : Int32)), (.int (32 : Int32)), (.int (115 : Int32)), (.int (116 : Int32)), (.int (0 : Int32)), (.int (0 : Int32)), (.int (0 : Int32)), (.int (0 : Int32))] (.int (0 : Int32)) := Arv.set Ar265 q265 S265 N265_ H265 G265 rfl W265' 10 rfl (by simp)
          have N265 := Fr.snoc X265 N264 fr254
          have J265 := J264.wr W265 (List.mem_cons_self ..)
          have B265 := B264.mono (Nat.le_of_eq W265.size.symm)
          have O265 := O264.wr W265 (Nat.le_trans (own_ole O0) fr254)
          have K265 := K264.wr W265 (Or.inr sz254)
          refine Go.of (fun _ hr => st265 _ hr) ?_
          show Go p e s below _ _ _ _ T265 (mkF m 134 (LA28 p1 p2 p3 p4 rp mp q cc) [(.ref o254)])
          refine Go.of (fun _ hr => XS.dup X265.here hx rfl (hb hby at_134) rfl rfl hr) ?_
          show Go p e s below _ _ _ _ T265 (mkF m 135 (LA28 p1 p2 p3 p4 rp mp q cc) [(.ref o254), (.ref o254)])
          refine Go.of (fun _ hr => XS.bipush X265.here hx rfl (hb hby at_135) hr) ?_
          show Go p e s below _ _ _ _ T265 (mkF m 137 (LA28 p1 p2 p3 p4 rp mp q cc) [(.int (11 : Int32)), (.ref o254), (.ref o254)])
          refine Go.of (fun _ hr => XS.bipush X265.here hx rfl (hb hby at_137) hr) ?_
          show Go p e s below _ _ _ _ T265 (mkF m 139 (LA28 p1 p2 p3 p4 rp mp q cc) [(.int (114 : Int32)), (.int (11 : Int32)), (.ref o254), (.ref o254)])
          obtain ⟨cl266, Ar266, q266, S266, N266_, H266, G266⟩ := id V265
          have hin266 : ¬ ((11 : Int32) < 0 ∨ cl266.slots.size ≤ ((11 : Int32)).toNatClampNeg) := inb_of S266 ⟨by decide, by decide⟩
          obtain ⟨T266, h266, X266, e266, W266, st266⟩ := stC X265 hx hZ e265 Ar266 (j := (11 : Int32)) hin266 (g := (mkF m 139 (LA28 p1 p2 p3 p4 rp mp q cc) [(.int (114 : Int32)), (.int (11 : Int32)), (.ref o254), (.ref o254)])) rfl rfl (hb hby at_139)
          have W266' := W266
          rw [show nar .char (114 : Int32) = (114 : Int32) from rfl] at W266'
          have V266 : Arv Z h266 o254 k254 .char (15 : Int32) [(.int (114 : Int32)), (.int (101 : Int32)), (.int (112 : Int32)), (.int (101 : Int32)), (.int (97 : Int32)), (.int (116 : Int32)), (.int (101 : Int32)), (.int (100 : Int32)), (.int (32 : Int32)), (.int (115 : Int32)), (.int (116 : Int32)), (.int (114 : Int32)), (.int (0 : Int32)), (.int (0 : Int32)), (.int (0 : Int32))] (.int (0 : Int32)) := Arv.set Ar266 q266 S266 N266_ H266 G266 rfl W266' 11 rfl (by simp)
          have N266 := Fr.snoc X266 N265 fr254
          have J266 := J265.wr W266 (List.mem_cons_self ..)
          have B266 := B265.mono (Nat.le_of_eq W266.size.symm)
          have O266 := O265.wr W266 (Nat.le_trans (own_ole O0) fr254)
          have K266 := K265.wr W266 (Or.inr sz254)
          refine Go.of (fun _ hr => st266 _ hr) ?_
          show Go p e s below _ _ _ _ T266 (mkF m 140 (LA28 p1 p2 p3 p4 rp mp q cc) [(.ref o254)])
          refine Go.of (fun _ hr => XS.dup X266.here hx rfl (hb hby at_140) rfl rfl hr) ?_
          show Go p e s below _ _ _ _ T266 (mkF m 141 (LA28 p1 p2 p3 p4 rp mp q cc) [(.ref o254), (.ref o254)])
          refine Go.of (fun _ hr => XS.bipush X266.here hx rfl (hb hby at_141) hr) ?_
          show Go p e s below _ _ _ _ T266 (mkF m 143 (LA28 p1 p2 p3 p4 rp mp q cc) [(.int (12 : Int32)), (.ref o254), (.ref o254)])
          refine Go.of (fun _ hr => XS.bipush X266.here hx rfl (hb hby at_143) hr) ?_
          show Go p e s below _ _ _ _ T266 (mkF m 145 (LA28 p1 p2 p3 p4 rp mp q cc) [(.int (105 : Int32)), (.int (12 : Int32)), (.ref o254), (.ref o254)])
          obtain ⟨cl267, Ar267, q267, S267, N267_, H267, G267⟩ := id V266
          have hin267 : ¬ ((12 : Int32) < 0 ∨ cl267.slots.size ≤ ((12 : Int32)).toNatClampNeg) := inb_of S267 ⟨by decide, by decide⟩
          obtain ⟨T267, h267, X267, e267, W267, st267⟩ := stC X266 hx hZ e266 Ar267 (j := (12 : Int32)) hin267 (g := (mkF m 145 (LA28 p1 p2 p3 p4 rp mp q cc) [(.int (105 : Int32)), (.int (12 : Int32)), (.ref o254), (.ref o254)])) rfl rfl (hb hby at_145)
          have W267' := W267
          rw [show nar .char (105 : Int32) = (105 : Int32) from rfl] at W267'
          have V267 : Arv Z h267 o254 k254 .char (15 : Int32) [(.int (114 : Int32)), (.int (101 : Int32)), (.int (112 : Int32)), (.int (101 : Int32)), (.int (97 : Int32)), (.int (116 : Int32)), (.int (101 : Int32)), (.int (100 : Int32)), (.int (32 : Int32)), (.int (115 : Int32)), (.int (116 : Int32)), (.int (114 : Int32)), (.int (105 : Int32)), (.int (0 : Int32)), (.int (0 : Int32))] (.int (0 : Int32)) := Arv.set Ar267 q267 S267 N267_ H267 G267 rfl W267' 12 rfl (by simp)
          have N267 := Fr.snoc X267 N266 fr254
          have J267 := J266.wr W267 (List.mem_cons_self ..)
          have B267 := B266.mono (Nat.le_of_eq W267.size.symm)
          have O267 := O266.wr W267 (Nat.le_trans (own_ole O0) fr254)
          have K267 := K266.wr W267 (Or.inr sz254)
          refine Go.of (fun _ hr => st267 _ hr) ?_
          show Go p e s below _ _ _ _ T267 (mkF m 146 (LA28 p1 p2 p3 p4 rp mp q cc) [(.ref o254)])
          refine Go.of (fun _ hr => XS.dup X267.here hx rfl (hb hby at_146) rfl rfl hr) ?_
          show Go p e s below _ _ _ _ T267 (mkF m 147 (LA28 p1 p2 p3 p4 rp mp q cc) [(.ref o254), (.ref o254)])
          refine Go.of (fun _ hr => XS.bipush X267.here hx rfl (hb hby at_147) hr) ?_
          show Go p e s below _ _ _ _ T267 (mkF m 149 (LA28 p1 p2 p3 p4 rp mp q cc) [(.int (13 : Int32)), (.ref o254), (.ref o254)])
          refine Go.of (fun _ hr => XS.bipush X267.here hx rfl (hb hby at_149) hr) ?_
          show Go p e s below _ _ _ _ T267 (mkF m 151 (LA28 p1 p2 p3 p4 rp mp q cc) [(.int (110 : Int32)), (.int (13 : Int32)), (.ref o254), (.ref o254)])
          obtain ⟨cl268, Ar268, q268, S268, N268_, H268, G268⟩ := id V267
          have hin268 : ¬ ((13 : Int32) < 0 ∨ cl268.slots.size ≤ ((13 : Int32)).toNatClampNeg) := inb_of S268 ⟨by decide, by decide⟩
          obtain ⟨T268, h268, X268, e268, W268, st268⟩ := stC X267 hx hZ e267 Ar268 (j := (13 : Int32)) hin268 (g := (mkF m 151 (LA28 p1 p2 p3 p4 rp mp q cc) [(.int (110 : Int32)), (.int (13 : Int32)), (.ref o254), (.ref o254)])) rfl rfl (hb hby at_151)
          have W268' := W268
          rw [show nar .char (110 : Int32) = (110 : Int32) from rfl] at W268'
          have V268 : Arv Z h268 o254 k254 .char (15 : Int32) [(.int (114 : Int32)), (.int (101 : Int32)), (.int (112 : Int32)), (.int (101 : Int32)), (.int (97 : Int32)), (.int (116 : Int32)), (.int (101 : Int32)), (.int (100 : Int32)), (.int (32 : Int32)), (.int (115 : Int32)), (.int (116 : Int32)), (.int (114 : Int32)), (.int (105 : Int32)), (.int (110 : Int32)), (.int (0 : Int32))] (.int (0 : Int32)) := Arv.set Ar268 q268 S268 N268_ H268 G268 rfl W268' 13 rfl (by simp)
          have N268 := Fr.snoc X268 N267 fr254
          have J268 := J267.wr W268 (List.mem_cons_self ..)
          have B268 := B267.mono (Nat.le_of_eq W268.size.symm)
          have O268 := O267.wr W268 (Nat.le_trans (own_ole O0) fr254)
          have K268 := K267.wr W268 (Or.inr sz254)
          refine Go.of (fun _ hr => st268 _ hr) ?_
          show Go p e s below _ _ _ _ T268 (mkF m 152 (LA28 p1 p2 p3 p4 rp mp q cc) [(.ref o254)])
          refine Go.of (fun _ hr => XS.dup X268.here hx rfl (hb hby at_152) rfl rfl hr) ?_
          show Go p e s below _ _ _ _ T268 (mkF m 153 (LA28 p1 p2 p3 p4 rp mp q cc) [(.ref o254), (.ref o254)])
          refine Go.of (fun _ hr => XS.bipush X268.here hx rfl (hb hby at_153) hr) ?_
          show Go p e s below _ _ _ _ T268 (mkF m 155 (LA28 p1 p2 p3 p4 rp mp q cc) [(.int (14 : Int32)), (.ref o254), (.ref o254)])
          refine Go.of (fun _ hr => XS.bipush X268.here hx rfl (hb hby at_155) hr) ?_
          show Go p e s below _ _ _ _ T268 (mkF m 157 (LA28 p1 p2 p3 p4 rp mp q cc) [(.int (103 : Int32)), (.int (14 : Int32)), (.ref o254), (.ref o254)])
          obtain ⟨cl269, Ar269, q269, S269, N269_, H269, G269⟩ := id V268
          have hin269 : ¬ ((14 : Int32) < 0 ∨ cl269.slots.size ≤ ((14 : Int32)).toNatClampNeg) := inb_of S269 ⟨by decide, by decide⟩
          obtain ⟨T269, h269, X269, e269, W269, st269⟩ := stC X268 hx hZ e268 Ar269 (j := (14 : Int32)) hin269 (g := (mkF m 157 (LA28 p1 p2 p3 p4 rp mp q cc) [(.int (103 : Int32)), (.int (14 : Int32)), (.ref o254), (.ref o254)])) rfl rfl (hb hby at_157)
          have W269' := W269
          rw [show nar .char (103 : Int32) = (103 : Int32) from rfl] at W269'
          have V269 : Arv Z h269 o254 k254 .char (15 : Int32) [(.int (114 : Int32)), (.int (101 : Int32)), (.int (112 : Int32)), (.int (101 : Int32)), (.int (97 : Int32)), (.int (116 : Int32)), (.int (101 : Int32)), (.int (100 : Int32)), (.int (32 : Int32)), (.int (115 : Int32)), (.int (116 : Int32)), (.int (114 : Int32)), (.int (105 : Int32)), (.int (110 : Int32)), (.int (103 : Int32))] (.int (0 : Int32)) := Arv.set Ar269 q269 S269 N269_ H269 G269 rfl W269' 14 rfl (by simp)
          have N269 := Fr.snoc X269 N268 fr254
          have J269 := J268.wr W269 (List.mem_cons_self ..)
          have B269 := B268.mono (Nat.le_of_eq W269.size.symm)
          have O269 := O268.wr W269 (Nat.le_trans (own_ole O0) fr254)
          have K269 := K268.wr W269 (Or.inr sz254)
          refine Go.of (fun _ hr => st269 _ hr) ?_
          show Go p e s below _ _ _ _ T269 (mkF m 158 (LA28 p1 p2 p3 p4 rp mp q cc) [(.ref o254)])
          refine Go.of (fun _ hr => XS.goto X269.here hx rfl (pc0 := 158) (pc' := 195) rfl (hb hby at_158) (by decide) (by decide) hr) ?_
          show Go p e s below _ _ _ _ T269 (mkF m 195 (LA28 p1 p2 p3 p4 rp mp q cc) [(.ref o254)])
          refine Go.of (fun _ hr => XS.astore X269.here hx rfl (hb hby at_195) rfl rfl (l' := (LA29 p1 p2 p3 p4 rp mp q cc o254)) rfl hr) ?_
          show Go p e s below _ _ _ _ T269 (mkF m 197 (LA29 p1 p2 p3 p4 rp mp q cc o254) [])
          refine Go.of (fun _ hr => XS.aload X269.here hx rfl (hb hby at_197) rfl rfl hr) ?_
          show Go p e s below _ _ _ _ T269 (mkF m 199 (LA29 p1 p2 p3 p4 rp mp q cc o254) [(.ref o254)])
          obtain ⟨cl270, Ar270, q270, S270, N270_, H270, G270⟩ := id V269
          refine Go.of (fun _ hr => X269.arraylength hx (by rw [e269]; exact Ar270.1) (State.isArrayOf_alike hZ.alike Ar270.2.1) (g := (mkF m 199 (LA29 p1 p2 p3 p4 rp mp q cc o254) [(.ref o254)])) rfl rfl (hb hby at_199) _ hr) ?_
          rw [len_of S270 N270_]
          show Go p e s below _ _ _ _ T269 (mkF m 200 (LA29 p1 p2 p3 p4 rp mp q cc o254) [(.int (15 : Int32))])
          refine Go.of (fun _ hr => XS.iload X269.here hx rfl (hb hby at_200) rfl  hr) ?_
          show Go p e s below _ _ _ _ T269 (mkF m 202 (LA29 p1 p2 p3 p4 rp mp q cc o254) [(.int (-1 : Int32)), (.int (15 : Int32))])
          refine Go.of (fun _ hr => XS.iadd X269.here hx rfl (hb hby at_202) rfl hr) ?_
          show Go p e s below _ _ _ _ T269 (mkF m 203 (LA29 p1 p2 p3 p4 rp mp q cc o254) [(.int (14 : Int32))])
          refine Go.of (fun _ hr => XS.istore X269.here hx rfl (hb hby at_203) rfl (l' := (LA30 p1 p2 p3 p4 rp mp q cc o254)) rfl hr) ?_
          show Go p e s below _ _ _ _ T269 (mkF m 205 (LA30 p1 p2 p3 p4 rp mp q cc o254) [])
          refine Go.of (fun _ hr => XS.iload X269.here hx rfl (hb hby at_205) rfl  hr) ?_
          show Go p e s below _ _ _ _ T269 (mkF m 207 (LA30 p1 p2 p3 p4 rp mp q cc o254) [(.int (14 : Int32))])
          obtain ⟨T271, h271, k271, X271, e271, E271, A271, st271⟩ := newP X269 hx hZ (hw _ (List.mem_of_getElem? (i := 1) rfl)) e269 (g := (mkF m 207 (LA30 p1 p2 p3 p4 rp mp q cc o254) [(.int (14 : Int32))])) rfl (hb hby at_207) rfl (by decide) (cap := 14) (by decide) (by decide) (by decide) (by decide)
          obtain ⟨o271, g271⟩ : ∃ z, z = h269.size := ⟨_, rfl⟩
          rw [← g271] at A271 st271
          have ne_o254_o271 : o254 ≠ o271 := Nat.ne_of_lt (Nat.lt_of_lt_of_le V269.lt (Nat.le_of_eq g271.symm))
          have V271 : Arv Z h271 o271 k271 .char (14 : Int32) [(.int (0 : Int32)), (.int (0 : Int32)), (.int (0 : Int32)), (.int (0 : Int32)), (.int (0 : Int32)), (.int (0 : Int32)), (.int (0 : Int32)), (.int (0 : Int32)), (.int (0 : Int32)), (.int (0 : Int32)), (.int (0 : Int32)), (.int (0 : Int32)), (.int (0 : Int32)), (.int (0 : Int32))] (.int (0 : Int32)) := (Arv.new A271 (by decide)).pad (pad_rep [] (.int (0 : Int32)) 14)
          have lt271 : o271 < h271.size := A271.lt
          have J271 := J269.add E271 g271 lt271
          have B271 := B269.mono E271.1
          have O271 := O269.ext E271
          have sz271 : h0.size ≤ o271 := Nat.le_trans K269.1 (Nat.le_of_eq g271.symm)
          have fr271 : h0.size ≤ o271 := sz271
          have K271 := K269.ext E271
          refine Go.of (fun _ hr => st271 _ hr) ?_
          show Go p e s below _ _ _ _ T271 (mkF m 209 (LA30 p1 p2 p3 p4 rp mp q cc o254) [(.ref o271)])
          refine Go.of (fun _ hr => XS.astore X271.here hx rfl (hb hby at_209) rfl rfl (l' := (LA31 p1 p2 p3 p4 rp mp q cc o254 o271)) rfl hr) ?_
          show Go p e s below _ _ _ _ T271 (mkF m 211 (LA31 p1 p2 p3 p4 rp mp q cc o254 o271) [])
          refine Go.of (fun _ hr => XS.iload X271.here hx rfl (hb hby at_211) rfl  hr) ?_
          show Go p e s below _ _ _ _ T271 (mkF m 213 (LA31 p1 p2 p3 p4 rp mp q cc o254 o271) [(.int (14 : Int32))])
          refine Go.of (fun _ hr => XS.ifNo X271.here hx rfl (hb hby at_213) rfl ((if0 _ _).trans (tlt (by decide : ((0 : Int32) < (14 : Int32)))).2.2.2) hr) ?_
          show Go p e s below _ _ _ _ T271 (mkF m 216 (LA31 p1 p2 p3 p4 rp mp q cc o254 o271) [])
          refine Go.of (fun _ hr => XS.aload X271.here hx rfl (hb hby at_216) rfl rfl hr) ?_
          show Go p e s below _ _ _ _ T271 (mkF m 218 (LA31 p1 p2 p3 p4 rp mp q cc o254 o271) [(.ref o271)])
          refine Go.of (fun _ hr => XS.iconst X271.here hx rfl (hb hby at_218) hr) ?_
          show Go p e s below _ _ _ _ T271 (mkF m 219 (LA31 p1 p2 p3 p4 rp mp q cc o254 o271) [(.int (0 : Int32)), (.ref o271)])
          refine Go.of (fun _ hr => XS.aload X271.here hx rfl (hb hby at_219) rfl rfl hr) ?_
          show Go p e s below _ _ _ _ T271 (mkF m 221 (LA31 p1 p2 p3 p4 rp mp q cc o254 o271) [(.ref o254), (.int (0 : Int32)), (.ref o271)])
          refine Go.of (fun _ hr => XS.iconst X271.here hx rfl (hb hby at_221) hr) ?_
          show Go p e s below _ _ _ _ T271 (mkF m 222 (LA31 p1 p2 p3 p4 rp mp q cc o254 o271) [(.int (0 : Int32)), (.ref o254), (.int (0 : Int32)), (.ref o271)])
          refine Go.of (fun _ hr => XS.iload X271.here hx rfl (hb hby at_222) rfl  hr) ?_
          show Go p e s below _ _ _ _ T271 (mkF m 224 (LA31 p1 p2 p3 p4 rp mp q cc o254 o271) [(.int q), (.int (0 : Int32)), (.ref o254), (.int (0 : Int32)), (.ref o271)])
          refine Go.of (fun _ hr => XS.iload X271.here hx rfl (hb hby at_224) rfl  hr) ?_
          show Go p e s below _ _ _ _ T271 (mkF m 226 (LA31 p1 p2 p3 p4 rp mp q cc o254 o271) [(.int cc), (.int q), (.int (0 : Int32)), (.ref o254), (.int (0 : Int32)), (.ref o271)])
          have f273 := (V269.ext E271)
          obtain ⟨_, b272, T272, h272, L272, e272, Cc272, X272, B272, J272, g272, hQ272, st272⟩ := own_callS Cc B271 J271 X271 (hw _ (List.mem_of_getElem? (i := 2) rfl)) (hw _ (List.mem_of_getElem? (i := 3) rfl)) (hw _ (List.mem_of_getElem? (i := 4) rfl)) (hw _ (List.mem_of_getElem? (i := 5) rfl)) (by decide) (rm1 l Z a0 hw [] o254 _ (0 : Int32) q cc bR _ h271 n0 O271 h0.size (own_ole O0) K271.1 bR_rng (by decide) (by decide) hq_cc f273) e271 (g := (mkF m 226 (LA31 p1 p2 p3 p4 rp mp q cc o254 o271) [(.int cc), (.int q), (.int (0 : Int32)), (.ref o254), (.int (0 : Int32)), (.ref o271)])) rfl (by rw [hml]; rfl) (argsL := [(.ref o254), (.int (0 : Int32)), (.int q), (.int cc)]) (rest := [(.int (0 : Int32)), (.ref o271)]) (lenOf pd7 rfl) rfl (W := 2) (by show 2 * 0 + _ ≤ _; exact Nat.le_of_eq rfl) (hb hby at_226) (by decide) (by decide) (by decide) (by decide)
          obtain ⟨rfl, Nq272, hh272⟩ := hQ272
          have N272 := Fr.app N269 Nq272
          obtain ⟨hx, hZ, hown, hby, hml, hnm, hret, hlk⟩ := id Cc272
          rw [hh272] at e272 B272 J272
          refine Go.of st272 ?_
          show Go p e s below _ _ _ _ T272 (mkF m 229 (LA31 p1 p2 p3 p4 rp mp q cc o254 o271) [(.int (atV bR (0 : Int32) q cc)), (.int (0 : Int32)), (.ref o271)])
          have Vz : Arv Z h271 o271 k271 .char (14 : Int32) ((outL bR 0 q cc).map Value.int) (.int 0) := Arv.fill0 V271
          obtain ⟨cl274, Ar274, q274, S274, N274_, H274, G274⟩ := id Vz
          have hin274 : ¬ ((0 : Int32) < 0 ∨ cl274.slots.size ≤ ((0 : Int32)).toNatClampNeg) := inb_of S274 ⟨by decide, by decide⟩
          obtain ⟨T274, h274, X274, e274, W274, st274⟩ := stC X272 hx hZ e272 Ar274 (j := (0 : Int32)) hin274 (g := (mkF m 229 (LA31 p1 p2 p3 p4 rp mp q cc o254 o271) [(.int (atV bR (0 : Int32) q cc)), (.int (0 : Int32)), (.ref o271)])) rfl rfl (hb hby at_229)
          rw [nar_c (atV_rng bR_rng (by decide) (by decide) hq_cc).1 (le255 (atV_rng bR_rng (by decide) (by decide) hq_cc).2)] at W274
          have V274 : Arv Z h274 o271 k271 .char (14 : Int32) ((outL bR 1 q cc).map Value.int) (.int 0) := outL_push bR 0 q cc ▸ own_push Vz W274 (by rw [List.length_map, outL_len]; decide) (fits_c (atV_rng bR_rng (by decide) (by decide) hq_cc).1 (le255 (atV_rng bR_rng (by decide) (by decide) hq_cc).2))
          have N274 := Fr.snoc X274 N272 fr271
          have J274 := J272.wr W274 (List.mem_cons_self ..)
          have B274 := B272.mono (Nat.le_of_eq W274.size.symm)
          have O274 := O271.wr W274 (Nat.le_trans (own_ole O0) fr271)
          have K274 := K271.wr W274 (Or.inr sz271)
          refine Go.of (fun _ hr => st274 _ hr) ?_
          show Go p e s below _ _ _ _ T274 (mkF m 230 (LA31 p1 p2 p3 p4 rp mp q cc o254 o271) [])
          refine Go.of (fun _ hr => XS.iload X274.here hx rfl (hb hby at_230) rfl  hr) ?_
          show Go p e s below _ _ _ _ T274 (mkF m 232 (LA31 p1 p2 p3 p4 rp mp q cc o254 o271) [(.int (14 : Int32))])
          refine Go.of (fun _ hr => XS.iconst X274.here hx rfl (hb hby at_232) hr) ?_
          show Go p e s below _ _ _ _ T274 (mkF m 233 (LA31 p1 p2 p3 p4 rp mp q cc o254 o271) [(.int (1 : Int32)), (.int (14 : Int32))])
          refine Go.of (fun _ hr => XS.icmpNo X274.here hx rfl (hb hby at_233) rfl (tlt (by decide : ((1 : Int32) < (14 : Int32)))).2.2.2 hr) ?_
          show Go p e s below _ _ _ _ T274 (mkF m 236 (LA31 p1 p2 p3 p4 rp mp q cc o254 o271) [])
          refine Go.of (fun _ hr => XS.aload X274.here hx rfl (hb hby at_236) rfl rfl hr) ?_
          show Go p e s below _ _ _ _ T274 (mkF m 238 (LA31 p1 p2 p3 p4 rp mp q cc o254 o271) [(.ref o271)])
          refine Go.of (fun _ hr => XS.iconst X274.here hx rfl (hb hby at_238) hr) ?_
          show Go p e s below _ _ _ _ T274 (mkF m 239 (LA31 p1 p2 p3 p4 rp mp q cc o254 o271) [(.int (1 : Int32)), (.ref o271)])
          refine Go.of (fun _ hr => XS.aload X274.here hx rfl (hb hby at_239) rfl rfl hr) ?_
          show Go p e s below _ _ _ _ T274 (mkF m 241 (LA31 p1 p2 p3 p4 rp mp q cc o254 o271) [(.ref o254), (.int (1 : Int32)), (.ref o271)])
          refine Go.of (fun _ hr => XS.iconst X274.here hx rfl (hb hby at_241) hr) ?_
          show Go p e s below _ _ _ _ T274 (mkF m 242 (LA31 p1 p2 p3 p4 rp mp q cc o254 o271) [(.int (1 : Int32)), (.ref o254), (.int (1 : Int32)), (.ref o271)])
          refine Go.of (fun _ hr => XS.iload X274.here hx rfl (hb hby at_242) rfl  hr) ?_
          show Go p e s below _ _ _ _ T274 (mkF m 244 (LA31 p1 p2 p3 p4 rp mp q cc o254 o271) [(.int q), (.int (1 : Int32)), (.ref o254), (.int (1 : Int32)), (.ref o271)])
          refine Go.of (fun _ hr => XS.iload X274.here hx rfl (hb hby at_244) rfl  hr) ?_
          show Go p e s below _ _ _ _ T274 (mkF m 246 (LA31 p1 p2 p3 p4 rp mp q cc o254 o271) [(.int cc), (.int q), (.int (1 : Int32)), (.ref o254), (.int (1 : Int32)), (.ref o271)])
          have f276 := (f273.other W274 ne_o254_o271)
          obtain ⟨_, b275, T275, h275, L275, e275, Cc275, X275, B275, J275, g275, hQ275, st275⟩ := own_callS Cc272 B274 J274 X274 (hw _ (List.mem_of_getElem? (i := 2) rfl)) (hw _ (List.mem_of_getElem? (i := 3) rfl)) (hw _ (List.mem_of_getElem? (i := 4) rfl)) (hw _ (List.mem_of_getElem? (i := 5) rfl)) (by decide) (rm1 l Z a0 hw [] o254 _ (1 : Int32) q cc bR _ h274 n0 O274 h0.size (own_ole O0) K274.1 bR_rng (by decide) (by decide) hq_cc f276) e274 (g := (mkF m 246 (LA31 p1 p2 p3 p4 rp mp q cc o254 o271) [(.int cc), (.int q), (.int (1 : Int32)), (.ref o254), (.int (1 : Int32)), (.ref o271)])) rfl (by rw [hml]; rfl) (argsL := [(.ref o254), (.int (1 : Int32)), (.int q), (.int cc)]) (rest := [(.int (1 : Int32)), (.ref o271)]) (lenOf pd7 rfl) rfl (W := 2) (by show 2 * 0 + _ ≤ _; exact Nat.le_of_eq rfl) (hb hby at_246) (by decide) (by decide) (by decide) (by decide)
          obtain ⟨rfl, Nq275, hh275⟩ := hQ275
          have N275 := Fr.app N274 Nq275
          obtain ⟨hx, hZ, hown, hby, hml, hnm, hret, hlk⟩ := id Cc275
          rw [hh275] at e275 B275 J275
          refine Go.of st275 ?_
          show Go p e s below _ _ _ _ T275 (mkF m 249 (LA31 p1 p2 p3 p4 rp mp q cc o254 o271) [(.int (atV bR (1 : Int32) q cc)), (.int (1 : Int32)), (.ref o271)])
          obtain ⟨cl277, Ar277, q277, S277, N277_, H277, G277⟩ := id V274
          have hin277 : ¬ ((1 : Int32) < 0 ∨ cl277.slots.size ≤ ((1 : Int32)).toNatClampNeg) := inb_of S277 ⟨by decide, by decide⟩
          obtain ⟨T277, h277, X277, e277, W277, st277⟩ := stC X275 hx hZ e275 Ar277 (j := (1 : Int32)) hin277 (g := (mkF m 249 (LA31 p1 p2 p3 p4 rp mp q cc o254 o271) [(.int (atV bR (1 : Int32) q cc)), (.int (1 : Int32)), (.ref o271)])) rfl rfl (hb hby at_249)
          rw [nar_c (atV_rng bR_rng (by decide) (by decide) hq_cc).1 (le255 (atV_rng bR_rng (by decide) (by decide) hq_cc).2)] at W277
          have V277 : Arv Z h277 o271 k271 .char (14 : Int32) ((outL bR 2 q cc).map Value.int) (.int 0) := outL_push bR 1 q cc ▸ own_push V274 W277 (by rw [List.length_map, outL_len]; decide) (fits_c (atV_rng bR_rng (by decide) (by decide) hq_cc).1 (le255 (atV_rng bR_rng (by decide) (by decide) hq_cc).2))
          have N277 := Fr.snoc X277 N275 fr271
          have J277 := J275.wr W277 (List.mem_cons_self ..)
          have B277 := B275.mono (Nat.le_of_eq W277.size.symm)
          have O277 := O274.wr W277 (Nat.le_trans (own_ole O0) fr271)
          have K277 := K274.wr W277 (Or.inr sz271)
          refine Go.of (fun _ hr => st277 _ hr) ?_
          show Go p e s below _ _ _ _ T277 (mkF m 250 (LA31 p1 p2 p3 p4 rp mp q cc o254 o271) [])
          refine Go.of (fun _ hr => XS.iload X277.here hx rfl (hb hby at_250) rfl  hr) ?_
          show Go p e s below _ _ _ _ T277 (mkF m 252 (LA31 p1 p2 p3 p4 rp mp q cc o254 o271) [(.int (14 : Int32))])
          refine Go.of (fun _ hr => XS.iconst X277.here hx rfl (hb hby at_252) hr) ?_
          show Go p e s below _ _ _ _ T277 (mkF m 253 (LA31 p1 p2 p3 p4 rp mp q cc o254 o271) [(.int (2 : Int32)), (.int (14 : Int32))])
          refine Go.of (fun _ hr => XS.icmpNo X277.here hx rfl (hb hby at_253) rfl (tlt (by decide : ((2 : Int32) < (14 : Int32)))).2.2.2 hr) ?_
          show Go p e s below _ _ _ _ T277 (mkF m 256 (LA31 p1 p2 p3 p4 rp mp q cc o254 o271) [])
          refine Go.of (fun _ hr => XS.aload X277.here hx rfl (hb hby at_256) rfl rfl hr) ?_
          show Go p e s below _ _ _ _ T277 (mkF m 258 (LA31 p1 p2 p3 p4 rp mp q cc o254 o271) [(.ref o271)])
          refine Go.of (fun _ hr => XS.iconst X277.here hx rfl (hb hby at_258) hr) ?_
          show Go p e s below _ _ _ _ T277 (mkF m 259 (LA31 p1 p2 p3 p4 rp mp q cc o254 o271) [(.int (2 : Int32)), (.ref o271)])
          refine Go.of (fun _ hr => XS.aload X277.here hx rfl (hb hby at_259) rfl rfl hr) ?_
          show Go p e s below _ _ _ _ T277 (mkF m 261 (LA31 p1 p2 p3 p4 rp mp q cc o254 o271) [(.ref o254), (.int (2 : Int32)), (.ref o271)])
          refine Go.of (fun _ hr => XS.iconst X277.here hx rfl (hb hby at_261) hr) ?_
          show Go p e s below _ _ _ _ T277 (mkF m 262 (LA31 p1 p2 p3 p4 rp mp q cc o254 o271) [(.int (2 : Int32)), (.ref o254), (.int (2 : Int32)), (.ref o271)])
          refine Go.of (fun _ hr => XS.iload X277.here hx rfl (hb hby at_262) rfl  hr) ?_
          show Go p e s below _ _ _ _ T277 (mkF m 264 (LA31 p1 p2 p3 p4 rp mp q cc o254 o271) [(.int q), (.int (2 : Int32)), (.ref o254), (.int (2 : Int32)), (.ref o271)])
          refine Go.of (fun _ hr => XS.iload X277.here hx rfl (hb hby at_264) rfl  hr) ?_
          show Go p e s below _ _ _ _ T277 (mkF m 266 (LA31 p1 p2 p3 p4 rp mp q cc o254 o271) [(.int cc), (.int q), (.int (2 : Int32)), (.ref o254), (.int (2 : Int32)), (.ref o271)])
          have f279 := (f276.other W277 ne_o254_o271)
          obtain ⟨_, b278, T278, h278, L278, e278, Cc278, X278, B278, J278, g278, hQ278, st278⟩ := own_callS Cc275 B277 J277 X277 (hw _ (List.mem_of_getElem? (i := 2) rfl)) (hw _ (List.mem_of_getElem? (i := 3) rfl)) (hw _ (List.mem_of_getElem? (i := 4) rfl)) (hw _ (List.mem_of_getElem? (i := 5) rfl)) (by decide) (rm1 l Z a0 hw [] o254 _ (2 : Int32) q cc bR _ h277 n0 O277 h0.size (own_ole O0) K277.1 bR_rng (by decide) (by decide) hq_cc f279) e277 (g := (mkF m 266 (LA31 p1 p2 p3 p4 rp mp q cc o254 o271) [(.int cc), (.int q), (.int (2 : Int32)), (.ref o254), (.int (2 : Int32)), (.ref o271)])) rfl (by rw [hml]; rfl) (argsL := [(.ref o254), (.int (2 : Int32)), (.int q), (.int cc)]) (rest := [(.int (2 : Int32)), (.ref o271)]) (lenOf pd7 rfl) rfl (W := 2) (by show 2 * 0 + _ ≤ _; exact Nat.le_of_eq rfl) (hb hby at_266) (by decide) (by decide) (by decide) (by decide)
          obtain ⟨rfl, Nq278, hh278⟩ := hQ278
          have N278 := Fr.app N277 Nq278
          obtain ⟨hx, hZ, hown, hby, hml, hnm, hret, hlk⟩ := id Cc278
          rw [hh278] at e278 B278 J278
          refine Go.of st278 ?_
          show Go p e s below _ _ _ _ T278 (mkF m 269 (LA31 p1 p2 p3 p4 rp mp q cc o254 o271) [(.int (atV bR (2 : Int32) q cc)), (.int (2 : Int32)), (.ref o271)])
          obtain ⟨cl280, Ar280, q280, S280, N280_, H280, G280⟩ := id V277
          have hin280 : ¬ ((2 : Int32) < 0 ∨ cl280.slots.size ≤ ((2 : Int32)).toNatClampNeg) := inb_of S280 ⟨by decide, by decide⟩
          obtain ⟨T280, h280, X280, e280, W280, st280⟩ := stC X278 hx hZ e278 Ar280 (j := (2 : Int32)) hin280 (g := (mkF m 269 (LA31 p1 p2 p3 p4 rp mp q cc o254 o271) [(.int (atV bR (2 : Int32) q cc)), (.int (2 : Int32)), (.ref o271)])) rfl rfl (hb hby at_269)
          rw [nar_c (atV_rng bR_rng (by decide) (by decide) hq_cc).1 (le255 (atV_rng bR_rng (by decide) (by decide) hq_cc).2)] at W280
          have V280 : Arv Z h280 o271 k271 .char (14 : Int32) ((outL bR 3 q cc).map Value.int) (.int 0) := outL_push bR 2 q cc ▸ own_push V277 W280 (by rw [List.length_map, outL_len]; decide) (fits_c (atV_rng bR_rng (by decide) (by decide) hq_cc).1 (le255 (atV_rng bR_rng (by decide) (by decide) hq_cc).2))
          have N280 := Fr.snoc X280 N278 fr271
          have J280 := J278.wr W280 (List.mem_cons_self ..)
          have B280 := B278.mono (Nat.le_of_eq W280.size.symm)
          have O280 := O277.wr W280 (Nat.le_trans (own_ole O0) fr271)
          have K280 := K277.wr W280 (Or.inr sz271)
          refine Go.of (fun _ hr => st280 _ hr) ?_
          show Go p e s below _ _ _ _ T280 (mkF m 270 (LA31 p1 p2 p3 p4 rp mp q cc o254 o271) [])
          refine Go.of (fun _ hr => XS.iload X280.here hx rfl (hb hby at_270) rfl  hr) ?_
          show Go p e s below _ _ _ _ T280 (mkF m 272 (LA31 p1 p2 p3 p4 rp mp q cc o254 o271) [(.int (14 : Int32))])
          refine Go.of (fun _ hr => XS.iconst X280.here hx rfl (hb hby at_272) hr) ?_
          show Go p e s below _ _ _ _ T280 (mkF m 273 (LA31 p1 p2 p3 p4 rp mp q cc o254 o271) [(.int (3 : Int32)), (.int (14 : Int32))])
          refine Go.of (fun _ hr => XS.icmpNo X280.here hx rfl (hb hby at_273) rfl (tlt (by decide : ((3 : Int32) < (14 : Int32)))).2.2.2 hr) ?_
          show Go p e s below _ _ _ _ T280 (mkF m 276 (LA31 p1 p2 p3 p4 rp mp q cc o254 o271) [])
          refine Go.of (fun _ hr => XS.aload X280.here hx rfl (hb hby at_276) rfl rfl hr) ?_
          show Go p e s below _ _ _ _ T280 (mkF m 278 (LA31 p1 p2 p3 p4 rp mp q cc o254 o271) [(.ref o271)])
          refine Go.of (fun _ hr => XS.iconst X280.here hx rfl (hb hby at_278) hr) ?_
          show Go p e s below _ _ _ _ T280 (mkF m 279 (LA31 p1 p2 p3 p4 rp mp q cc o254 o271) [(.int (3 : Int32)), (.ref o271)])
          refine Go.of (fun _ hr => XS.aload X280.here hx rfl (hb hby at_279) rfl rfl hr) ?_
          show Go p e s below _ _ _ _ T280 (mkF m 281 (LA31 p1 p2 p3 p4 rp mp q cc o254 o271) [(.ref o254), (.int (3 : Int32)), (.ref o271)])
          refine Go.of (fun _ hr => XS.iconst X280.here hx rfl (hb hby at_281) hr) ?_
          show Go p e s below _ _ _ _ T280 (mkF m 282 (LA31 p1 p2 p3 p4 rp mp q cc o254 o271) [(.int (3 : Int32)), (.ref o254), (.int (3 : Int32)), (.ref o271)])
          refine Go.of (fun _ hr => XS.iload X280.here hx rfl (hb hby at_282) rfl  hr) ?_
          show Go p e s below _ _ _ _ T280 (mkF m 284 (LA31 p1 p2 p3 p4 rp mp q cc o254 o271) [(.int q), (.int (3 : Int32)), (.ref o254), (.int (3 : Int32)), (.ref o271)])
          refine Go.of (fun _ hr => XS.iload X280.here hx rfl (hb hby at_284) rfl  hr) ?_
          show Go p e s below _ _ _ _ T280 (mkF m 286 (LA31 p1 p2 p3 p4 rp mp q cc o254 o271) [(.int cc), (.int q), (.int (3 : Int32)), (.ref o254), (.int (3 : Int32)), (.ref o271)])
          have f282 := (f279.other W280 ne_o254_o271)
          obtain ⟨_, b281, T281, h281, L281, e281, Cc281, X281, B281, J281, g281, hQ281, st281⟩ := own_callS Cc278 B280 J280 X280 (hw _ (List.mem_of_getElem? (i := 2) rfl)) (hw _ (List.mem_of_getElem? (i := 3) rfl)) (hw _ (List.mem_of_getElem? (i := 4) rfl)) (hw _ (List.mem_of_getElem? (i := 5) rfl)) (by decide) (rm1 l Z a0 hw [] o254 _ (3 : Int32) q cc bR _ h280 n0 O280 h0.size (own_ole O0) K280.1 bR_rng (by decide) (by decide) hq_cc f282) e280 (g := (mkF m 286 (LA31 p1 p2 p3 p4 rp mp q cc o254 o271) [(.int cc), (.int q), (.int (3 : Int32)), (.ref o254), (.int (3 : Int32)), (.ref o271)])) rfl (by rw [hml]; rfl) (argsL := [(.ref o254), (.int (3 : Int32)), (.int q), (.int cc)]) (rest := [(.int (3 : Int32)), (.ref o271)]) (lenOf pd7 rfl) rfl (W := 2) (by show 2 * 0 + _ ≤ _; exact Nat.le_of_eq rfl) (hb hby at_286) (by decide) (by decide) (by decide) (by decide)
          obtain ⟨rfl, Nq281, hh281⟩ := hQ281
          have N281 := Fr.app N280 Nq281
          obtain ⟨hx, hZ, hown, hby, hml, hnm, hret, hlk⟩ := id Cc281
          rw [hh281] at e281 B281 J281
          refine Go.of st281 ?_
          show Go p e s below _ _ _ _ T281 (mkF m 289 (LA31 p1 p2 p3 p4 rp mp q cc o254 o271) [(.int (atV bR (3 : Int32) q cc)), (.int (3 : Int32)), (.ref o271)])
          obtain ⟨cl283, Ar283, q283, S283, N283_, H283, G283⟩ := id V280
          have hin283 : ¬ ((3 : Int32) < 0 ∨ cl283.slots.size ≤ ((3 : Int32)).toNatClampNeg) := inb_of S283 ⟨by decide, by decide⟩
          obtain ⟨T283, h283, X283, e283, W283, st283⟩ := stC X281 hx hZ e281 Ar283 (j := (3 : Int32)) hin283 (g := (mkF m 289 (LA31 p1 p2 p3 p4 rp mp q cc o254 o271) [(.int (atV bR (3 : Int32) q cc)), (.int (3 : Int32)), (.ref o271)])) rfl rfl (hb hby at_289)
          rw [nar_c (atV_rng bR_rng (by decide) (by decide) hq_cc).1 (le255 (atV_rng bR_rng (by decide) (by decide) hq_cc).2)] at W283
          have V283 : Arv Z h283 o271 k271 .char (14 : Int32) ((outL bR 4 q cc).map Value.int) (.int 0) := outL_push bR 3 q cc ▸ own_push V280 W283 (by rw [List.length_map, outL_len]; decide) (fits_c (atV_rng bR_rng (by decide) (by decide) hq_cc).1 (le255 (atV_rng bR_rng (by decide) (by decide) hq_cc).2))
          have N283 := Fr.snoc X283 N281 fr271
          have J283 := J281.wr W283 (List.mem_cons_self ..)
          have B283 := B281.mono (Nat.le_of_eq W283.size.symm)
          have O283 := O280.wr W283 (Nat.le_trans (own_ole O0) fr271)
          have K283 := K280.wr W283 (Or.inr sz271)
          refine Go.of (fun _ hr => st283 _ hr) ?_
          show Go p e s below _ _ _ _ T283 (mkF m 290 (LA31 p1 p2 p3 p4 rp mp q cc o254 o271) [])
          refine Go.of (fun _ hr => XS.iload X283.here hx rfl (hb hby at_290) rfl  hr) ?_
          show Go p e s below _ _ _ _ T283 (mkF m 292 (LA31 p1 p2 p3 p4 rp mp q cc o254 o271) [(.int (14 : Int32))])
          refine Go.of (fun _ hr => XS.iconst X283.here hx rfl (hb hby at_292) hr) ?_
          show Go p e s below _ _ _ _ T283 (mkF m 293 (LA31 p1 p2 p3 p4 rp mp q cc o254 o271) [(.int (4 : Int32)), (.int (14 : Int32))])
          refine Go.of (fun _ hr => XS.icmpNo X283.here hx rfl (hb hby at_293) rfl (tlt (by decide : ((4 : Int32) < (14 : Int32)))).2.2.2 hr) ?_
          show Go p e s below _ _ _ _ T283 (mkF m 296 (LA31 p1 p2 p3 p4 rp mp q cc o254 o271) [])
          refine Go.of (fun _ hr => XS.aload X283.here hx rfl (hb hby at_296) rfl rfl hr) ?_
          show Go p e s below _ _ _ _ T283 (mkF m 298 (LA31 p1 p2 p3 p4 rp mp q cc o254 o271) [(.ref o271)])
          refine Go.of (fun _ hr => XS.iconst X283.here hx rfl (hb hby at_298) hr) ?_
          show Go p e s below _ _ _ _ T283 (mkF m 299 (LA31 p1 p2 p3 p4 rp mp q cc o254 o271) [(.int (4 : Int32)), (.ref o271)])
          refine Go.of (fun _ hr => XS.aload X283.here hx rfl (hb hby at_299) rfl rfl hr) ?_
          show Go p e s below _ _ _ _ T283 (mkF m 301 (LA31 p1 p2 p3 p4 rp mp q cc o254 o271) [(.ref o254), (.int (4 : Int32)), (.ref o271)])
          refine Go.of (fun _ hr => XS.iconst X283.here hx rfl (hb hby at_301) hr) ?_
          show Go p e s below _ _ _ _ T283 (mkF m 302 (LA31 p1 p2 p3 p4 rp mp q cc o254 o271) [(.int (4 : Int32)), (.ref o254), (.int (4 : Int32)), (.ref o271)])
          refine Go.of (fun _ hr => XS.iload X283.here hx rfl (hb hby at_302) rfl  hr) ?_
          show Go p e s below _ _ _ _ T283 (mkF m 304 (LA31 p1 p2 p3 p4 rp mp q cc o254 o271) [(.int q), (.int (4 : Int32)), (.ref o254), (.int (4 : Int32)), (.ref o271)])
          refine Go.of (fun _ hr => XS.iload X283.here hx rfl (hb hby at_304) rfl  hr) ?_
          show Go p e s below _ _ _ _ T283 (mkF m 306 (LA31 p1 p2 p3 p4 rp mp q cc o254 o271) [(.int cc), (.int q), (.int (4 : Int32)), (.ref o254), (.int (4 : Int32)), (.ref o271)])
          have f285 := (f282.other W283 ne_o254_o271)
          obtain ⟨_, b284, T284, h284, L284, e284, Cc284, X284, B284, J284, g284, hQ284, st284⟩ := own_callS Cc281 B283 J283 X283 (hw _ (List.mem_of_getElem? (i := 2) rfl)) (hw _ (List.mem_of_getElem? (i := 3) rfl)) (hw _ (List.mem_of_getElem? (i := 4) rfl)) (hw _ (List.mem_of_getElem? (i := 5) rfl)) (by decide) (rm1 l Z a0 hw [] o254 _ (4 : Int32) q cc bR _ h283 n0 O283 h0.size (own_ole O0) K283.1 bR_rng (by decide) (by decide) hq_cc f285) e283 (g := (mkF m 306 (LA31 p1 p2 p3 p4 rp mp q cc o254 o271) [(.int cc), (.int q), (.int (4 : Int32)), (.ref o254), (.int (4 : Int32)), (.ref o271)])) rfl (by rw [hml]; rfl) (argsL := [(.ref o254), (.int (4 : Int32)), (.int q), (.int cc)]) (rest := [(.int (4 : Int32)), (.ref o271)]) (lenOf pd7 rfl) rfl (W := 2) (by show 2 * 0 + _ ≤ _; exact Nat.le_of_eq rfl) (hb hby at_306) (by decide) (by decide) (by decide) (by decide)
          obtain ⟨rfl, Nq284, hh284⟩ := hQ284
          have N284 := Fr.app N283 Nq284
          obtain ⟨hx, hZ, hown, hby, hml, hnm, hret, hlk⟩ := id Cc284
          rw [hh284] at e284 B284 J284
          refine Go.of st284 ?_
          show Go p e s below _ _ _ _ T284 (mkF m 309 (LA31 p1 p2 p3 p4 rp mp q cc o254 o271) [(.int (atV bR (4 : Int32) q cc)), (.int (4 : Int32)), (.ref o271)])
          obtain ⟨cl286, Ar286, q286, S286, N286_, H286, G286⟩ := id V283
          have hin286 : ¬ ((4 : Int32) < 0 ∨ cl286.slots.size ≤ ((4 : Int32)).toNatClampNeg) := inb_of S286 ⟨by decide, by decide⟩
          obtain ⟨T286, h286, X286, e286, W286, st286⟩ := stC X284 hx hZ e284 Ar286 (j := (4 : Int32)) hin286 (g := (mkF m 309 (LA31 p1 p2 p3 p4 rp mp q cc o254 o271) [(.int (atV bR (4 : Int32) q cc)), (.int (4 : Int32)), (.ref o271)])) rfl rfl (hb hby at_309)
          rw [nar_c (atV_rng bR_rng (by decide) (by decide) hq_cc).1 (le255 (atV_rng bR_rng (by decide) (by decide) hq_cc).2)] at W286
          have V286 : Arv Z h286 o271 k271 .char (14 : Int32) ((outL bR 5 q cc).map Value.int) (.int 0) := outL_push bR 4 q cc ▸ own_push V283 W286 (by rw [List.length_map, outL_len]; decide) (fits_c (atV_rng bR_rng (by decide) (by decide) hq_cc).1 (le255 (atV_rng bR_rng (by decide) (by decide) hq_cc).2))
          have N286 := Fr.snoc X286 N284 fr271
          have J286 := J284.wr W286 (List.mem_cons_self ..)
          have B286 := B284.mono (Nat.le_of_eq W286.size.symm)
          have O286 := O283.wr W286 (Nat.le_trans (own_ole O0) fr271)
          have K286 := K283.wr W286 (Or.inr sz271)
          refine Go.of (fun _ hr => st286 _ hr) ?_
          show Go p e s below _ _ _ _ T286 (mkF m 310 (LA31 p1 p2 p3 p4 rp mp q cc o254 o271) [])
          refine Go.of (fun _ hr => XS.iload X286.here hx rfl (hb hby at_310) rfl  hr) ?_
          show Go p e s below _ _ _ _ T286 (mkF m 312 (LA31 p1 p2 p3 p4 rp mp q cc o254 o271) [(.int (14 : Int32))])
          refine Go.of (fun _ hr => XS.iconst X286.here hx rfl (hb hby at_312) hr) ?_
          show Go p e s below _ _ _ _ T286 (mkF m 313 (LA31 p1 p2 p3 p4 rp mp q cc o254 o271) [(.int (5 : Int32)), (.int (14 : Int32))])
          refine Go.of (fun _ hr => XS.icmpNo X286.here hx rfl (hb hby at_313) rfl (tlt (by decide : ((5 : Int32) < (14 : Int32)))).2.2.2 hr) ?_
          show Go p e s below _ _ _ _ T286 (mkF m 316 (LA31 p1 p2 p3 p4 rp mp q cc o254 o271) [])
          refine Go.of (fun _ hr => XS.aload X286.here hx rfl (hb hby at_316) rfl rfl hr) ?_
          show Go p e s below _ _ _ _ T286 (mkF m 318 (LA31 p1 p2 p3 p4 rp mp q cc o254 o271) [(.ref o271)])
          refine Go.of (fun _ hr => XS.iconst X286.here hx rfl (hb hby at_318) hr) ?_
          show Go p e s below _ _ _ _ T286 (mkF m 319 (LA31 p1 p2 p3 p4 rp mp q cc o254 o271) [(.int (5 : Int32)), (.ref o271)])
          refine Go.of (fun _ hr => XS.aload X286.here hx rfl (hb hby at_319) rfl rfl hr) ?_
          show Go p e s below _ _ _ _ T286 (mkF m 321 (LA31 p1 p2 p3 p4 rp mp q cc o254 o271) [(.ref o254), (.int (5 : Int32)), (.ref o271)])
          refine Go.of (fun _ hr => XS.iconst X286.here hx rfl (hb hby at_321) hr) ?_
          show Go p e s below _ _ _ _ T286 (mkF m 322 (LA31 p1 p2 p3 p4 rp mp q cc o254 o271) [(.int (5 : Int32)), (.ref o254), (.int (5 : Int32)), (.ref o271)])
          refine Go.of (fun _ hr => XS.iload X286.here hx rfl (hb hby at_322) rfl  hr) ?_
          show Go p e s below _ _ _ _ T286 (mkF m 324 (LA31 p1 p2 p3 p4 rp mp q cc o254 o271) [(.int q), (.int (5 : Int32)), (.ref o254), (.int (5 : Int32)), (.ref o271)])
          refine Go.of (fun _ hr => XS.iload X286.here hx rfl (hb hby at_324) rfl  hr) ?_
          show Go p e s below _ _ _ _ T286 (mkF m 326 (LA31 p1 p2 p3 p4 rp mp q cc o254 o271) [(.int cc), (.int q), (.int (5 : Int32)), (.ref o254), (.int (5 : Int32)), (.ref o271)])
          have f288 := (f285.other W286 ne_o254_o271)
          obtain ⟨_, b287, T287, h287, L287, e287, Cc287, X287, B287, J287, g287, hQ287, st287⟩ := own_callS Cc284 B286 J286 X286 (hw _ (List.mem_of_getElem? (i := 2) rfl)) (hw _ (List.mem_of_getElem? (i := 3) rfl)) (hw _ (List.mem_of_getElem? (i := 4) rfl)) (hw _ (List.mem_of_getElem? (i := 5) rfl)) (by decide) (rm1 l Z a0 hw [] o254 _ (5 : Int32) q cc bR _ h286 n0 O286 h0.size (own_ole O0) K286.1 bR_rng (by decide) (by decide) hq_cc f288) e286 (g := (mkF m 326 (LA31 p1 p2 p3 p4 rp mp q cc o254 o271) [(.int cc), (.int q), (.int (5 : Int32)), (.ref o254), (.int (5 : Int32)), (.ref o271)])) rfl (by rw [hml]; rfl) (argsL := [(.ref o254), (.int (5 : Int32)), (.int q), (.int cc)]) (rest := [(.int (5 : Int32)), (.ref o271)]) (lenOf pd7 rfl) rfl (W := 2) (by show 2 * 0 + _ ≤ _; exact Nat.le_of_eq rfl) (hb hby at_326) (by decide) (by decide) (by decide) (by decide)
          obtain ⟨rfl, Nq287, hh287⟩ := hQ287
          have N287 := Fr.app N286 Nq287
          obtain ⟨hx, hZ, hown, hby, hml, hnm, hret, hlk⟩ := id Cc287
          rw [hh287] at e287 B287 J287
          refine Go.of st287 ?_
          show Go p e s below _ _ _ _ T287 (mkF m 329 (LA31 p1 p2 p3 p4 rp mp q cc o254 o271) [(.int (atV bR (5 : Int32) q cc)), (.int (5 : Int32)), (.ref o271)])
          obtain ⟨cl289, Ar289, q289, S289, N289_, H289, G289⟩ := id V286
          have hin289 : ¬ ((5 : Int32) < 0 ∨ cl289.slots.size ≤ ((5 : Int32)).toNatClampNeg) := inb_of S289 ⟨by decide, by decide⟩
          obtain ⟨T289, h289, X289, e289, W289, st289⟩ := stC X287 hx hZ e287 Ar289 (j := (5 : Int32)) hin289 (g := (mkF m 329 (LA31 p1 p2 p3 p4 rp mp q cc o254 o271) [(.int (atV bR (5 : Int32) q cc)), (.int (5 : Int32)), (.ref o271)])) rfl rfl (hb hby at_329)
          rw [nar_c (atV_rng bR_rng (by decide) (by decide) hq_cc).1 (le255 (atV_rng bR_rng (by decide) (by decide) hq_cc).2)] at W289
          have V289 : Arv Z h289 o271 k271 .char (14 : Int32) ((outL bR 6 q cc).map Value.int) (.int 0) := outL_push bR 5 q cc ▸ own_push V286 W289 (by rw [List.length_map, outL_len]; decide) (fits_c (atV_rng bR_rng (by decide) (by decide) hq_cc).1 (le255 (atV_rng bR_rng (by decide) (by decide) hq_cc).2))
          have N289 := Fr.snoc X289 N287 fr271
          have J289 := J287.wr W289 (List.mem_cons_self ..)
          have B289 := B287.mono (Nat.le_of_eq W289.size.symm)
          have O289 := O286.wr W289 (Nat.le_trans (own_ole O0) fr271)
          have K289 := K286.wr W289 (Or.inr sz271)
          refine Go.of (fun _ hr => st289 _ hr) ?_
          show Go p e s below _ _ _ _ T289 (mkF m 330 (LA31 p1 p2 p3 p4 rp mp q cc o254 o271) [])
          refine Go.of (fun _ hr => XS.iload X289.here hx rfl (hb hby at_330) rfl  hr) ?_
          show Go p e s below _ _ _ _ T289 (mkF m 332 (LA31 p1 p2 p3 p4 rp mp q cc o254 o271) [(.int (14 : Int32))])
          refine Go.of (fun _ hr => XS.bipush X289.here hx rfl (hb hby at_332) hr) ?_
          show Go p e s below _ _ _ _ T289 (mkF m 334 (LA31 p1 p2 p3 p4 rp mp q cc o254 o271) [(.int (6 : Int32)), (.int (14 : Int32))])
          refine Go.of (fun _ hr => XS.icmpNo X289.here hx rfl (hb hby at_334) rfl (tlt (by decide : ((6 : Int32) < (14 : Int32)))).2.2.2 hr) ?_
          show Go p e s below _ _ _ _ T289 (mkF m 337 (LA31 p1 p2 p3 p4 rp mp q cc o254 o271) [])
          refine Go.of (fun _ hr => XS.aload X289.here hx rfl (hb hby at_337) rfl rfl hr) ?_
          show Go p e s below _ _ _ _ T289 (mkF m 339 (LA31 p1 p2 p3 p4 rp mp q cc o254 o271) [(.ref o271)])
          refine Go.of (fun _ hr => XS.bipush X289.here hx rfl (hb hby at_339) hr) ?_
          show Go p e s below _ _ _ _ T289 (mkF m 341 (LA31 p1 p2 p3 p4 rp mp q cc o254 o271) [(.int (6 : Int32)), (.ref o271)])
          refine Go.of (fun _ hr => XS.aload X289.here hx rfl (hb hby at_341) rfl rfl hr) ?_
          show Go p e s below _ _ _ _ T289 (mkF m 343 (LA31 p1 p2 p3 p4 rp mp q cc o254 o271) [(.ref o254), (.int (6 : Int32)), (.ref o271)])
          refine Go.of (fun _ hr => XS.bipush X289.here hx rfl (hb hby at_343) hr) ?_
          show Go p e s below _ _ _ _ T289 (mkF m 345 (LA31 p1 p2 p3 p4 rp mp q cc o254 o271) [(.int (6 : Int32)), (.ref o254), (.int (6 : Int32)), (.ref o271)])
          refine Go.of (fun _ hr => XS.iload X289.here hx rfl (hb hby at_345) rfl  hr) ?_
          show Go p e s below _ _ _ _ T289 (mkF m 347 (LA31 p1 p2 p3 p4 rp mp q cc o254 o271) [(.int q), (.int (6 : Int32)), (.ref o254), (.int (6 : Int32)), (.ref o271)])
          refine Go.of (fun _ hr => XS.iload X289.here hx rfl (hb hby at_347) rfl  hr) ?_
          show Go p e s below _ _ _ _ T289 (mkF m 349 (LA31 p1 p2 p3 p4 rp mp q cc o254 o271) [(.int cc), (.int q), (.int (6 : Int32)), (.ref o254), (.int (6 : Int32)), (.ref o271)])
          have f291 := (f288.other W289 ne_o254_o271)
          obtain ⟨_, b290, T290, h290, L290, e290, Cc290, X290, B290, J290, g290, hQ290, st290⟩ := own_callS Cc287 B289 J289 X289 (hw _ (List.mem_of_getElem? (i := 2) rfl)) (hw _ (List.mem_of_getElem? (i := 3) rfl)) (hw _ (List.mem_of_getElem? (i := 4) rfl)) (hw _ (List.mem_of_getElem? (i := 5) rfl)) (by decide) (rm1 l Z a0 hw [] o254 _ (6 : Int32) q cc bR _ h289 n0 O289 h0.size (own_ole O0) K289.1 bR_rng (by decide) (by decide) hq_cc f291) e289 (g := (mkF m 349 (LA31 p1 p2 p3 p4 rp mp q cc o254 o271) [(.int cc), (.int q), (.int (6 : Int32)), (.ref o254), (.int (6 : Int32)), (.ref o271)])) rfl (by rw [hml]; rfl) (argsL := [(.ref o254), (.int (6 : Int32)), (.int q), (.int cc)]) (rest := [(.int (6 : Int32)), (.ref o271)]) (lenOf pd7 rfl) rfl (W := 2) (by show 2 * 0 + _ ≤ _; exact Nat.le_of_eq rfl) (hb hby at_349) (by decide) (by decide) (by decide) (by decide)
          obtain ⟨rfl, Nq290, hh290⟩ := hQ290
          have N290 := Fr.app N289 Nq290
          obtain ⟨hx, hZ, hown, hby, hml, hnm, hret, hlk⟩ := id Cc290
          rw [hh290] at e290 B290 J290
          refine Go.of st290 ?_
          show Go p e s below _ _ _ _ T290 (mkF m 352 (LA31 p1 p2 p3 p4 rp mp q cc o254 o271) [(.int (atV bR (6 : Int32) q cc)), (.int (6 : Int32)), (.ref o271)])
          obtain ⟨cl292, Ar292, q292, S292, N292_, H292, G292⟩ := id V289
          have hin292 : ¬ ((6 : Int32) < 0 ∨ cl292.slots.size ≤ ((6 : Int32)).toNatClampNeg) := inb_of S292 ⟨by decide, by decide⟩
          obtain ⟨T292, h292, X292, e292, W292, st292⟩ := stC X290 hx hZ e290 Ar292 (j := (6 : Int32)) hin292 (g := (mkF m 352 (LA31 p1 p2 p3 p4 rp mp q cc o254 o271) [(.int (atV bR (6 : Int32) q cc)), (.int (6 : Int32)), (.ref o271)])) rfl rfl (hb hby at_352)
          rw [nar_c (atV_rng bR_rng (by decide) (by decide) hq_cc).1 (le255 (atV_rng bR_rng (by decide) (by decide) hq_cc).2)] at W292
          have V292 : Arv Z h292 o271 k271 .char (14 : Int32) ((outL bR 7 q cc).map Value.int) (.int 0) := outL_push bR 6 q cc ▸ own_push V289 W292 (by rw [List.length_map, outL_len]; decide) (fits_c (atV_rng bR_rng (by decide) (by decide) hq_cc).1 (le255 (atV_rng bR_rng (by decide) (by decide) hq_cc).2))
          have N292 := Fr.snoc X292 N290 fr271
          have J292 := J290.wr W292 (List.mem_cons_self ..)
          have B292 := B290.mono (Nat.le_of_eq W292.size.symm)
          have O292 := O289.wr W292 (Nat.le_trans (own_ole O0) fr271)
          have K292 := K289.wr W292 (Or.inr sz271)
          refine Go.of (fun _ hr => st292 _ hr) ?_
          show Go p e s below _ _ _ _ T292 (mkF m 353 (LA31 p1 p2 p3 p4 rp mp q cc o254 o271) [])
          refine Go.of (fun _ hr => XS.iload X292.here hx rfl (hb hby at_353) rfl  hr) ?_
          show Go p e s below _ _ _ _ T292 (mkF m 355 (LA31 p1 p2 p3 p4 rp mp q cc o254 o271) [(.int (14 : Int32))])
          refine Go.of (fun _ hr => XS.bipush X292.here hx rfl (hb hby at_355) hr) ?_
          show Go p e s below _ _ _ _ T292 (mkF m 357 (LA31 p1 p2 p3 p4 rp mp q cc o254 o271) [(.int (7 : Int32)), (.int (14 : Int32))])
          refine Go.of (fun _ hr => XS.icmpNo X292.here hx rfl (hb hby at_357) rfl (tlt (by decide : ((7 : Int32) < (14 : Int32)))).2.2.2 hr) ?_
          show Go p e s below _ _ _ _ T292 (mkF m 360 (LA31 p1 p2 p3 p4 rp mp q cc o254 o271) [])
          refine Go.of (fun _ hr => XS.aload X292.here hx rfl (hb hby at_360) rfl rfl hr) ?_
          show Go p e s below _ _ _ _ T292 (mkF m 362 (LA31 p1 p2 p3 p4 rp mp q cc o254 o271) [(.ref o271)])
          refine Go.of (fun _ hr => XS.bipush X292.here hx rfl (hb hby at_362) hr) ?_
          show Go p e s below _ _ _ _ T292 (mkF m 364 (LA31 p1 p2 p3 p4 rp mp q cc o254 o271) [(.int (7 : Int32)), (.ref o271)])
          refine Go.of (fun _ hr => XS.aload X292.here hx rfl (hb hby at_364) rfl rfl hr) ?_
          show Go p e s below _ _ _ _ T292 (mkF m 366 (LA31 p1 p2 p3 p4 rp mp q cc o254 o271) [(.ref o254), (.int (7 : Int32)), (.ref o271)])
          refine Go.of (fun _ hr => XS.bipush X292.here hx rfl (hb hby at_366) hr) ?_
          show Go p e s below _ _ _ _ T292 (mkF m 368 (LA31 p1 p2 p3 p4 rp mp q cc o254 o271) [(.int (7 : Int32)), (.ref o254), (.int (7 : Int32)), (.ref o271)])
          refine Go.of (fun _ hr => XS.iload X292.here hx rfl (hb hby at_368) rfl  hr) ?_
          show Go p e s below _ _ _ _ T292 (mkF m 370 (LA31 p1 p2 p3 p4 rp mp q cc o254 o271) [(.int q), (.int (7 : Int32)), (.ref o254), (.int (7 : Int32)), (.ref o271)])
          refine Go.of (fun _ hr => XS.iload X292.here hx rfl (hb hby at_370) rfl  hr) ?_
          show Go p e s below _ _ _ _ T292 (mkF m 372 (LA31 p1 p2 p3 p4 rp mp q cc o254 o271) [(.int cc), (.int q), (.int (7 : Int32)), (.ref o254), (.int (7 : Int32)), (.ref o271)])
          have f294 := (f291.other W292 ne_o254_o271)
          obtain ⟨_, b293, T293, h293, L293, e293, Cc293, X293, B293, J293, g293, hQ293, st293⟩ := own_callS Cc290 B292 J292 X292 (hw _ (List.mem_of_getElem? (i := 2) rfl)) (hw _ (List.mem_of_getElem? (i := 3) rfl)) (hw _ (List.mem_of_getElem? (i := 4) rfl)) (hw _ (List.mem_of_getElem? (i := 5) rfl)) (by decide) (rm1 l Z a0 hw [] o254 _ (7 : Int32) q cc bR _ h292 n0 O292 h0.size (own_ole O0) K292.1 bR_rng (by decide) (by decide) hq_cc f294) e292 (g := (mkF m 372 (LA31 p1 p2 p3 p4 rp mp q cc o254 o271) [(.int cc), (.int q), (.int (7 : Int32)), (.ref o254), (.int (7 : Int32)), (.ref o271)])) rfl (by rw [hml]; rfl) (argsL := [(.ref o254), (.int (7 : Int32)), (.int q), (.int cc)]) (rest := [(.int (7 : Int32)), (.ref o271)]) (lenOf pd7 rfl) rfl (W := 2) (by show 2 * 0 + _ ≤ _; exact Nat.le_of_eq rfl) (hb hby at_372) (by decide) (by decide) (by decide) (by decide)
          obtain ⟨rfl, Nq293, hh293⟩ := hQ293
          have N293 := Fr.app N292 Nq293
          obtain ⟨hx, hZ, hown, hby, hml, hnm, hret, hlk⟩ := id Cc293
          rw [hh293] at e293 B293 J293
          refine Go.of st293 ?_
          show Go p e s below _ _ _ _ T293 (mkF m 375 (LA31 p1 p2 p3 p4 rp mp q cc o254 o271) [(.int (atV bR (7 : Int32) q cc)), (.int (7 : Int32)), (.ref o271)])
          obtain ⟨cl295, Ar295, q295, S295, N295_, H295, G295⟩ := id V292
          have hin295 : ¬ ((7 : Int32) < 0 ∨ cl295.slots.size ≤ ((7 : Int32)).toNatClampNeg) := inb_of S295 ⟨by decide, by decide⟩
          obtain ⟨T295, h295, X295, e295, W295, st295⟩ := stC X293 hx hZ e293 Ar295 (j := (7 : Int32)) hin295 (g := (mkF m 375 (LA31 p1 p2 p3 p4 rp mp q cc o254 o271) [(.int (atV bR (7 : Int32) q cc)), (.int (7 : Int32)), (.ref o271)])) rfl rfl (hb hby at_375)
          rw [nar_c (atV_rng bR_rng (by decide) (by decide) hq_cc).1 (le255 (atV_rng bR_rng (by decide) (by decide) hq_cc).2)] at W295
          have V295 : Arv Z h295 o271 k271 .char (14 : Int32) ((outL bR 8 q cc).map Value.int) (.int 0) := outL_push bR 7 q cc ▸ own_push V292 W295 (by rw [List.length_map, outL_len]; decide) (fits_c (atV_rng bR_rng (by decide) (by decide) hq_cc).1 (le255 (atV_rng bR_rng (by decide) (by decide) hq_cc).2))
          have N295 := Fr.snoc X295 N293 fr271
          have J295 := J293.wr W295 (List.mem_cons_self ..)
          have B295 := B293.mono (Nat.le_of_eq W295.size.symm)
          have O295 := O292.wr W295 (Nat.le_trans (own_ole O0) fr271)
          have K295 := K292.wr W295 (Or.inr sz271)
          refine Go.of (fun _ hr => st295 _ hr) ?_
          show Go p e s below _ _ _ _ T295 (mkF m 376 (LA31 p1 p2 p3 p4 rp mp q cc o254 o271) [])
          refine Go.of (fun _ hr => XS.iload X295.here hx rfl (hb hby at_376) rfl  hr) ?_
          show Go p e s below _ _ _ _ T295 (mkF m 378 (LA31 p1 p2 p3 p4 rp mp q cc o254 o271) [(.int (14 : Int32))])
          refine Go.of (fun _ hr => XS.bipush X295.here hx rfl (hb hby at_378) hr) ?_
          show Go p e s below _ _ _ _ T295 (mkF m 380 (LA31 p1 p2 p3 p4 rp mp q cc o254 o271) [(.int (8 : Int32)), (.int (14 : Int32))])
          refine Go.of (fun _ hr => XS.icmpNo X295.here hx rfl (hb hby at_380) rfl (tlt (by decide : ((8 : Int32) < (14 : Int32)))).2.2.2 hr) ?_
          show Go p e s below _ _ _ _ T295 (mkF m 383 (LA31 p1 p2 p3 p4 rp mp q cc o254 o271) [])
          refine Go.of (fun _ hr => XS.aload X295.here hx rfl (hb hby at_383) rfl rfl hr) ?_
          show Go p e s below _ _ _ _ T295 (mkF m 385 (LA31 p1 p2 p3 p4 rp mp q cc o254 o271) [(.ref o271)])
          refine Go.of (fun _ hr => XS.bipush X295.here hx rfl (hb hby at_385) hr) ?_
          show Go p e s below _ _ _ _ T295 (mkF m 387 (LA31 p1 p2 p3 p4 rp mp q cc o254 o271) [(.int (8 : Int32)), (.ref o271)])
          refine Go.of (fun _ hr => XS.aload X295.here hx rfl (hb hby at_387) rfl rfl hr) ?_
          show Go p e s below _ _ _ _ T295 (mkF m 389 (LA31 p1 p2 p3 p4 rp mp q cc o254 o271) [(.ref o254), (.int (8 : Int32)), (.ref o271)])
          refine Go.of (fun _ hr => XS.bipush X295.here hx rfl (hb hby at_389) hr) ?_
          show Go p e s below _ _ _ _ T295 (mkF m 391 (LA31 p1 p2 p3 p4 rp mp q cc o254 o271) [(.int (8 : Int32)), (.ref o254), (.int (8 : Int32)), (.ref o271)])
          refine Go.of (fun _ hr => XS.iload X295.here hx rfl (hb hby at_391) rfl  hr) ?_
          show Go p e s below _ _ _ _ T295 (mkF m 393 (LA31 p1 p2 p3 p4 rp mp q cc o254 o271) [(.int q), (.int (8 : Int32)), (.ref o254), (.int (8 : Int32)), (.ref o271)])
          refine Go.of (fun _ hr => XS.iload X295.here hx rfl (hb hby at_393) rfl  hr) ?_
          show Go p e s below _ _ _ _ T295 (mkF m 395 (LA31 p1 p2 p3 p4 rp mp q cc o254 o271) [(.int cc), (.int q), (.int (8 : Int32)), (.ref o254), (.int (8 : Int32)), (.ref o271)])
          have f297 := (f294.other W295 ne_o254_o271)
          obtain ⟨_, b296, T296, h296, L296, e296, Cc296, X296, B296, J296, g296, hQ296, st296⟩ := own_callS Cc293 B295 J295 X295 (hw _ (List.mem_of_getElem? (i := 2) rfl)) (hw _ (List.mem_of_getElem? (i := 3) rfl)) (hw _ (List.mem_of_getElem? (i := 4) rfl)) (hw _ (List.mem_of_getElem? (i := 5) rfl)) (by decide) (rm1 l Z a0 hw [] o254 _ (8 : Int32) q cc bR _ h295 n0 O295 h0.size (own_ole O0) K295.1 bR_rng (by decide) (by decide) hq_cc f297) e295 (g := (mkF m 395 (LA31 p1 p2 p3 p4 rp mp q cc o254 o271) [(.int cc), (.int q), (.int (8 : Int32)), (.ref o254), (.int (8 : Int32)), (.ref o271)])) rfl (by rw [hml]; rfl) (argsL := [(.ref o254), (.int (8 : Int32)), (.int q), (.int cc)]) (rest := [(.int (8 : Int32)), (.ref o271)]) (lenOf pd7 rfl) rfl (W := 2) (by show 2 * 0 + _ ≤ _; exact Nat.le_of_eq rfl) (hb hby at_395) (by decide) (by decide) (by decide) (by decide)
          obtain ⟨rfl, Nq296, hh296⟩ := hQ296
          have N296 := Fr.app N295 Nq296
          obtain ⟨hx, hZ, hown, hby, hml, hnm, hret, hlk⟩ := id Cc296
          rw [hh296] at e296 B296 J296
          refine Go.of st296 ?_
          show Go p e s below _ _ _ _ T296 (mkF m 398 (LA31 p1 p2 p3 p4 rp mp q cc o254 o271) [(.int (atV bR (8 : Int32) q cc)), (.int (8 : Int32)), (.ref o271)])
          obtain ⟨cl298, Ar298, q298, S298, N298_, H298, G298⟩ := id V295
          have hin298 : ¬ ((8 : Int32) < 0 ∨ cl298.slots.size ≤ ((8 : Int32)).toNatClampNeg) := inb_of S298 ⟨by decide, by decide⟩
          obtain ⟨T298, h298, X298, e298, W298, st298⟩ := stC X296 hx hZ e296 Ar298 (j := (8 : Int32)) hin298 (g := (mkF m 398 (LA31 p1 p2 p3 p4 rp mp q cc o254 o271) [(.int (atV bR (8 : Int32) q cc)), (.int (8 : Int32)), (.ref o271)])) rfl rfl (hb hby at_398)
          rw [nar_c (atV_rng bR_rng (by decide) (by decide) hq_cc).1 (le255 (atV_rng bR_rng (by decide) (by decide) hq_cc).2)] at W298
          have V298 : Arv Z h298 o271 k271 .char (14 : Int32) ((outL bR 9 q cc).map Value.int) (.int 0) := outL_push bR 8 q cc ▸ own_push V295 W298 (by rw [List.length_map, outL_len]; decide) (fits_c (atV_rng bR_rng (by decide) (by decide) hq_cc).1 (le255 (atV_rng bR_rng (by decide) (by decide) hq_cc).2))
          have N298 := Fr.snoc X298 N296 fr271
          have J298 := J296.wr W298 (List.mem_cons_self ..)
          have B298 := B296.mono (Nat.le_of_eq W298.size.symm)
          have O298 := O295.wr W298 (Nat.le_trans (own_ole O0) fr271)
          have K298 := K295.wr W298 (Or.inr sz271)
          refine Go.of (fun _ hr => st298 _ hr) ?_
          show Go p e s below _ _ _ _ T298 (mkF m 399 (LA31 p1 p2 p3 p4 rp mp q cc o254 o271) [])
          refine Go.of (fun _ hr => XS.iload X298.here hx rfl (hb hby at_399) rfl  hr) ?_
          show Go p e s below _ _ _ _ T298 (mkF m 401 (LA31 p1 p2 p3 p4 rp mp q cc o254 o271) [(.int (14 : Int32))])
          refine Go.of (fun _ hr => XS.bipush X298.here hx rfl (hb hby at_401) hr) ?_
          show Go p e s below _ _ _ _ T298 (mkF m 403 (LA31 p1 p2 p3 p4 rp mp q cc o254 o271) [(.int (9 : Int32)), (.int (14 : Int32))])
          refine Go.of (fun _ hr => XS.icmpNo X298.here hx rfl (hb hby at_403) rfl (tlt (by decide : ((9 : Int32) < (14 : Int32)))).2.2.2 hr) ?_
          show Go p e s below _ _ _ _ T298 (mkF m 406 (LA31 p1 p2 p3 p4 rp mp q cc o254 o271) [])
          refine Go.of (fun _ hr => XS.aload X298.here hx rfl (hb hby at_406) rfl rfl hr) ?_
          show Go p e s below _ _ _ _ T298 (mkF m 408 (LA31 p1 p2 p3 p4 rp mp q cc o254 o271) [(.ref o271)])
          refine Go.of (fun _ hr => XS.bipush X298.here hx rfl (hb hby at_408) hr) ?_
          show Go p e s below _ _ _ _ T298 (mkF m 410 (LA31 p1 p2 p3 p4 rp mp q cc o254 o271) [(.int (9 : Int32)), (.ref o271)])
          refine Go.of (fun _ hr => XS.aload X298.here hx rfl (hb hby at_410) rfl rfl hr) ?_
          show Go p e s below _ _ _ _ T298 (mkF m 412 (LA31 p1 p2 p3 p4 rp mp q cc o254 o271) [(.ref o254), (.int (9 : Int32)), (.ref o271)])
          refine Go.of (fun _ hr => XS.bipush X298.here hx rfl (hb hby at_412) hr) ?_
          show Go p e s below _ _ _ _ T298 (mkF m 414 (LA31 p1 p2 p3 p4 rp mp q cc o254 o271) [(.int (9 : Int32)), (.ref o254), (.int (9 : Int32)), (.ref o271)])
          refine Go.of (fun _ hr => XS.iload X298.here hx rfl (hb hby at_414) rfl  hr) ?_
          show Go p e s below _ _ _ _ T298 (mkF m 416 (LA31 p1 p2 p3 p4 rp mp q cc o254 o271) [(.int q), (.int (9 : Int32)), (.ref o254), (.int (9 : Int32)), (.ref o271)])
          refine Go.of (fun _ hr => XS.iload X298.here hx rfl (hb hby at_416) rfl  hr) ?_
          show Go p e s below _ _ _ _ T298 (mkF m 418 (LA31 p1 p2 p3 p4 rp mp q cc o254 o271) [(.int cc), (.int q), (.int (9 : Int32)), (.ref o254), (.int (9 : Int32)), (.ref o271)])
          have f300 := (f297.other W298 ne_o254_o271)
          obtain ⟨_, b299, T299, h299, L299, e299, Cc299, X299, B299, J299, g299, hQ299, st299⟩ := own_callS Cc296 B298 J298 X298 (hw _ (List.mem_of_getElem? (i := 2) rfl)) (hw _ (List.mem_of_getElem? (i := 3) rfl)) (hw _ (List.mem_of_getElem? (i := 4) rfl)) (hw _ (List.mem_of_getElem? (i := 5) rfl)) (by decide) (rm1 l Z a0 hw [] o254 _ (9 : Int32) q cc bR _ h298 n0 O298 h0.size (own_ole O0) K298.1 bR_rng (by decide) (by decide) hq_cc f300) e298 (g := (mkF m 418 (LA31 p1 p2 p3 p4 rp mp q cc o254 o271) [(.int cc), (.int q), (.int (9 : Int32)), (.ref o254), (.int (9 : Int32)), (.ref o271)])) rfl (by rw [hml]; rfl) (argsL := [(.ref o254), (.int (9 : Int32)), (.int q), (.int cc)]) (rest := [(.int (9 : Int32)), (.ref o271)]) (lenOf pd7 rfl) rfl (W := 2) (by show 2 * 0 + _ ≤ _; exact Nat.le_of_eq rfl) (hb hby at_418) (by decide) (by decide) (by decide) (by decide)
          obtain ⟨rfl, Nq299, hh299⟩ := hQ299
          have N299 := Fr.app N298 Nq299
          obtain ⟨hx, hZ, hown, hby, hml, hnm, hret, hlk⟩ := id Cc299
          rw [hh299] at e299 B299 J299
          refine Go.of st299 ?_
          show Go p e s below _ _ _ _ T299 (mkF m 421 (LA31 p1 p2 p3 p4 rp mp q cc o254 o271) [(.int (atV bR (9 : Int32) q cc)), (.int (9 : Int32)), (.ref o271)])
          obtain ⟨cl301, Ar301, q301, S301, N301_, H301, G301⟩ := id V298
          have hin301 : ¬ ((9 : Int32) < 0 ∨ cl301.slots.size ≤ ((9 : Int32)).toNatClampNeg) := inb_of S301 ⟨by decide, by decide⟩
          obtain ⟨T301, h301, X301, e301, W301, st301⟩ := stC X299 hx hZ e299 Ar301 (j := (9 : Int32)) hin301 (g := (mkF m 421 (LA31 p1 p2 p3 p4 rp mp q cc o254 o271) [(.int (atV bR (9 : Int32) q cc)), (.int (9 : Int32)), (.ref o271)])) rfl rfl (hb hby at_421)
          rw [nar_c (atV_rng bR_rng (by decide) (by decide) hq_cc).1 (le255 (atV_rng bR_rng (by decide) (by decide) hq_cc).2)] at W301
          have V301 : Arv Z h301 o271 k271 .char (14 : Int32) ((outL bR 10 q cc).map Value.int) (.int 0) := outL_push bR 9 q cc ▸ own_push V298 W301 (by rw [List.length_map, outL_len]; decide) (fits_c (atV_rng bR_rng (by decide) (by decide) hq_cc).1 (le255 (atV_rng bR_rng (by decide) (by decide) hq_cc).2))
          have N301 := Fr.snoc X301 N299 fr271
          have J301 := J299.wr W301 (List.mem_cons_self ..)
          have B301 := B299.mono (Nat.le_of_eq W301.size.symm)
          have O301 := O298.wr W301 (Nat.le_trans (own_ole O0) fr271)
          have K301 := K298.wr W301 (Or.inr sz271)
          refine Go.of (fun _ hr => st301 _ hr) ?_
          show Go p e s below _ _ _ _ T301 (mkF m 422 (LA31 p1 p2 p3 p4 rp mp q cc o254 o271) [])
          refine Go.of (fun _ hr => XS.iload X301.here hx rfl (hb hby at_422) rfl  hr) ?_
          show Go p e s below _ _ _ _ T301 (mkF m 424 (LA31 p1 p2 p3 p4 rp mp q cc o254 o271) [(.int (14 : Int32))])
          refine Go.of (fun _ hr => XS.bipush X301.here hx rfl (hb hby at_424) hr) ?_
          show Go p e s below _ _ _ _ T301 (mkF m 426 (LA31 p1 p2 p3 p4 rp mp q cc o254 o271) [(.int (10 : Int32)), (.int (14 : Int32))])
          refine Go.of (fun _ hr => XS.icmpNo X301.here hx rfl (hb hby at_426) rfl (tlt (by decide : ((10 : Int32) < (14 : Int32)))).2.2.2 hr) ?_
          show Go p e s below _ _ _ _ T301 (mkF m 429 (LA31 p1 p2 p3 p4 rp mp q cc o254 o271) [])
          refine Go.of (fun _ hr => XS.aload X301.here hx rfl (hb hby at_429) rfl rfl hr) ?_
          show Go p e s below _ _ _ _ T301 (mkF m 431 (LA31 p1 p2 p3 p4 rp mp q cc o254 o271) [(.ref o271)])
          refine Go.of (fun _ hr => XS.bipush X301.here hx rfl (hb hby at_431) hr) ?_
          show Go p e s below _ _ _ _ T301 (mkF m 433 (LA31 p1 p2 p3 p4 rp mp q cc o254 o271) [(.int (10 : Int32)), (.ref o271)])
          refine Go.of (fun _ hr => XS.aload X301.here hx rfl (hb hby at_433) rfl rfl hr) ?_
          show Go p e s below _ _ _ _ T301 (mkF m 435 (LA31 p1 p2 p3 p4 rp mp q cc o254 o271) [(.ref o254), (.int (10 : Int32)), (.ref o271)])
          refine Go.of (fun _ hr => XS.bipush X301.here hx rfl (hb hby at_435) hr) ?_
          show Go p e s below _ _ _ _ T301 (mkF m 437 (LA31 p1 p2 p3 p4 rp mp q cc o254 o271) [(.int (10 : Int32)), (.ref o254), (.int (10 : Int32)), (.ref o271)])
          refine Go.of (fun _ hr => XS.iload X301.here hx rfl (hb hby at_437) rfl  hr) ?_
          show Go p e s below _ _ _ _ T301 (mkF m 439 (LA31 p1 p2 p3 p4 rp mp q cc o254 o271) [(.int q), (.int (10 : Int32)), (.ref o254), (.int (10 : Int32)), (.ref o271)])
          refine Go.of (fun _ hr => XS.iload X301.here hx rfl (hb hby at_439) rfl  hr) ?_
          show Go p e s below _ _ _ _ T301 (mkF m 441 (LA31 p1 p2 p3 p4 rp mp q cc o254 o271) [(.int cc), (.int q), (.int (10 : Int32)), (.ref o254), (.int (10 : Int32)), (.ref o271)])
          have f303 := (f300.other W301 ne_o254_o271)
          obtain ⟨_, b302, T302, h302, L302, e302, Cc302, X302, B302, J302, g302, hQ302, st302⟩ := own_callS Cc299 B301 J301 X301 (hw _ (List.mem_of_getElem? (i := 2) rfl)) (hw _ (List.mem_of_getElem? (i := 3) rfl)) (hw _ (List.mem_of_getElem? (i := 4) rfl)) (hw _ (List.mem_of_getElem? (i := 5) rfl)) (by decide) (rm1 l Z a0 hw [] o254 _ (10 : Int32) q cc bR _ h301 n0 O301 h0.size (own_ole O0) K301.1 bR_rng (by decide) (by decide) hq_cc f303) e301 (g := (mkF m 441 (LA31 p1 p2 p3 p4 rp mp q cc o254 o271) [(.int cc), (.int q), (.int (10 : Int32)), (.ref o254), (.int (10 : Int32)), (.ref o271)])) rfl (by rw [hml]; rfl) (argsL := [(.ref o254), (.int (10 : Int32)), (.int q), (.int cc)]) (rest := [(.int (10 : Int32)), (.ref o271)]) (lenOf pd7 rfl) rfl (W := 2) (by show 2 * 0 + _ ≤ _; exact Nat.le_of_eq rfl) (hb hby at_441) (by decide) (by decide) (by decide) (by decide)
          obtain ⟨rfl, Nq302, hh302⟩ := hQ302
          have N302 := Fr.app N301 Nq302
          obtain ⟨hx, hZ, hown, hby, hml, hnm, hret, hlk⟩ := id Cc302
          rw [hh302] at e302 B302 J302
          refine Go.of st302 ?_
          show Go p e s below _ _ _ _ T302 (mkF m 444 (LA31 p1 p2 p3 p4 rp mp q cc o254 o271) [(.int (atV bR (10 : Int32) q cc)), (.int (10 : Int32)), (.ref o271)])
          obtain ⟨cl304, Ar304, q304, S304, N304_, H304, G304⟩ := id V301
          have hin304 : ¬ ((10 : Int32) < 0 ∨ cl304.slots.size ≤ ((10 : Int32)).toNatClampNeg) := inb_of S304 ⟨by decide, by decide⟩
          obtain ⟨T304, h304, X304, e304, W304, st304⟩ := stC X302 hx hZ e302 Ar304 (j := (10 : Int32)) hin304 (g := (mkF m 444 (LA31 p1 p2 p3 p4 rp mp q cc o254 o271) [(.int (atV bR (10 : Int32) q cc)), (.int (10 : Int32)), (.ref o271)])) rfl rfl (hb hby at_444)
          rw [nar_c (atV_rng bR_rng (by decide) (by decide) hq_cc).1 (le255 (atV_rng bR_rng (by decide) (by decide) hq_cc).2)] at W304
          have V304 : Arv Z h304 o271 k271 .char (14 : Int32) ((outL bR 11 q cc).map Value.int) (.int 0) := outL_push bR 10 q cc ▸ own_push V301 W304 (by rw [List.length_map, outL_len]; decide) (fits_c (atV_rng bR_rng (by decide) (by decide) hq_cc).1 (le255 (atV_rng bR_rng (by decide) (by decide) hq_cc).2))
          have N304 := Fr.snoc X304 N302 fr271
          have J304 := J302.wr W304 (List.mem_cons_self ..)
          have B304 := B302.mono (Nat.le_of_eq W304.size.symm)
          have O304 := O301.wr W304 (Nat.le_trans (own_ole O0) fr271)
          have K304 := K301.wr W304 (Or.inr sz271)
          refine Go.of (fun _ hr => st304 _ hr) ?_
          show Go p e s below _ _ _ _ T304 (mkF m 445 (LA31 p1 p2 p3 p4 rp mp q cc o254 o271) [])
          refine Go.of (fun _ hr => XS.iload X304.here hx rfl (hb hby at_445) rfl  hr) ?_
          show Go p e s below _ _ _ _ T304 (mkF m 447 (LA31 p1 p2 p3 p4 rp mp q cc o254 o271) [(.int (14 : Int32))])
          refine Go.of (fun _ hr => XS.bipush X304.here hx rfl (hb hby at_447) hr) ?_
          show Go p e s below _ _ _ _ T304 (mkF m 449 (LA31 p1 p2 p3 p4 rp mp q cc o254 o271) [(.int (11 : Int32)), (.int (14 : Int32))])
          refine Go.of (fun _ hr => XS.icmpNo X304.here hx rfl (hb hby at_449) rfl (tlt (by decide : ((11 : Int32) < (14 : Int32)))).2.2.2 hr) ?_
          show Go p e s below _ _ _ _ T304 (mkF m 452 (LA31 p1 p2 p3 p4 rp mp q cc o254 o271) [])
          refine Go.of (fun _ hr => XS.aload X304.here hx rfl (hb hby at_452) rfl rfl hr) ?_
          show Go p e s below _ _ _ _ T304 (mkF m 454 (LA31 p1 p2 p3 p4 rp mp q cc o254 o271) [(.ref o271)])
          refine Go.of (fun _ hr => XS.bipush X304.here hx rfl (hb hby at_454) hr) ?_
          show Go p e s below _ _ _ _ T304 (mkF m 456 (LA31 p1 p2 p3 p4 rp mp q cc o254 o271) [(.int (11 : Int32)), (.ref o271)])
          refine Go.of (fun _ hr => XS.aload X304.here hx rfl (hb hby at_456) rfl rfl hr) ?_
          show Go p e s below _ _ _ _ T304 (mkF m 458 (LA31 p1 p2 p3 p4 rp mp q cc o254 o271) [(.ref o254), (.int (11 : Int32)), (.ref o271)])
          refine Go.of (fun _ hr => XS.bipush X304.here hx rfl (hb hby at_458) hr) ?_
          show Go p e s below _ _ _ _ T304 (mkF m 460 (LA31 p1 p2 p3 p4 rp mp q cc o254 o271) [(.int (11 : Int32)), (.ref o254), (.int (11 : Int32)), (.ref o271)])
          refine Go.of (fun _ hr => XS.iload X304.here hx rfl (hb hby at_460) rfl  hr) ?_
          show Go p e s below _ _ _ _ T304 (mkF m 462 (LA31 p1 p2 p3 p4 rp mp q cc o254 o271) [(.int q), (.int (11 : Int32)), (.ref o254), (.int (11 : Int32)), (.ref o271)])
          refine Go.of (fun _ hr => XS.iload X304.here hx rfl (hb hby at_462) rfl  hr) ?_
          show Go p e s below _ _ _ _ T304 (mkF m 464 (LA31 p1 p2 p3 p4 rp mp q cc o254 o271) [(.int cc), (.int q), (.int (11 : Int32)), (.ref o254), (.int (11 : Int32)), (.ref o271)])
          have f306 := (f303.other W304 ne_o254_o271)
          obtain ⟨_, b305, T305, h305, L305, e305, Cc305, X305, B305, J305, g305, hQ305, st305⟩ := own_callS Cc302 B304 J304 X304 (hw _ (List.mem_of_getElem? (i := 2) rfl)) (hw _ (List.mem_of_getElem? (i := 3) rfl)) (hw _ (List.mem_of_getElem? (i := 4) rfl)) (hw _ (List.mem_of_getElem? (i := 5) rfl)) (by decide) (rm1 l Z a0 hw [] o254 _ (11 : Int32) q cc bR _ h304 n0 O304 h0.size (own_ole O0) K304.1 bR_rng (by decide) (by decide) hq_cc f306) e304 (g := (mkF m 464 (LA31 p1 p2 p3 p4 rp mp q cc o254 o271) [(.int cc), (.int q), (.int (11 : Int32)), (.ref o254), (.int (11 : Int32)), (.ref o271)])) rfl (by rw [hml]; rfl) (argsL := [(.ref o254), (.int (11 : Int32)), (.int q), (.int cc)]) (rest := [(.int (11 : Int32)), (.ref o271)]) (lenOf pd7 rfl) rfl (W := 2) (by show 2 * 0 + _ ≤ _; exact Nat.le_of_eq rfl) (hb hby at_464) (by decide) (by decide) (by decide) (by decide)
          obtain ⟨rfl, Nq305, hh305⟩ := hQ305
          have N305 := Fr.app N304 Nq305
          obtain ⟨hx, hZ, hown, hby, hml, hnm, hret, hlk⟩ := id Cc305
          rw [hh305] at e305 B305 J305
          refine Go.of st305 ?_
          show Go p e s below _ _ _ _ T305 (mkF m 467 (LA31 p1 p2 p3 p4 rp mp q cc o254 o271) [(.int (atV bR (11 : Int32) q cc)), (.int (11 : Int32)), (.ref o271)])
          obtain ⟨cl307, Ar307, q307, S307, N307_, H307, G307⟩ := id V304
          have hin307 : ¬ ((11 : Int32) < 0 ∨ cl307.slots.size ≤ ((11 : Int32)).toNatClampNeg) := inb_of S307 ⟨by decide, by decide⟩
          obtain ⟨T307, h307, X307, e307, W307, st307⟩ := stC X305 hx hZ e305 Ar307 (j := (11 : Int32)) hin307 (g := (mkF m 467 (LA31 p1 p2 p3 p4 rp mp q cc o254 o271) [(.int (atV bR (11 : Int32) q cc)), (.int (11 : Int32)), (.ref o271)])) rfl rfl (hb hby at_467)
          rw [nar_c (atV_rng bR_rng (by decide) (by decide) hq_cc).1 (le255 (atV_rng bR_rng (by decide) (by decide) hq_cc).2)] at W307
          have V307 : Arv Z h307 o271 k271 .char (14 : Int32) ((outL bR 12 q cc).map Value.int) (.int 0) := outL_push bR 11 q cc ▸ own_push V304 W307 (by rw [List.length_map, outL_len]; decide) (fits_c (atV_rng bR_rng (by decide) (by decide) hq_cc).1 (le255 (atV_rng bR_rng (by decide) (by decide) hq_cc).2))
          have N307 := Fr.snoc X307 N305 fr271
          have J307 := J305.wr W307 (List.mem_cons_self ..)
          have B307 := B305.mono (Nat.le_of_eq W307.size.symm)
          have O307 := O304.wr W307 (Nat.le_trans (own_ole O0) fr271)
          have K307 := K304.wr W307 (Or.inr sz271)
          refine Go.of (fun _ hr => st307 _ hr) ?_
          show Go p e s below _ _ _ _ T307 (mkF m 468 (LA31 p1 p2 p3 p4 rp mp q cc o254 o271) [])
          refine Go.of (fun _ hr => XS.iload X307.here hx rfl (hb hby at_468) rfl  hr) ?_
          show Go p e s below _ _ _ _ T307 (mkF m 470 (LA31 p1 p2 p3 p4 rp mp q cc o254 o271) [(.int (14 : Int32))])
          refine Go.of (fun _ hr => XS.bipush X307.here hx rfl (hb hby at_470) hr) ?_
          show Go p e s below _ _ _ _ T307 (mkF m 472 (LA31 p1 p2 p3 p4 rp mp q cc o254 o271) [(.int (12 : Int32)), (.int (14 : Int32))])
          refine Go.of (fun _ hr => XS.icmpNo X307.here hx rfl (hb hby at_472) rfl (tlt (by decide : ((12 : Int32) < (14 : Int32)))).2.2.2 hr) ?_
          show Go p e s below _ _ _ _ T307 (mkF m 475 (LA31 p1 p2 p3 p4 rp mp q cc o254 o271) [])
          refine Go.of (fun _ hr => XS.aload X307.here hx rfl (hb hby at_475) rfl rfl hr) ?_
          show Go p e s below _ _ _ _ T307 (mkF m 477 (LA31 p1 p2 p3 p4 rp mp q cc o254 o271) [(.ref o271)])
          refine Go.of (fun _ hr => XS.bipush X307.here hx rfl (hb hby at_477) hr) ?_
          show Go p e s below _ _ _ _ T307 (mkF m 479 (LA31 p1 p2 p3 p4 rp mp q cc o254 o271) [(.int (12 : Int32)), (.ref o271)])
          refine Go.of (fun _ hr => XS.aload X307.here hx rfl (hb hby at_479) rfl rfl hr) ?_
          show Go p e s below _ _ _ _ T307 (mkF m 481 (LA31 p1 p2 p3 p4 rp mp q cc o254 o271) [(.ref o254), (.int (12 : Int32)), (.ref o271)])
          refine Go.of (fun _ hr => XS.bipush X307.here hx rfl (hb hby at_481) hr) ?_
          show Go p e s below _ _ _ _ T307 (mkF m 483 (LA31 p1 p2 p3 p4 rp mp q cc o254 o271) [(.int (12 : Int32)), (.ref o254), (.int (12 : Int32)), (.ref o271)])
          refine Go.of (fun _ hr => XS.iload X307.here hx rfl (hb hby at_483) rfl  hr) ?_
          show Go p e s below _ _ _ _ T307 (mkF m 485 (LA31 p1 p2 p3 p4 rp mp q cc o254 o271) [(.int q), (.int (12 : Int32)), (.ref o254), (.int (12 : Int32)), (.ref o271)])
          refine Go.of (fun _ hr => XS.iload X307.here hx rfl (hb hby at_485) rfl  hr) ?_
          show Go p e s below _ _ _ _ T307 (mkF m 487 (LA31 p1 p2 p3 p4 rp mp q cc o254 o271) [(.int cc), (.int q), (.int (12 : Int32)), (.ref o254), (.int (12 : Int32)), (.ref o271)])
          have f309 := (f306.other W307 ne_o254_o271)
          obtain ⟨_, b308, T308, h308, L308, e308, Cc308, X308, B308, J308, g308, hQ308, st308⟩ := own_callS Cc305 B307 J307 X307 (hw _ (List.mem_of_getElem? (i := 2) rfl)) (hw _ (List.mem_of_getElem? (i := 3) rfl)) (hw _ (List.mem_of_getElem? (i := 4) rfl)) (hw _ (List.mem_of_getElem? (i := 5) rfl)) (by decide) (rm1 l Z a0 hw [] o254 _ (12 : Int32) q cc bR _ h307 n0 O307 h0.size (own_ole O0) K307.1 bR_rng (by decide) (by decide) hq_cc f309) e307 (g := (mkF m 487 (LA31 p1 p2 p3 p4 rp mp q cc o254 o271) [(.int cc), (.int q), (.int (12 : Int32)), (.ref o254), (.int (12 : Int32)), (.ref o271)])) rfl (by rw [hml]; rfl) (argsL := [(.ref o254), (.int (12 : Int32)), (.int q), (.int cc)]) (rest := [(.int (12 : Int32)), (.ref o271)]) (lenOf pd7 rfl) rfl (W := 2) (by show 2 * 0 + _ ≤ _; exact Nat.le_of_eq rfl) (hb hby at_487) (by decide) (by decide) (by decide) (by decide)
          obtain ⟨rfl, Nq308, hh308⟩ := hQ308
          have N308 := Fr.app N307 Nq308
          obtain ⟨hx, hZ, hown, hby, hml, hnm, hret, hlk⟩ := id Cc308
          rw [hh308] at e308 B308 J308
          refine Go.of st308 ?_
          show Go p e s below _ _ _ _ T308 (mkF m 490 (LA31 p1 p2 p3 p4 rp mp q cc o254 o271) [(.int (atV bR (12 : Int32) q cc)), (.int (12 : Int32)), (.ref o271)])
          obtain ⟨cl310, Ar310, q310, S310, N310_, H310, G310⟩ := id V307
          have hin310 : ¬ ((12 : Int32) < 0 ∨ cl310.slots.size ≤ ((12 : Int32)).toNatClampNeg) := inb_of S310 ⟨by decide, by decide⟩
          obtain ⟨T310, h310, X310, e310, W310, st310⟩ := stC X308 hx hZ e308 Ar310 (j := (12 : Int32)) hin310 (g := (mkF m 490 (LA31 p1 p2 p3 p4 rp mp q cc o254 o271) [(.int (atV bR (12 : Int32) q cc)), (.int (12 : Int32)), (.ref o271)])) rfl rfl (hb hby at_490)
          rw [nar_c (atV_rng bR_rng (by decide) (by decide) hq_cc).1 (le255 (atV_rng bR_rng (by decide) (by decide) hq_cc).2)] at W310
          have V310 : Arv Z h310 o271 k271 .char (14 : Int32) ((outL bR 13 q cc).map Value.int) (.int 0) := outL_push bR 12 q cc ▸ own_push V307 W310 (by rw [List.length_map, outL_len]; decide) (fits_c (atV_rng bR_rng (by decide) (by decide) hq_cc).1 (le255 (atV_rng bR_rng (by decide) (by decide) hq_cc).2))
          have N310 := Fr.snoc X310 N308 fr271
          have J310 := J308.wr W310 (List.mem_cons_self ..)
          have B310 := B308.mono (Nat.le_of_eq W310.size.symm)
          have O310 := O307.wr W310 (Nat.le_trans (own_ole O0) fr271)
          have K310 := K307.wr W310 (Or.inr sz271)
          refine Go.of (fun _ hr => st310 _ hr) ?_
          show Go p e s below _ _ _ _ T310 (mkF m 491 (LA31 p1 p2 p3 p4 rp mp q cc o254 o271) [])
          refine Go.of (fun _ hr => XS.iload X310.here hx rfl (hb hby at_491) rfl  hr) ?_
          show Go p e s below _ _ _ _ T310 (mkF m 493 (LA31 p1 p2 p3 p4 rp mp q cc o254 o271) [(.int (14 : Int32))])
          refine Go.of (fun _ hr => XS.bipush X310.here hx rfl (hb hby at_493) hr) ?_
          show Go p e s below _ _ _ _ T310 (mkF m 495 (LA31 p1 p2 p3 p4 rp mp q cc o254 o271) [(.int (13 : Int32)), (.int (14 : Int32))])
          refine Go.of (fun _ hr => XS.icmpNo X310.here hx rfl (hb hby at_495) rfl (tlt (by decide : ((13 : Int32) < (14 : Int32)))).2.2.2 hr) ?_
          show Go p e s below _ _ _ _ T310 (mkF m 498 (LA31 p1 p2 p3 p4 rp mp q cc o254 o271) [])
          refine Go.of (fun _ hr => XS.aload X310.here hx rfl (hb hby at_498) rfl rfl hr) ?_
          show Go p e s below _ _ _ _ T310 (mkF m 500 (LA31 p1 p2 p3 p4 rp mp q cc o254 o271) [(.ref o271)])
          refine Go.of (fun _ hr => XS.bipush X310.here hx rfl (hb hby at_500) hr) ?_
          show Go p e s below _ _ _ _ T310 (mkF m 502 (LA31 p1 p2 p3 p4 rp mp q cc o254 o271) [(.int (13 : Int32)), (.ref o271)])
          refine Go.of (fun _ hr => XS.aload X310.here hx rfl (hb hby at_502) rfl rfl hr) ?_
          show Go p e s below _ _ _ _ T310 (mkF m 504 (LA31 p1 p2 p3 p4 rp mp q cc o254 o271) [(.ref o254), (.int (13 : Int32)), (.ref o271)])
          refine Go.of (fun _ hr => XS.bipush X310.here hx rfl (hb hby at_504) hr) ?_
          show Go p e s below _ _ _ _ T310 (mkF m 506 (LA31 p1 p2 p3 p4 rp mp q cc o254 o271) [(.int (13 : Int32)), (.ref o254), (.int (13 : Int32)), (.ref o271)])
          refine Go.of (fun _ hr => XS.iload X310.here hx rfl (hb hby at_506) rfl  hr) ?_
          show Go p e s below _ _ _ _ T310 (mkF m 508 (LA31 p1 p2 p3 p4 rp mp q cc o254 o271) [(.int q), (.int (13 : Int32)), (.ref o254), (.int (13 : Int32)), (.ref o271)])
          refine Go.of (fun _ hr => XS.iload X310.here hx rfl (hb hby at_508) rfl  hr) ?_
          show Go p e s below _ _ _ _ T310 (mkF m 510 (LA31 p1 p2 p3 p4 rp mp q cc o254 o271) [(.int cc), (.int q), (.int (13 : Int32)), (.ref o254), (.int (13 : Int32)), (.ref o271)])
          have f312 := (f309.other W310 ne_o254_o271)
          obtain ⟨_, b311, T311, h311, L311, e311, Cc311, X311, B311, J311, g311, hQ311, st311⟩ := own_callS Cc308 B310 J310 X310 (hw _ (List.mem_of_getElem? (i := 2) rfl)) (hw _ (List.mem_of_getElem? (i := 3) rfl)) (hw _ (List.mem_of_getElem? (i := 4) rfl)) (hw _ (List.mem_of_getElem? (i := 5) rfl)) (by decide) (rm1 l Z a0 hw [] o254 _ (13 : Int32) q cc bR _ h310 n0 O310 h0.size (own_ole O0) K310.1 bR_rng (by decide) (by decide) hq_cc f312) e310 (g := (mkF m 510 (LA31 p1 p2 p3 p4 rp mp q cc o254 o271) [(.int cc), (.int q), (.int (13 : Int32)), (.ref o254), (.int (13 : Int32)), (.ref o271)])) rfl (by rw [hml]; rfl) (argsL := [(.ref o254), (.int (13 : Int32)), (.int q), (.int cc)]) (rest := [(.int (13 : Int32)), (.ref o271)]) (lenOf pd7 rfl) rfl (W := 2) (by show 2 * 0 + _ ≤ _; exact Nat.le_of_eq rfl) (hb hby at_510) (by decide) (by decide) (by decide) (by decide)
          obtain ⟨rfl, Nq311, hh311⟩ := hQ311
          have N311 := Fr.app N310 Nq311
          obtain ⟨hx, hZ, hown, hby, hml, hnm, hret, hlk⟩ := id Cc311
          rw [hh311] at e311 B311 J311
          refine Go.of st311 ?_
          show Go p e s below _ _ _ _ T311 (mkF m 513 (LA31 p1 p2 p3 p4 rp mp q cc o254 o271) [(.int (atV bR (13 : Int32) q cc)), (.int (13 : Int32)), (.ref o271)])
          obtain ⟨cl313, Ar313, q313, S313, N313_, H313, G313⟩ := id V310
          have hin313 : ¬ ((13 : Int32) < 0 ∨ cl313.slots.size ≤ ((13 : Int32)).toNatClampNeg) := inb_of S313 ⟨by decide, by decide⟩
          obtain ⟨T313, h313, X313, e313, W313, st313⟩ := stC X311 hx hZ e311 Ar313 (j := (13 : Int32)) hin313 (g := (mkF m 513 (LA31 p1 p2 p3 p4 rp mp q cc o254 o271) [(.int (atV bR (13 : Int32) q cc)), (.int (13 : Int32)), (.ref o271)])) rfl rfl (hb hby at_513)
          rw [nar_c (atV_rng bR_rng (by decide) (by decide) hq_cc).1 (le255 (atV_rng bR_rng (by decide) (by decide) hq_cc).2)] at W313
          have V313 : Arv Z h313 o271 k271 .char (14 : Int32) ((outL bR 14 q cc).map Value.int) (.int 0) := outL_push bR 13 q cc ▸ own_push V310 W313 (by rw [List.length_map, outL_len]; decide) (fits_c (atV_rng bR_rng (by decide) (by decide) hq_cc).1 (le255 (atV_rng bR_rng (by decide) (by decide) hq_cc).2))
          have N313 := Fr.snoc X313 N311 fr271
          have J313 := J311.wr W313 (List.mem_cons_self ..)
          have B313 := B311.mono (Nat.le_of_eq W313.size.symm)
          have O313 := O310.wr W313 (Nat.le_trans (own_ole O0) fr271)
          have K313 := K310.wr W313 (Or.inr sz271)
          refine Go.of (fun _ hr => st313 _ hr) ?_
          show Go p e s below _ _ _ _ T313 (mkF m 514 (LA31 p1 p2 p3 p4 rp mp q cc o254 o271) [])
          refine Go.of (fun _ hr => XS.iload X313.here hx rfl (hb hby at_514) rfl  hr) ?_
          show Go p e s below _ _ _ _ T313 (mkF m 516 (LA31 p1 p2 p3 p4 rp mp q cc o254 o271) [(.int (14 : Int32))])
          refine Go.of (fun _ hr => XS.bipush X313.here hx rfl (hb hby at_516) hr) ?_
          show Go p e s below _ _ _ _ T313 (mkF m 518 (LA31 p1 p2 p3 p4 rp mp q cc o254 o271) [(.int (14 : Int32)), (.int (14 : Int32))])
          refine Go.of (fun _ hr => XS.icmpYes X313.here hx rfl (pc0 := 518) (pc' := 537) rfl (hb hby at_518) rfl (flt (by decide : ¬ ((14 : Int32) < (14 : Int32)))).2.2.2 (by decide) (by decide) hr) ?_
          show Go p e s below _ _ _ _ T313 (mkF m 537 (LA31 p1 p2 p3 p4 rp mp q cc o254 o271) [])
          refine Go.of (fun _ hr => XS.iload X313.here hx rfl (hb hby at_537) rfl  hr) ?_
          show Go p e s below _ _ _ _ T313 (mkF m 539 (LA31 p1 p2 p3 p4 rp mp q cc o254 o271) [(.int (14 : Int32))])
          refine Go.of (fun _ hr => XS.bipush X313.here hx rfl (hb hby at_539) hr) ?_
          show Go p e s below _ _ _ _ T313 (mkF m 541 (LA31 p1 p2 p3 p4 rp mp q cc o254 o271) [(.int (15 : Int32)), (.int (14 : Int32))])
          refine Go.of (fun _ hr => XS.icmpYes X313.here hx rfl (pc0 := 541) (pc' := 560) rfl (hb hby at_541) rfl (flt (by decide : ¬ ((15 : Int32) < (14 : Int32)))).2.2.2 (by decide) (by decide) hr) ?_
          show Go p e s below _ _ _ _ T313 (mkF m 560 (LA31 p1 p2 p3 p4 rp mp q cc o254 o271) [])
          obtain ⟨T314, h314, X314, e314, E314, A314, D314, -, st314⟩ := newO X313 hx hZ hown (hw _ (List.mem_of_getElem? (i := 6) rfl)) (hw _ (List.mem_of_getElem? (i := 7) rfl)) (hw _ (List.mem_of_getElem? (i := 8) rfl)) e313 (g := (mkF m 560 (LA31 p1 p2 p3 p4 rp mp q cc o254 o271) [])) rfl (hb hby at_560) (by decide) (by decide)
          obtain ⟨o314, g314⟩ : ∃ z, z = h313.size := ⟨_, rfl⟩
          rw [← g314] at A314 D314 st314
          have f315 := (f312.other W313 ne_o254_o271)
          have ne_o254_o314 : o254 ≠ o314 := Nat.ne_of_lt (Nat.lt_of_lt_of_le f315.lt (Nat.le_of_eq g314.symm))
          have ne_o271_o314 : o271 ≠ o314 := Nat.ne_of_lt (Nat.lt_of_lt_of_le V313.lt (Nat.le_of_eq g314.symm))
          have lt314 : o314 < h314.size := A314.lt
          have J314 := J313.add E314 g314 lt314
          have B314 := B313.mono E314.1
          have O314 := O313.ext E314
          have sz314 : h0.size ≤ o314 := Nat.le_trans K313.1 (Nat.le_of_eq g314.symm)
          have fr314 : h0.size ≤ o314 := sz314
          have K314 := K313.ext E314
          have F314_coder : Fld Z h314 o314 "java/lang/String" "coder" "B" (.int (0 : Int32)) := D314 (Or.inr (hw _ (List.mem_of_getElem? (i := 32) rfl))) (ty := .byte) (by decide)
          have F314_value : Fld Z h314 o314 "java/lang/String" "value" "[B" .null := D314 (Or.inr (hw _ (List.mem_of_getElem? (i := 34) rfl))) (ty := (.array .byte)) (by decide)
          refine Go.of (fun _ hr => st314 _ hr) ?_
          show Go p e s below _ _ _ _ T314 (mkF m 563 (LA31 p1 p2 p3 p4 rp mp q cc o254 o271) [(.ref o314)])
          refine Go.of (fun _ hr => XS.dup X314.here hx rfl (hb hby at_563) rfl rfl hr) ?_
          show Go p e s below _ _ _ _ T314 (mkF m 564 (LA31 p1 p2 p3 p4 rp mp q cc o254 o271) [(.ref o314), (.ref o314)])
          refine Go.of (fun _ hr => XS.aload X314.here hx rfl (hb hby at_564) rfl rfl hr) ?_
          show Go p e s below _ _ _ _ T314 (mkF m 566 (LA31 p1 p2 p3 p4 rp mp q cc o254 o271) [(.ref o271), (.ref o314), (.ref o314)])
          have f317 := (V313.ext E314)
          obtain ⟨_, b316, T316, h316, L316, e316, Cc316, X316, B316, J316, g316, hQ316, st316⟩ := own_callI Cc311 B314 J314 X314 rfl (hw _ (List.mem_of_getElem? (i := 9) rfl)) (hw _ (List.mem_of_getElem? (i := 10) rfl)) (hw _ (List.mem_of_getElem? (i := 8) rfl)) (hw _ (List.mem_of_getElem? (i := 11) rfl)) (by decide) (rm2 l Z a0 hw [] o314 o271 _ (outL bR 14 q cc) _ _ zc _ h314 n0 O314 h0.size (own_ole O0) K314.1 fr314 (List.mem_cons_self ..) (by rw [outL_len]; decide) (outL_rng bR_rng (by decide) (by decide) hq_cc) (by rw [outL_len]; decide) f317 ne_o271_o314 A314 F314_value F314_coder S_C hzc) e314 (g := (mkF m 566 (LA31 p1 p2 p3 p4 rp mp q cc o254 o271) [(.ref o271), (.ref o314), (.ref o314)])) rfl (by rw [hml]; rfl) (argsL := [(.ref o271)]) (rest := [(.ref o314)]) (lenOf pd8 rfl) rfl (W := 1) (by show 2 * 0 + _ ≤ _; exact Nat.le_of_eq rfl) (hb hby at_566) (by decide) (by decide) (by decide) (by decide)
          obtain ⟨rfl, Nq316, Kq316, t316, kt316, nt316, Fv316, Fc316, Vt316⟩ := hQ316
          have N316 := Fr.app N313 Nq316
          obtain ⟨hx, hZ, hown, hby, hml, hnm, hret, hlk⟩ := id Cc316
          have K316 := K314.trans Kq316 (allS (Or.inr sz314) all0)
          have O316 := O314.keep Kq316 (allS (Nat.le_trans (own_ole O0) fr314) all0)
          refine Go.of st316 ?_
          have nx_t316_o314 : t316 ≠ o314 := fun q => nt316 (by rw [q]; exact (List.mem_cons_self ..))
          have nx_t316_o271 : t316 ≠ o271 := fun q => nt316 (by rw [q]; exact (List.mem_cons_of_mem _ (List.mem_cons_self ..)))
          have nx_t316_o254 : t316 ≠ o254 := fun q => nt316 (by rw [q]; exact (List.mem_cons_of_mem _ (List.mem_cons_of_mem _ (List.mem_cons_self ..))))
          show Go p e s below _ _ _ _ T316 (mkF m 569 (LA31 p1 p2 p3 p4 rp mp q cc o254 o271) [(.ref o314)])
          refine Go.of (fun _ hr => XS.astore X316.here hx rfl (hb hby at_569) rfl rfl (l' := (LA32 p1 p2 p3 p4 rp mp q cc o254 o271 o314)) rfl hr) ?_
          show Go p e s below _ _ _ _ T316 (mkF m 571 (LA32 p1 p2 p3 p4 rp mp q cc o254 o271 o314) [])
          obtain ⟨T318, h318, X318, e318, E318, A318, D318, -, st318⟩ := newO X316 hx hZ hown (hw _ (List.mem_of_getElem? (i := 35) rfl)) (hw _ (List.mem_of_getElem? (i := 36) rfl)) (hw _ (List.mem_of_getElem? (i := 37) rfl)) e316 (g := (mkF m 571 (LA32 p1 p2 p3 p4 rp mp q cc o254 o271 o314) [])) rfl (hb hby at_571) (by decide) (by decide)
          obtain ⟨o318, g318⟩ : ∃ z, z = h316.size := ⟨_, rfl⟩
          rw [← g318] at A318 D318 st318
          have f319 := ((f315.ext E314).keep Kq316 (ninS ne_o254_o314 nin0))
          have ne_o254_o318 : o254 ≠ o318 := Nat.ne_of_lt (Nat.lt_of_lt_of_le f319.lt (Nat.le_of_eq g318.symm))
          have f320 := (f317.keep Kq316 (ninS ne_o271_o314 nin0))
          have ne_o271_o318 : o271 ≠ o318 := Nat.ne_of_lt (Nat.lt_of_lt_of_le f320.lt (Nat.le_of_eq g318.symm))
          have f321 := (A314.keep Kq316)
          have ne_o314_o318 : o314 ≠ o318 := Nat.ne_of_lt (Nat.lt_of_lt_of_le f321.lt (Nat.le_of_eq g318.symm))
          have ne_t316_o318 : t316 ≠ o318 := Nat.ne_of_lt (Nat.lt_of_lt_of_le Vt316.lt (Nat.le_of_eq g318.symm))
          have lt318 : o318 < h318.size := A318.lt
          have J318 := J316.add E318 g318 lt318
          have B318 := B316.mono E318.1
          have O318 := O316.ext E318
          have sz318 : h0.size ≤ o318 := Nat.le_trans K316.1 (Nat.le_of_eq g318.symm)
          have fr318 : h0.size ≤ o318 := sz318
          have K318 := K316.ext E318
          have F318_name : Fld Z h318 o318 "com/example/mthd/mthd/model/ApiMessage$Field" "name" "Ljava/lang/String;" .null := D318 (Or.inr (hw _ (List.mem_of_getElem? (i := 51) rfl))) (ty := (.object "java/lang/String")) (by decide)
          have F318_type : Fld Z h318 o318 "com/example/mthd/mthd/model/ApiMessage$Field" "type" "Ljava/lang/String;" .null := D318 (Or.inr (hw _ (List.mem_of_getElem? (i := 53) rfl))) (ty := (.object "java/lang/String")) (by decide)
          have F318_repeated : Fld Z h318 o318 "com/example/mthd/mthd/model/ApiMessage$Field" "repeated" "Z" (.int (0 : Int32)) := D318 (Or.inr (hw _ (List.mem_of_getElem? (i := 55) rfl))) (ty := .boolean) (by decide)
          have F318_map : Fld Z h318 o318 "com/example/mthd/mthd/model/ApiMessage$Field" "map" "Z" (.int (0 : Int32)) := D318 (Or.inr (hw _ (List.mem_of_getElem? (i := 57) rfl))) (ty := .boolean) (by decide)
          have F318_message : Fld Z h318 o318 "com/example/mthd/mthd/model/ApiMessage$Field" "message" "Ljava/util/Optional;" .null := D318 (Or.inr (hw _ (List.mem_of_getElem? (i := 59) rfl))) (ty := (.object "java/util/Optional")) (by decide)
          have F318_resource : Fld Z h318 o318 "com/example/mthd/mthd/model/ApiMessage$Field" "resource" "Ljava/util/Optional;" .null := D318 (Or.inr (hw _ (List.mem_of_getElem? (i := 61) rfl))) (ty := (.object "java/util/Optional")) (by decide)
          refine Go.of (fun _ hr => st318 _ hr) ?_
          show Go p e s below _ _ _ _ T318 (mkF m 574 (LA32 p1 p2 p3 p4 rp mp q cc o254 o271 o314) [(.ref o318)])
          refine Go.of (fun _ hr => XS.dup X318.here hx rfl (hb hby at_574) rfl rfl hr) ?_
          show Go p e s below _ _ _ _ T318 (mkF m 575 (LA32 p1 p2 p3 p4 rp mp q cc o254 o271 o314) [(.ref o318), (.ref o318)])
          obtain ⟨o322, t322, k322, b322, T322, h322, e322, Cc322, X322, B322, J322, E322, Sy322, na322, nt322, lt322, st322⟩ := own_ldcV Cc316 B318 J318 X318 lit0_in lit0_one (hw _ (List.mem_of_getElem? (i := 38) rfl)) (own_wS Z a0 hw) lit0_lat lit0_len (by rw [eb]; exact N316) (by rw [eb]; exact O0.2) e318 (g := (mkF m 575 (LA32 p1 p2 p3 p4 rp mp q cc o254 o271 o314) [(.ref o318), (.ref o318)])) rfl (hb hby at_575) (n := 4) lit0_sz (by decide) (by decide) (by decide)
          obtain ⟨hx, hZ, hown, hby, hml, hnm, hret, hlk⟩ := id Cc322
          have K322 := K318.ext E322
          have O322 := O318.ext E322
          have nx_o322_o318 : o322 ≠ o318 := fun q => na322 (by rw [q]; exact (List.mem_cons_self ..))
          have nx_o322_o314 : o322 ≠ o314 := fun q => na322 (by rw [q]; exact (List.mem_cons_of_mem _ (List.mem_cons_self ..)))
          have nx_o322_o271 : o322 ≠ o271 := fun q => na322 (by rw [q]; exact (List.mem_cons_of_mem _ (List.mem_cons_of_mem _ (List.mem_cons_self ..))))
          have nx_o322_o254 : o322 ≠ o254 := fun q => na322 (by rw [q]; exact (List.mem_cons_of_mem _ (List.mem_cons_of_mem _ (List.mem_cons_of_mem _ (List.mem_cons_self ..)))))
          have nx_t322_o318 : t322 ≠ o318 := fun q => nt322 (by rw [q]; exact (List.mem_cons_self ..))
          have nx_t322_o314 : t322 ≠ o314 := fun q => nt322 (by rw [q]; exact (List.mem_cons_of_mem _ (List.mem_cons_self ..)))
          have nx_t322_o271 : t322 ≠ o271 := fun q => nt322 (by rw [q]; exact (List.mem_cons_of_mem _ (List.mem_cons_of_mem _ (List.mem_cons_self ..))))
          have nx_t322_o254 : t322 ≠ o254 := fun q => nt322 (by rw [q]; exact (List.mem_cons_of_mem _ (List.mem_cons_of_mem _ (List.mem_cons_of_mem _ (List.mem_cons_self ..)))))
          refine Go.of (fun _ hr => st322 _ hr) ?_
          show Go p e s below _ _ _ _ T322 (mkF m 577 (LA32 p1 p2 p3 p4 rp mp q cc o254 o271 o314) [(.ref o322), (.ref o318), (.ref o318)])
          refine Go.of (fun _ hr => XS.aload X322.here hx rfl (hb hby at_577) rfl rfl hr) ?_
          show Go p e s below _ _ _ _ T322 (mkF m 579 (LA32 p1 p2 p3 p4 rp mp q cc o254 o271 o314) [(.ref o314), (.ref o322), (.ref o318), (.ref o318)])
          refine Go.of (fun _ hr => XS.iload X322.here hx rfl (hb hby at_579) rfl  hr) ?_
          show Go p e s below _ _ _ _ T322 (mkF m 581 (LA32 p1 p2 p3 p4 rp mp q cc o254 o271 o314) [(.int rp), (.ref o314), (.ref o322), (.ref o318), (.ref o318)])
          refine Go.of (fun _ hr => XS.iload X322.here hx rfl (hb hby at_581) rfl  hr) ?_
          show Go p e s below _ _ _ _ T322 (mkF m 583 (LA32 p1 p2 p3 p4 rp mp q cc o254 o271 o314) [(.int mp), (.int rp), (.ref o314), (.ref o322), (.ref o318), (.ref o318)])
          refine Go.of (fun _ hr => XS.aconstNull X322.here hx rfl (hb hby at_583) hr) ?_
          show Go p e s below _ _ _ _ T322 (mkF m 584 (LA32 p1 p2 p3 p4 rp mp q cc o254 o271 o314) [.null, (.int mp), (.int rp), (.ref o314), (.ref o322), (.ref o318), (.ref o318)])
          refine Go.of (fun _ hr => XS.aconstNull X322.here hx rfl (hb hby at_584) hr) ?_
          show Go p e s below _ _ _ _ T322 (mkF m 585 (LA32 p1 p2 p3 p4 rp mp q cc o254 o271 o314) [.null, .null, (.int mp), (.int rp), (.ref o314), (.ref o322), (.ref o318), (.ref o318)])
          have f324 := (A318.ext E322)
          have f325 := (F318_name.ext E322)
          have f326 := (F318_type.ext E322)
          have f327 := (F318_repeated.ext E322)
          have f328 := (F318_map.ext E322)
          have f329 := (F318_message.ext E322)
          have f330 := (F318_resource.ext E322)
          obtain ⟨_, b323, T323, h323, L323, e323, Cc323, X323, B323, J323, g323, hQ323, st323⟩ := own_callI Cc322 B322 J322 X322 rfl (hw _ (List.mem_of_getElem? (i := 41) rfl)) (hw _ (List.mem_of_getElem? (i := 42) rfl)) (hw _ (List.mem_of_getElem? (i := 37) rfl)) (hw _ (List.mem_of_getElem? (i := 43) rfl)) (by decide) (rm8 l Z a0 hw [] o318 _ o322 _ o314 _ rp _ mp _ _ _ h322 n0 O322 h0.size (own_ole O0) K322.1 fr318 (List.mem_cons_self ..) f324 f325 f326 f327 hz_rp f328 hz_mp f329 f330) e322 (g := (mkF m 585 (LA32 p1 p2 p3 p4 rp mp q cc o254 o271 o314) [.null, .null, (.int mp), (.int rp), (.ref o314), (.ref o322), (.ref o318), (.ref o318)])) rfl (by rw [hml]; rfl) (argsL := [(.ref o322), (.ref o314), (.int rp), (.int mp), .null, .null]) (rest := [(.ref o318)]) (lenOf pd9 rfl) rfl (W := 1) (by show 2 * 0 + _ ≤ _; exact Nat.le_of_eq rfl) (hb hby at_585) (by decide) (by decide) (by decide) (by decide)
          obtain ⟨rfl, Nq323, Kq323, Fs0_323, Fs1_323, Fs2_323, Fs3_323, Fs4_323, Fs5_323⟩ := hQ323
          have N323 := Fr.app N316 Nq323
          obtain ⟨hx, hZ, hown, hby, hml, hnm, hret, hlk⟩ := id Cc323
          have K323 := K322.trans Kq323 (allS (Or.inr sz318) all0)
          have O323 := O322.keep Kq323 (allS (Nat.le_trans (own_ole O0) fr318) all0)
          refine Go.of st323 ?_
          show Go p e s below _ _ _ _ T323 (mkF m 588 (LA32 p1 p2 p3 p4 rp mp q cc o254 o271 o314) [(.ref o318)])
          refine Go.of (fun _ hr => XS.astore X323.here hx rfl (hb hby at_588) rfl rfl (l' := #[.val (.int p1), .val (.int p2), .val (.int p3), .val (.int p4), .val (.int rp), .val (.int mp), .val (.int (1 : Int32)), .val (.int (-1 : Int32)), .val (.int q), .val (.int cc), .val (.ref o254), .val (.int (14 : Int32)), .val (.ref o271), .val (.ref o314), .val (.ref o318), .unset, .unset]) rfl hr) ?_
          show Go p e s below _ _ _ _ T323 (mkF m 590 #[.val (.int p1), .val (.int p2), .val (.int p3), .val (.int p4), .val (.int rp), .val (.int mp), .val (.int (1 : Int32)), .val (.int (-1 : Int32)), .val (.int q), .val (.int cc), .val (.ref o254), .val (.int (14 : Int32)), .val (.ref o271), .val (.ref o314), .val (.ref o318), .unset, .unset] [])
          have f331 := (f324.keep Kq323)
          have f332 := (((f321.ext E318).ext E322).keep Kq323)
          have f333 := (((Fv316.ext E318).ext E322).keep Kq323 (ninS ne_o314_o318 nin0))
          have f334 := (((Fc316.ext E318).ext E322).keep Kq323 (ninS ne_o314_o318 nin0))
          have f335 := (((Vt316.ext E318).ext E322).keep Kq323 (ninS ne_t316_o318 nin0))
          have f336 := (((f319.ext E318).ext E322).keep Kq323 (ninS ne_o254_o318 nin0))
          exact law_tail l Z a0 hw (by decide) (by decide) p1 p2 p3 p4 rp mp (1 : Int32) (-1 : Int32) q cc o254 (14 : Int32) o271 o314 o318 t316 _ _ bR (outL bR 14 q cc) zc h323 n0 O323 nb hb0 (Nat.le_trans hnb K323.1) f331 Fs1_323 Fs2_323 f332 f333 f334 f335 f336 hq_q.1 (by rw [outL_len]; decide) (fin_N6 (fin_N (by decide +kernel) (by decide +kernel)) (by decide)) S_C hzc Cc323 X323 e323 (fun y hy => Nat.le_trans hnb (N323 y hy)) (J323.sub (own_sub1 (List.mem_cons_of_mem _ (List.mem_cons_self ..)) (fun x hx => (List.mem_cons_of_mem _ (List.mem_cons_of_mem _ (List.mem_cons_of_mem _ (List.mem_cons_of_mem _ hx))))))) B323
        · rw [hd]
          show Go p e s below _ _ _ _ s₁ (mkF m 46 (LA25 p1 p2 p3 p4 rp mp) [(.int (0 : Int32))])
          refine Go.of (fun _ hr => XS.istore X0.here hx rfl (hb hby at_46) rfl (l' := (LA33 p1 p2 p3 p4 rp mp)) rfl hr) ?_
          show Go p e s below _ _ _ _ s₁ (mkF m 48 (LA33 p1 p2 p3 p4 rp mp) [])
          refine Go.of (fun _ hr => XS.iloadN X0.here hx rfl (hb hby at_48) rfl  hr) ?_
          show Go p e s below _ _ _ _ s₁ (mkF m 49 (LA33 p1 p2 p3 p4 rp mp) [(.int p2)])
          refine Go.of (fun _ hr => X0.ldcInt hx hown (mvT hZ (hw _ (List.mem_of_getElem? (i := 0) rfl))) (g := (mkF m 49 (LA33 p1 p2 p3 p4 rp mp) [(.int p2)])) rfl (hb hby at_49) _ hr) ?_
          show Go p e s below _ _ _ _ s₁ (mkF m 51 (LA33 p1 p2 p3 p4 rp mp) [(.int (2147483647 : Int32)), (.int p2)])
          refine Go.of (fun _ hr => XS.iand X0.here hx rfl (hb hby at_51) rfl hr) ?_
          show Go p e s below _ _ _ _ s₁ (mkF m 52 (LA33 p1 p2 p3 p4 rp mp) [(.int (p2 &&& (2147483647 : Int32)))])
          refine Go.of (fun _ hr => XS.bipush X0.here hx rfl (hb hby at_52) hr) ?_
          show Go p e s below _ _ _ _ s₁ (mkF m 54 (LA33 p1 p2 p3 p4 rp mp) [(.int (16 : Int32)), (.int (p2 &&& (2147483647 : Int32)))])
          refine Go.of (fun _ hr => iremM X0 hx rfl (hb hby at_54) rfl (by decide) hr) ?_
          show Go p e s below _ _ _ _ s₁ (mkF m 55 (LA33 p1 p2 p3 p4 rp mp) [(.int ((p2 &&& (2147483647 : Int32)) % (16 : Int32)))])
          have hq_q := rem16 p2
          generalize ((p2 &&& (2147483647 : Int32)) % (16 : Int32)) = q at hq_q ⊢
          show Go p e s below _ _ _ _ s₁ (mkF m 55 (LA33 p1 p2 p3 p4 rp mp) [(.int q)])
          refine Go.of (fun _ hr => XS.istore X0.here hx rfl (hb hby at_55) rfl (l' := (LA34 p1 p2 p3 p4 rp mp q)) rfl hr) ?_
          show Go p e s below _ _ _ _ s₁ (mkF m 57 (LA34 p1 p2 p3 p4 rp mp q) [])
          refine Go.of (fun _ hr => XS.iloadN X0.here hx rfl (hb hby at_57) rfl  hr) ?_
          show Go p e s below _ _ _ _ s₁ (mkF m 58 (LA34 p1 p2 p3 p4 rp mp q) [(.int p3)])
          refine Go.of (fun _ hr => XS.sipush X0.here hx rfl (hb hby at_58) hr) ?_
          show Go p e s below _ _ _ _ s₁ (mkF m 61 (LA34 p1 p2 p3 p4 rp mp q) [(.int (255 : Int32)), (.int p3)])
          refine Go.of (fun _ hr => XS.iand X0.here hx rfl (hb hby at_61) rfl hr) ?_
          show Go p e s below _ _ _ _ s₁ (mkF m 62 (LA34 p1 p2 p3 p4 rp mp q) [(.int (p3 &&& (255 : Int32)))])
          refine Go.of (fun _ hr => XS.i2c X0.here hx rfl (hb hby at_62) rfl hr) ?_
          show Go p e s below _ _ _ _ s₁ (mkF m 63 (LA34 p1 p2 p3 p4 rp mp q) [(.int ((p3 &&& (255 : Int32)).toUInt32.toUInt16.toUInt32.toInt32))])
          have hq_cc := chr8 p3
          generalize ((p3 &&& (255 : Int32)).toUInt32.toUInt16.toUInt32.toInt32) = cc at hq_cc ⊢
          show Go p e s below _ _ _ _ s₁ (mkF m 63 (LA34 p1 p2 p3 p4 rp mp q) [(.int cc)])
          refine Go.of (fun _ hr => XS.istore X0.here hx rfl (hb hby at_63) rfl (l' := (LA35 p1 p2 p3 p4 rp mp q cc)) rfl hr) ?_
          show Go p e s below _ _ _ _ s₁ (mkF m 65 (LA35 p1 p2 p3 p4 rp mp q cc) [])
          refine Go.of (fun _ hr => XS.iload X0.here hx rfl (hb hby at_65) rfl  hr) ?_
          show Go p e s below _ _ _ _ s₁ (mkF m 67 (LA35 p1 p2 p3 p4 rp mp q cc) [(.int (1 : Int32))])
          refine Go.of (fun _ hr => XS.ifNo X0.here hx rfl (hb hby at_67) rfl ((if0 _ _).trans (feq (by decide : ¬ ((1 : Int32) = (0 : Int32)))).1) hr) ?_
          show Go p e s below _ _ _ _ s₁ (mkF m 70 (LA35 p1 p2 p3 p4 rp mp q cc) [])
          refine Go.of (fun _ hr => XS.bipush X0.here hx rfl (hb hby at_70) hr) ?_
          show Go p e s below _ _ _ _ s₁ (mkF m 72 (LA35 p1 p2 p3 p4 rp mp q cc) [(.int (15 : Int32))])
          obtain ⟨T337, h337, k337, X337, e337, E337, A337, st337⟩ := newP X0 hx hZ (hw _ (List.mem_of_getElem? (i := 1) rfl)) e0 (g := (mkF m 72 (LA35 p1 p2 p3 p4 rp mp q cc) [(.int (15 : Int32))])) rfl (hb hby at_72) rfl (by decide) (cap := 15) (by decide) (by decide) (by decide) (by decide)
          obtain ⟨o337, g337⟩ : ∃ z, z = h0.size := ⟨_, rfl⟩
          rw [← g337] at A337 st337
          have V337 : Arv Z h337 o337 k337 .char (15 : Int32) [(.int (0 : Int32)), (.int (0 : Int32)), (.int (0 : Int32)), (.int (0 : Int32)), (.int (0 : Int32)), (.int (0 : Int32)), (.int (0 : Int32)), (.int (0 : Int32)), (.int (0 : Int32)), (.int (0 : Int32)), (.int (0 : Int32)), (.int (0 : Int32)), (.int (0 : Int32)), (.int (0 : Int32)), (.int (0 : Int32))] (.int (0 : Int32)) := (Arv.new A337 (by decide)).pad (pad_rep [] (.int (0 : Int32)) 15)
          have lt337 : o337 < h337.size := A337.lt
          have J337 := J0.add E337 g337 lt337
          have B337 := B0.mono E337.1
          have O337 := O0.ext E337
          have sz337 : h0.size ≤ o337 := Nat.le_trans K0.1 (Nat.le_of_eq g337.symm)
          have fr337 : h0.size ≤ o337 := sz337
          have K337 := K0.ext E337
          refine Go.of (fun _ hr => st337 _ hr) ?_
          show Go p e s below _ _ _ _ T337 (mkF m 74 (LA35 p1 p2 p3 p4 rp mp q cc) [(.ref o337)])
          refine Go.of (fun _ hr => XS.dup X337.here hx rfl (hb hby at_74) rfl rfl hr) ?_
          show Go p e s below _ _ _ _ T337 (mkF m 75 (LA35 p1 p2 p3 p4 rp mp q cc) [(.ref o337), (.ref o337)])
          refine Go.of (fun _ hr => XS.iconst X337.here hx rfl (hb hby at_75) hr) ?_
          show Go p e s below _ _ _ _ T337 (mkF m 76 (LA35 p1 p2 p3 p4 rp mp q cc) [(.int (0 : Int32)), (.ref o337), (.ref o337)])
          refine Go.of (fun _ hr => XS.bipush X337.here hx rfl (hb hby at_76) hr) ?_
          show Go p e s below _ _ _ _ T337 (mkF m 78 (LA35 p1 p2 p3 p4 rp mp q cc) [(.int (114 : Int32)), (.int (0 : Int32)), (.ref o337), (.ref o337)])
          obtain ⟨cl338, Ar338, q338, S338, N338_, H338, G338⟩ := id V337
          have hin338 : ¬ ((0 : Int32) < 0 ∨ cl338.slots.size ≤ ((0 : Int32)).toNatClampNeg) := inb_of S338 ⟨by decide, by decide⟩
          obtain ⟨T338, h338, X338, e338, W338, st338⟩ := stC X337 hx hZ e337 Ar338 (j := (0 : Int32)) hin338 (g := (mkF m 78 (LA35 p1 p2 p3 p4 rp mp q cc) [(.int (114 : Int32)), (.int (0 : Int32)), (.ref o337), (.ref o337)])) rfl rfl (hb hby at_78)
          have W338' := W338
          rw [show nar .char (114 : Int32) = (114 : Int32) from rfl] at W338'
          have V338 : Arv Z h338 o337 k337 .char (15 : Int32) [(.int (114 : Int32)), (.int (0 : Int32)), (.int (0 : Int32)), (.int (0 : Int32)), (.int (0 : Int32)), (.int (0 : Int32)), (.int (0 : Int32)), (.int (0 : Int32)), (.int (0 : Int32)), (.int (0 : Int32)), (.int (0 : Int32)), (.int (0 : Int32)), (.int (0 : Int32)), (.int (0 : Int32)), (.int (0 : Int32))] (.int (0 : Int32)) := Arv.set Ar338 q338 S338 N338_ H338 G338 rfl W338' 0 rfl (by simp)
          have N338 := Fr.snoc X338 N0 fr337
          have J338 := J337.wr W338 (List.mem_cons_self ..)
          have B338 := B337.mono (Nat.le_of_eq W338.size.symm)
          have O338 := O337.wr W338 (Nat.le_trans (own_ole O0) fr337)
          have K338 := K337.wr W338 (Or.inr sz337)
          refine Go.of (fun _ hr => st338 _ hr) ?_
          show Go p e s below _ _ _ _ T338 (mkF m 79 (LA35 p1 p2 p3 p4 rp mp q cc) [(.ref o337)])
          refine Go.of (fun _ hr => XS.dup X338.here hx rfl (hb hby at_79) rfl rfl hr) ?_
          show Go p e s below _ _ _ _ T338 (mkF m 80 (LA35 p1 p2 p3 p4 rp mp q cc) [(.ref o337), (.ref o337)])
          refine Go.of (fun _ hr => XS.iconst X338.here hx rfl (hb hby at_80) hr) ?_
          show Go p e s below _ _ _ _ T338 (mkF m 81 (LA35 p1 p2 p3 p4 rp mp q cc) [(.int (1 : Int32)), (.ref o337), (.ref o337)])
          refine Go.of (fun _ hr => XS.bipush X338.here hx rfl (hb hby at_81) hr) ?_
          show Go p e s below _ _ _ _ T338 (mkF m 83 (LA35 p1 p2 p3 p4 rp mp q cc) [(.int (101 : Int32)), (.int (1 : Int32)), (.ref o337), (.ref o337)])
          obtain ⟨cl339, Ar339, q339, S339, N339_, H339, G339⟩ := id V338
          have hin339 : ¬ ((1 : Int32) < 0 ∨ cl339.slots.size ≤ ((1 : Int32)).toNatClampNeg) := inb_of S339 ⟨by decide, by decide⟩
          obtain ⟨T339, h339, X339, e339, W339, st339⟩ := stC X338 hx hZ e338 Ar339 (j := (1 : Int32)) hin339 (g := (mkF m 83 (LA35 p1 p2 p3 p4 rp mp q cc) [(.int (101 : Int32)), (.int (1 : Int32)), (.ref o337), (.ref o337)])) rfl rfl (hb hby at_83)
          have W339' := W339
          rw [show nar .char (101 : Int32) = (101 : Int32) from rfl] at W339'
          have V339 : Arv Z h339 o337 k337 .char (15 : Int32) [(.int (114 : Int32)), (.int (101 : Int32)), (.int (0 : Int32)), (.int (0 : Int32)), (.int (0 : Int32)), (.int (0 : Int32)), (.int (0 : Int32)), (.int (0 : Int32)), (.int (0 : Int32)), (.int (0 : Int32)), (.int (0 : Int32)), (.int (0 : Int32)), (.int (0 : Int32)), (.int (0 : Int32)), (.int (0 : Int32))] (.int (0 : Int32)) := Arv.set Ar339 q339 S339 N339_ H339 G339 rfl W339' 1 rfl (by simp)
          have N339 := Fr.snoc X339 N338 fr337
          have J339 := J338.wr W339 (List.mem_cons_self ..)
          have B339 := B338.mono (Nat.le_of_eq W339.size.symm)
          have O339 := O338.wr W339 (Nat.le_trans (own_ole O0) fr337)
          have K339 := K338.wr W339 (Or.inr sz337)
          refine Go.of (fun _ hr => st339 _ hr) ?_
          show Go p e s below _ _ _ _ T339 (mkF m 84 (LA35 p1 p2 p3 p4 rp mp q cc) [(.ref o337)])
          refine Go.of (fun _ hr => XS.dup X339.here hx rfl (hb hby at_84) rfl rfl hr) ?_
          show Go p e s below _ _ _ _ T339 (mkF m 85 (LA35 p1 p2 p3 p4 rp mp q cc) [(.ref o337), (.ref o337)])
          refine Go.of (fun _ hr => XS.iconst X339.here hx rfl (hb hby at_85) hr) ?_
          show Go p e s below _ _ _ _ T339 (mkF m 86 (LA35 p1 p2 p3 p4 rp mp q cc) [(.int (2 : Int32)), (.ref o337), (.ref o337)])
          refine Go.of (fun _ hr => XS.bipush X339.here hx rfl (hb hby at_86) hr) ?_
          show Go p e s below _ _ _ _ T339 (mkF m 88 (LA35 p1 p2 p3 p4 rp mp q cc) [(.int (112 : Int32)), (.int (2 : Int32)), (.ref o337), (.ref o337)])
          obtain ⟨cl340, Ar340, q340, S340, N340_, H340, G340⟩ := id V339
          have hin340 : ¬ ((2 : Int32) < 0 ∨ cl340.slots.size ≤ ((2 : Int32)).toNatClampNeg) := inb_of S340 ⟨by decide, by decide⟩
          obtain ⟨T340, h340, X340, e340, W340, st340⟩ := stC X339 hx hZ e339 Ar340 (j := (2 : Int32)) hin340 (g := (mkF m 88 (LA35 p1 p2 p3 p4 rp mp q cc) [(.int (112 : Int32)), (.int (2 : Int32)), (.ref o337), (.ref o337)])) rfl rfl (hb hby at_88)
          have W340' := W340
          rw [show nar .char (112 : Int32) = (112 : Int32) from rfl] at W340'
          have V340 : Arv Z h340 o337 k337 .char (15 : Int32) [(.int (114 : Int32)), (.int (101 : Int32)), (.int (112 : Int32)), (.int (0 : Int32)), (.int (0 : Int32)), (.int (0 : Int32)), (.int (0 : Int32)), (.int (0 : Int32)), (.int (0 : Int32)), (.int (0 : Int32)), (.int (0 : Int32)), (.int (0 : Int32)), (.int (0 : Int32)), (.int (0 : Int32)), (.int (0 : Int32))] (.int (0 : Int32)) := Arv.set Ar340 q340 S340 N340_ H340 G340 rfl W340' 2 rfl (by simp)
          have N340 := Fr.snoc X340 N339 fr337
          have J340 := J339.wr W340 (List.mem_cons_self ..)
          have B340 := B339.mono (Nat.le_of_eq W340.size.symm)
          have O340 := O339.wr W340 (Nat.le_trans (own_ole O0) fr337)
          have K340 := K339.wr W340 (Or.inr sz337)
          refine Go.of (fun _ hr => st340 _ hr) ?_
          show Go p e s below _ _ _ _ T340 (mkF m 89 (LA35 p1 p2 p3 p4 rp mp q cc) [(.ref o337)])
          refine Go.of (fun _ hr => XS.dup X340.here hx rfl (hb hby at_89) rfl rfl hr) ?_
          show Go p e s below _ _ _ _ T340 (mkF m 90 (LA35 p1 p2 p3 p4 rp mp q cc) [(.ref o337), (.ref o337)])
          refine Go.of (fun _ hr => XS.iconst X340.here hx rfl (hb hby at_90) hr) ?_
          show Go p e s below _ _ _ _ T340 (mkF m 91 (LA35 p1 p2 p3 p4 rp mp q cc) [(.int (3 : Int32)), (.ref o337), (.ref o337)])
          refine Go.of (fun _ hr => XS.bipush X340.here hx rfl (hb hby at_91) hr) ?_
          show Go p e s below _ _ _ _ T340 (mkF m 93 (LA35 p1 p2 p3 p4 rp mp q cc) [(.int (101 : Int32)), (.int (3 : Int32)), (.ref o337), (.ref o337)])
          obtain ⟨cl341, Ar341, q341, S341, N341_, H341, G341⟩ := id V340
          have hin341 : ¬ ((3 : Int32) < 0 ∨ cl341.slots.size ≤ ((3 : Int32)).toNatClampNeg) := inb_of S341 ⟨by decide, by decide⟩
          obtain ⟨T341, h341, X341, e341, W341, st341⟩ := stC X340 hx hZ e340 Ar341 (j := (3 : Int32)) hin341 (g := (mkF m 93 (LA35 p1 p2 p3 p4 rp mp q cc) [(.int (101 : Int32)), (.int (3 : Int32)), (.ref o337), (.ref o337)])) rfl rfl (hb hby at_93)
          have W341' := W341
          rw [show nar .char (101 : Int32) = (101 : Int32) from rfl] at W341'
          have V341 : Arv Z h341 o337 k337 .char (15 : Int32) [(.int (114 : Int32)), (.int (101 : Int32)), (.int (112 : Int32)), (.int (101 : Int32)), (.int (0 : Int32)), (.int (0 : Int32)), (.int (0 : Int32)), (.int (0 : Int32)), (.int (0 : Int32)), (.int (0 : Int32)), (.int (0 : Int32)), (.int (0 : Int32)), (.int (0 : Int32)), (.int (0 : Int32)), (.int (0 : Int32))] (.int (0 : Int32)) := Arv.set Ar341 q341 S341 N341_ H341 G341 rfl W341' 3 rfl (by simp)
          have N341 := Fr.snoc X341 N340 fr337
          have J341 := J340.wr W341 (List.mem_cons_self ..)
          have B341 := B340.mono (Nat.le_of_eq W341.size.symm)
          have O341 := O340.wr W341 (Nat.le_trans (own_ole O0) fr337)
          have K341 := K340.wr W341 (Or.inr sz337)
          refine Go.of (fun _ hr => st341 _ hr) ?_
          show Go p e s below _ _ _ _ T341 (mkF m 94 (LA35 p1 p2 p3 p4 rp mp q cc) [(.ref o337)])
          refine Go.of (fun _ hr => XS.dup X341.here hx rfl (hb hby at_94) rfl rfl hr) ?_
          show Go p e s below _ _ _ _ T341 (mkF m 95 (LA35 p1 p2 p3 p4 rp mp q cc) [(.ref o337), (.ref o337)])
          refine Go.of (fun _ hr => XS.iconst X341.here hx rfl (hb hby at_95) hr) ?_
          show Go p e s below _ _ _ _ T341 (mkF m 96 (LA35 p1 p2 p3 p4 rp mp q cc) [(.int (4 : Int32)), (.ref o337), (.ref o337)])
          refine Go.of (fun _ hr => XS.bipush X341.here hx rfl (hb hby at_96) hr) ?_
          show Go p e s below _ _ _ _ T341 (mkF m 98 (LA35 p1 p2 p3 p4 rp mp q cc) [(.int (97 : Int32)), (.int (4 : Int32)), (.ref o337), (.ref o337)])
          obtain ⟨cl342, Ar342, q342, S342, N342_, H342, G342⟩ := id V341
          have hin342 : ¬ ((4 : Int32) < 0 ∨ cl342.slots.size ≤ ((4 : Int32)).toNatClampNeg) := inb_of S342 ⟨by decide, by decide⟩
          obtain ⟨T342, h342, X342, e342, W342, st342⟩ := stC X341 hx hZ e341 Ar342 (j := (4 : Int32)) hin342 (g := (mkF m 98 (LA35 p1 p2 p3 p4 rp mp q cc) [(.int (97 : Int32)), (.int (4 : Int32)), (.ref o337), (.ref o337)])) rfl rfl (hb hby at_98)
          have W342' := W342
          rw [show nar .char (97 : Int32) = (97 : Int32) from rfl] at W342'
          have V342 : Arv Z h342 o337 k337 .char (15 : Int32) [(.int (114 : Int32)), (.int (101 : Int32)), (.int (112 : Int32)), (.int (101 : Int32)), (.int (97 : Int32)), (.int (0 : Int32)), (.int (0 : Int32)), (.int (0 : Int32)), (.int (0 : Int32)), (.int (0 : Int32)), (.int (0 : Int32)), (.int (0 : Int32)), (.int (0 : Int32)), (.int (0 : Int32)), (.int (0 : Int32))] (.int (0 : Int32)) := Arv.set Ar342 q342 S342 N342_ H342 G342 rfl W342' 4 rfl (by simp)
          have N342 := Fr.snoc X342 N341 fr337
          have J342 := J341.wr W342 (List.mem_cons_self ..)
          have B342 := B341.mono (Nat.le_of_eq W342.size.symm)
          have O342 := O341.wr W342 (Nat.le_trans (own_ole O0) fr337)
          have K342 := K341.wr W342 (Or.inr sz337)
          refine Go.of (fun _ hr => st342 _ hr) ?_
          show Go p e s below _ _ _ _ T342 (mkF m 99 (LA35 p1 p2 p3 p4 rp mp q cc) [(.ref o337)])
          refine Go.of (fun _ hr => XS.dup X342.here hx rfl (hb hby at_99) rfl rfl hr) ?_
          show Go p e s below _ _ _ _ T342 (mkF m 100 (LA35 p1 p2 p3 p4 rp mp q cc) [(.ref o337), (.ref o337)])
          refine Go.of (fun _ hr => XS.iconst X342.here hx rfl (hb hby at_100) hr) ?_
          show Go p e s below _ _ _ _ T342 (mkF m 101 (LA35 p1 p2 p3 p4 rp mp q cc) [(.int (5 : Int32)), (.ref o337), (.ref o337)])
          refine Go.of (fun _ hr => XS.bipush X342.here hx rfl (hb hby at_101) hr) ?_
          show Go p e s below _ _ _ _ T342 (mkF m 103 (LA35 p1 p2 p3 p4 rp mp q cc) [(.int (116 : Int32)), (.int (5 : Int32)), (.ref o337), (.ref o337)])
          obtain ⟨cl343, Ar343, q343, S343, N343_, H343, G343⟩ := id V342
          have hin343 : ¬ ((5 : Int32) < 0 ∨ cl343.slots.size ≤ ((5 : Int32)).toNatClampNeg) := inb_of S343 ⟨by decide, by decide⟩
          obtain ⟨T343, h343, X343, e343, W343, st343⟩ := stC X342 hx hZ e342 Ar343 (j := (5 : Int32)) hin343 (g := (mkF m 103 (LA35 p1 p2 p3 p4 rp mp q cc) [(.int (116 : Int32)), (.int (5 : Int32)), (.ref o337), (.ref o337)])) rfl rfl (hb hby at_103)
          have W343' := W343
          rw [show nar .char (116 : Int32) = (116 : Int32) from rfl] at W343'
          have V343 : Arv Z h343 o337 k337 .char (15 : Int32) [(.int (114 : Int32)), (.int (101 : Int32)), (.int (112 : Int32)), (.int (101 : Int32)), (.int (97 : Int32)), (.int (116 : Int32)), (.int (0 : Int32)), (.int (0 : Int32)), (.int (0 : Int32)), (.int (0 : Int32)), (.int (0 : Int32)), (.int (0 : Int32)), (.int (0 : Int32)), (.int (0 : Int32)), (.int (0 : Int32))] (.int (0 : Int32)) := Arv.set Ar343 q343 S343 N343_ H343 G343 rfl W343' 5 rfl (by simp)
          have N343 := Fr.snoc X343 N342 fr337
          have J343 := J342.wr W343 (List.mem_cons_self ..)
          have B343 := B342.mono (Nat.le_of_eq W343.size.symm)
          have O343 := O342.wr W343 (Nat.le_trans (own_ole O0) fr337)
          have K343 := K342.wr W343 (Or.inr sz337)
          refine Go.of (fun _ hr => st343 _ hr) ?_
          show Go p e s below _ _ _ _ T343 (mkF m 104 (LA35 p1 p2 p3 p4 rp mp q cc) [(.ref o337)])
          refine Go.of (fun _ hr => XS.dup X343.here hx rfl (hb hby at_104) rfl rfl hr) ?_
          show Go p e s below _ _ _ _ T343 (mkF m 105 (LA35 p1 p2 p3 p4 rp mp q cc) [(.ref o337), (.ref o337)])
          refine Go.of (fun _ hr => XS.bipush X343.here hx rfl (hb hby at_105) hr) ?_
          show Go p e s below _ _ _ _ T343 (mkF m 107 (LA35 p1 p2 p3 p4 rp mp q cc) [(.int (6 : Int32)), (.ref o337), (.ref o337)])
          refine Go.of (fun _ hr => XS.bipush X343.here hx rfl (hb hby at_107) hr) ?_
          show Go p e s below _ _ _ _ T343 (mkF m 109 (LA35 p1 p2 p3 p4 rp mp q cc) [(.int (101 : Int32)), (.int (6 : Int32)), (.ref o337), (.ref o337)])
          obtain ⟨cl344, Ar344, q344, S344, N344_, H344, G344⟩ := id V343
          have hin344 : ¬ ((6 : Int32) < 0 ∨ cl344.slots.size ≤ ((6 : Int32)).toNatClampNeg) := inb_of S344 ⟨by decide, by decide⟩
          obtain ⟨T344, h344, X344, e344, W344, st344⟩ := stC X343 hx hZ e343 Ar344 (j := (6 : Int32)) hin344 (g := (mkF m 109 (LA35 p1 p2 p3 p4 rp mp q cc) [(.int (101 : Int32)), (.int (6 : Int32)), (.ref o337), (.ref o337)])) rfl rfl (hb hby at_109)
          have W344' := W344
          rw [show nar .char (101 : Int32) = (101 : Int32) from rfl] at W344'
          have V344 : Arv Z h344 o337 k337 .char (15 : Int32) [(.int (114 : Int32)), (.int (101 : Int32)), (.int (112 : Int32)), (.int (101 : Int32)), (.int (97 : Int32)), (.int (116 : Int32)), (.int (101 : Int32)), (.int (0 : Int32)), (.int (0 : Int32)), (.int (0 : Int32)), (.int (0 : Int32)), (.int (0 : Int32)), (.int (0 : Int32)), (.int (0 : Int32)), (.int (0 : Int32))] (.int (0 : Int32)) := Arv.set Ar344 q344 S344 N344_ H344 G344 rfl W344' 6 rfl (by simp)
          have N344 := Fr.snoc X344 N343 fr337
          have J344 := J343.wr W344 (List.mem_cons_self ..)
          have B344 := B343.mono (Nat.le_of_eq W344.size.symm)
          have O344 := O343.wr W344 (Nat.le_trans (own_ole O0) fr337)
          have K344 := K343.wr W344 (Or.inr sz337)
          refine Go.of (fun _ hr => st344 _ hr) ?_
          show Go p e s below _ _ _ _ T344 (mkF m 110 (LA35 p1 p2 p3 p4 rp mp q cc) [(.ref o337)])
          refine Go.of (fun _ hr => XS.dup X344.here hx rfl (hb hby at_110) rfl rfl hr) ?_
          show Go p e s below _ _ _ _ T344 (mkF m 111 (LA35 p1 p2 p3 p4 rp mp q cc) [(.ref o337), (.ref o337)])
          refine Go.of (fun _ hr => XS.bipush X344.here hx rfl (hb hby at_111) hr) ?_
          show Go p e s below _ _ _ _ T344 (mkF m 113 (LA35 p1 p2 p3 p4 rp mp q cc) [(.int (7 : Int32)), (.ref o337), (.ref o337)])
          refine Go.of (fun _ hr => XS.bipush X344.here hx rfl (hb hby at_113) hr) ?_
          show Go p e s below _ _ _ _ T344 (mkF m 115 (LA35 p1 p2 p3 p4 rp mp q cc) [(.int (100 : Int32)), (.int (7 : Int32)), (.ref o337), (.ref o337)])
          obtain ⟨cl345, Ar345, q345, S345, N345_, H345, G345⟩ := id V344
          have hin345 : ¬ ((7 : Int32) < 0 ∨ cl345.slots.size ≤ ((7 : Int32)).toNatClampNeg) := inb_of S345 ⟨by decide, by decide⟩
          obtain ⟨T345, h345, X345, e345, W345, st345⟩ := stC X344 hx hZ e344 Ar345 (j := (7 : Int32)) hin345 (g := (mkF m 115 (LA35 p1 p2 p3 p4 rp mp q cc) [(.int (100 : Int32)), (.int (7 : Int32)), (.ref o337), (.ref o337)])) rfl rfl (hb hby at_115)
          have W345' := W345
          rw [show nar .char (100 : Int32) = (100 : Int32) from rfl] at W345'
          have V345 : Arv Z h345 o337 k337 .char (15 : Int32) [(.int (114 : Int32)), (.int (101 : Int32)), (.int (112 : Int32)), (.int (101 : Int32)), (.int (97 : Int32)), (.int (116 : Int32)), (.int (101 : Int32)), (.int (100 : Int32)), (.int (0 : Int32)), (.int (0 : Int32)), (.int (0 : Int32)), (.int (0 : Int32)), (.int (0 : Int32)), (.int (0 : Int32)), (.int (0 : Int32))] (.int (0 : Int32)) := Arv.set Ar345 q345 S345 N345_ H345 G345 rfl W345' 7 rfl (by simp)
          have N345 := Fr.snoc X345 N344 fr337
          have J345 := J344.wr W345 (List.mem_cons_self ..)
          have B345 := B344.mono (Nat.le_of_eq W345.size.symm)
          have O345 := O344.wr W345 (Nat.le_trans (own_ole O0) fr337)
          have K345 := K344.wr W345 (Or.inr sz337)
          refine Go.of (fun _ hr => st345 _ hr) ?_
          show Go p e s below _ _ _ _ T345 (mkF m 116 (LA35 p1 p2 p3 p4 rp mp q cc) [(.ref o337)])
          refine Go.of (fun _ hr => XS.dup X345.here hx rfl (hb hby at_116) rfl rfl hr) ?_
          show Go p e s below _ _ _ _ T345 (mkF m 117 (LA35 p1 p2 p3 p4 rp mp q cc) [(.ref o337), (.ref o337)])
          refine Go.of (fun _ hr => XS.bipush X345.here hx rfl (hb hby at_117) hr) ?_
          show Go p e s below _ _ _ _ T345 (mkF m 119 (LA35 p1 p2 p3 p4 rp mp q cc) [(.int (8 : Int32)), (.ref o337), (.ref o337)])
          refine Go.of (fun _ hr => XS.bipush X345.here hx rfl (hb hby at_119) hr) ?_
          show Go p e s below _ _ _ _ T345 (mkF m 121 (LA35 p1 p2 p3 p4 rp mp q cc) [(.int (32 : Int32)), (.int (8 : Int32)), (.ref o337), (.ref o337)])
          obtain ⟨cl346, Ar346, q346, S346, N346_, H346, G346⟩ := id V345
          have hin346 : ¬ ((8 : Int32) < 0 ∨ cl346.slots.size ≤ ((8 : Int32)).toNatClampNeg) := inb_of S346 ⟨by decide, by decide⟩
          obtain ⟨T346, h346, X346, e346, W346, st346⟩ := stC X345 hx hZ e345 Ar346 (j := (8 : Int32)) hin346 (g := (mkF m 121 (LA35 p1 p2 p3 p4 rp mp q cc) [(.int (32 : Int32)), (.int (8 : Int32)), (.ref o337), (.ref o337)])) rfl rfl (hb hby at_121)
          have W346' := W346
          rw [show nar .char (32 : Int32) = (32 : Int32) from rfl] at W346'
          have V346 : Arv Z h346 o337 k337 .char (15 : Int32) [(.int (114 : Int32)), (.int (101 : Int32)), (.int (112 : Int32)), (.int (101 : Int32)), (.int (97 : Int32)), (.int (116 : Int32)), (.int (101 : Int32)), (.int (100 : Int32)), (.int (32 : Int32)), (.int (0 : Int32)), (.int (0 : Int32)), (.int (0 : Int32)), (.int (0 : Int32)), (.int (0 : Int32)), (.int (0 : Int32))] (.int (0 : Int32)) := Arv.set Ar346 q346 S346 N346_ H346 G346 rfl W346' 8 rfl (by simp)
          have N346 := Fr.snoc X346 N345 fr337
          have J346 := J345.wr W346 (List.mem_cons_self ..)
          have B346 := B345.mono (Nat.le_of_eq W346.size.symm)
          have O346 := O345.wr W346 (Nat.le_trans (own_ole O0) fr337)
          have K346 := K345.wr W346 (Or.inr sz337)
          refine Go.of (fun _ hr => st346 _ hr) ?_
          show Go p e s below _ _ _ _ T346 (mkF m 122 (LA35 p1 p2 p3 p4 rp mp q cc) [(.ref o337)])
          refine Go.of (fun _ hr => XS.dup X346.here hx rfl (hb hby at_122) rfl rfl hr) ?_
          show Go p e s below _ _ _ _ T346 (mkF m 123 (LA35 p1 p2 p3 p4 rp mp q cc) [(.ref o337), (.ref o337)])
          refine Go.of (fun _ hr => XS.bipush X346.here hx rfl (hb hby at_123) hr) ?_
          show Go p e s below _ _ _ _ T346 (mkF m 125 (LA35 p1 p2 p3 p4 rp mp q cc) [(.int (9 : Int32)), (.ref o337), (.ref o337)])
          refine Go.of (fun _ hr => XS.bipush X346.here hx rfl (hb hby at_125) hr) ?_
          show Go p e s below _ _ _ _ T346 (mkF m 127 (LA35 p1 p2 p3 p4 rp mp q cc) [(.int (115 : Int32)), (.int (9 : Int32)), (.ref o337), (.ref o337)])
          obtain ⟨cl347, Ar347, q347, S347, N347_, H347, G347⟩ := id V346
          have hin347 : ¬ ((9 : Int32) < 0 ∨ cl347.slots.size ≤ ((9 : Int32)).toNatClampNeg) := inb_of S347 ⟨by decide, by decide⟩
          obtain ⟨T347, h347, X347, e347, W347, st347⟩ := stC X346 hx hZ e346 Ar347 (j := (9 : Int32)) hin347 (g := (mkF m 127 (LA35 p1 p2 p3 p4 rp mp q cc) [(.int (115 : Int32)), (.int (9 : Int32)), (.ref o337), (.ref o337)])) rfl rfl (hb hby at_127)
          have W347' := W347
          rw [show nar .char (115 : Int32) = (115 : Int32) from rfl] at W347'
          have V347 : Arv Z h347 o337 k337 .char (15 : Int32) [(.int (114 : Int32)), (.int (101 : Int32)), (.int (112 : Int32)), (.int (101 : Int32)), (.int (97 : Int32)), (.int (116 : Int32)), (.int (101 : Int32)), (.int (100 : Int32)), (.int (32 : Int32)), (.int (115 : Int32)), (.int (0 : Int32)), (.int (0 : Int32)), (.int (0 : Int32)), (.int (0 : Int32)), (.int (0 : Int32))] (.int (0 : Int32)) := Arv.set Ar347 q347 S347 N347_ H347 G347 rfl W347' 9 rfl (by simp)
          have N347 := Fr.snoc X347 N346 fr337
          have J347 := J346.wr W347 (List.mem_cons_self ..)
          have B347 := B346.mono (Nat.le_of_eq W347.size.symm)
          have O347 := O346.wr W347 (Nat.le_trans (own_ole O0) fr337)
          have K347 := K346.wr W347 (Or.inr sz337)
          refine Go.of (fun _ hr => st347 _ hr) ?_
          show Go p e s below _ _ _ _ T347 (mkF m 128 (LA35 p1 p2 p3 p4 rp mp q cc) [(.ref o337)])
          refine Go.of (fun _ hr => XS.dup X347.here hx rfl (hb hby at_128) rfl rfl hr) ?_
          show Go p e s below _ _ _ _ T347 (mkF m 129 (LA35 p1 p2 p3 p4 rp mp q cc) [(.ref o337), (.ref o337)])
          refine Go.of (fun _ hr => XS.bipush X347.here hx rfl (hb hby at_129) hr) ?_
          show Go p e s below _ _ _ _ T347 (mkF m 131 (LA35 p1 p2 p3 p4 rp mp q cc) [(.int (10 : Int32)), (.ref o337), (.ref o337)])
          refine Go.of (fun _ hr => XS.bipush X347.here hx rfl (hb hby at_131) hr) ?_
          show Go p e s below _ _ _ _ T347 (mkF m 133 (LA35 p1 p2 p3 p4 rp mp q cc) [(.int (116 : Int32)), (.int (10 : Int32)), (.ref o337), (.ref o337)])
          obtain ⟨cl348, Ar348, q348, S348, N348_, H348, G348⟩ := id V347
          have hin348 : ¬ ((10 : Int32) < 0 ∨ cl348.slots.size ≤ ((10 : Int32)).toNatClampNeg) := inb_of S348 ⟨by decide, by decide⟩
          obtain ⟨T348, h348, X348, e348, W348, st348⟩ := stC X347 hx hZ e347 Ar348 (j := (10 : Int32)) hin348 (g := (mkF m 133 (LA35 p1 p2 p3 p4 rp mp q cc) [(.int (116 : Int32)), (.int (10 : Int32)), (.ref o337), (.ref o337)])) rfl rfl (hb hby at_133)
          have W348' := W348
          rw [show nar .char (116 : Int32) = (116 : Int32) from rfl] at W348'
          have V348 : Arv Z h348 o337 k337 .char (15 : Int32) [(.int (114 : Int32)), (.int (101 : Int32)), (.int (112 : Int32)), (.int (101 : Int32)), (.int (97 : Int32)), (.int (116 : Int32)), (.int (101 : Int32)), (.int (100 : Int32)), (.int (32 : Int32)), (.int (115 : Int32)), (.int (116 : Int32)), (.int (0 : Int32)), (.int (0 : Int32)), (.int (0 : Int32)), (.int (0 : Int32))] (.int (0 : Int32)) := Arv.set Ar348 q348 S348 N348_ H348 G348 rfl W348' 10 rfl (by simp)
          have N348 := Fr.snoc X348 N347 fr337
          have J348 := J347.wr W348 (List.mem_cons_self ..)
          have B348 := B347.mono (Nat.le_of_eq W348.size.symm)
          have O348 := O347.wr W348 (Nat.le_trans (own_ole O0) fr337)
          have K348 := K347.wr W348 (Or.inr sz337)
          refine Go.of (fun _ hr => st348 _ hr) ?_
          show Go p e s below _ _ _ _ T348 (mkF m 134 (LA35 p1 p2 p3 p4 rp mp q cc) [(.ref o337)])
          refine Go.of (fun _ hr => XS.dup X348.here hx rfl (hb hby at_134) rfl rfl hr) ?_
          show Go p e s below _ _ _ _ T348 (mkF m 135 (LA35 p1 p2 p3 p4 rp mp q cc) [(.ref o337), (.ref o337)])
          refine Go.of (fun _ hr => XS.bipush X348.here hx rfl (hb hby at_135) hr) ?_
          show Go p e s below _ _ _ _ T348 (mkF m 137 (LA35 p1 p2 p3 p4 rp mp q cc) [(.int (11 : Int32)), (.ref o337), (.ref o337)])
          refine Go.of (fun _ hr => XS.bipush X348.here hx rfl (hb hby at_137) hr) ?_
          show Go p e s below _ _ _ _ T348 (mkF m 139 (LA35 p1 p2 p3 p4 rp mp q cc) [(.int (114 : Int32)), (.int (11 : Int32)), (.ref o337), (.ref o337)])
          obtain ⟨cl349, Ar349, q349, S349, N349_, H349, G349⟩ := id V348
          have hin349 : ¬ ((11 : Int32) < 0 ∨ cl349.slots.size ≤ ((11 : Int32)).toNatClampNeg) := inb_of S349 ⟨by decide, by decide⟩
          obtain ⟨T349, h349, X349, e349, W349, st349⟩ := stC X348 hx hZ e348 Ar349 (j := (11 : Int32)) hin349 (g := (mkF m 139 (LA35 p1 p2 p3 p4 rp mp q cc) [(.int (114 : Int32)), (.int (11 : Int32)), (.ref o337), (.ref o337)])) rfl rfl (hb hby at_139)
          have W349' := W349
          rw [show nar .char (114 : Int32) = (114 : Int32) from rfl] at W349'
          have V349 : Arv Z h349 o337 k337 .char (15 : Int32) [(.int (114 : Int32)), (.int (101 : Int32)), (.int (112 : Int32)), (.int (101 : Int32)), (.int (97 : Int32)), (.int (116 : Int32)), (.int (101 : Int32)), (.int (100 : Int32)), (.int (32 : Int32)), (.int (115 : Int32)), (.int (116 : Int32)), (.int (114 : Int32)), (.int (0 : Int32)), (.int (0 : Int32)), (.int (0 : Int32))] (.int (0 : Int32)) := Arv.set Ar349 q349 S349 N349_ H349 G349 rfl W349' 11 rfl (by simp)
          have N349 := Fr.snoc X349 N348 fr337
          have J349 := J348.wr W349 (List.mem_cons_self ..)
          have B349 := B348.mono (Nat.le_of_eq W349.size.symm)
          have O349 := O348.wr W349 (Nat.le_trans (own_ole O0) fr337)
          have K349 := K348.wr W349 (Or.inr sz337)
          refine Go.of (fun _ hr => st349 _ hr) ?_
          show Go p e s below _ _ _ _ T349 (mkF m 140 (LA35 p1 p2 p3 p4 rp mp q cc) [(.ref o337)])
          refine Go.of (fun _ hr => XS.dup X349.here hx rfl (hb hby at_140) rfl rfl hr) ?_
          show Go p e s below _ _ _ _ T349 (mkF m 141 (LA35 p1 p2 p3 p4 rp mp q cc) [(.ref o337), (.ref o337)])
          refine Go.of (fun _ hr => XS.bipush X349.here hx rfl (hb hby at_141) hr) ?_
          show Go p e s below _ _ _ _ T349 (mkF m 143 (LA35 p1 p2 p3 p4 rp mp q cc) [(.int (12 : Int32)), (.ref o337), (.ref o337)])
          refine Go.of (fun _ hr => XS.bipush X349.here hx rfl (hb hby at_143) hr) ?_
          show Go p e s below _ _ _ _ T349 (mkF m 145 (LA35 p1 p2 p3 p4 rp mp q cc) [(.int (105 : Int32)), (.int (12 : Int32)), (.ref o337), (.ref o337)])
          obtain ⟨cl350, Ar350, q350, S350, N350_, H350, G350⟩ := id V349
          have hin350 : ¬ ((12 : Int32) < 0 ∨ cl350.slots.size ≤ ((12 : Int32)).toNatClampNeg) := inb_of S350 ⟨by decide, by decide⟩
          obtain ⟨T350, h350, X350, e350, W350, st350⟩ := stC X349 hx hZ e349 Ar350 (j := (12 : Int32)) hin350 (g := (mkF m 145 (LA35 p1 p2 p3 p4 rp mp q cc) [(.int (105 : Int32)), (.int (12 : Int32)), (.ref o337), (.ref o337)])) rfl rfl (hb hby at_145)
          have W350' := W350
          rw [show nar .char (105 : Int32) = (105 : Int32) from rfl] at W350'
          have V350 : Arv Z h350 o337 k337 .char (15 : Int32) [(.int (114 : Int32)), (.int (101 : Int32)), (.int (112 : Int32)), (.int (101 : Int32)), (.int (97 : Int32)), (.int (116 : Int32)), (.int (101 : Int32)), (.int (100 : Int32)), (.int (32 : Int32)), (.int (115 : Int32)), (.int (116 : Int32)), (.int (114 : Int32)), (.int (105 : Int32)), (.int (0 : Int32)), (.int (0 : Int32))] (.int (0 : Int32)) := Arv.set Ar350 q350 S350 N350_ H350 G350 rfl W350' 12 rfl (by simp)
          have N350 := Fr.snoc X350 N349 fr337
          have J350 := J349.wr W350 (List.mem_cons_self ..)
          have B350 := B349.mono (Nat.le_of_eq W350.size.symm)
          have O350 := O349.wr W350 (Nat.le_trans (own_ole O0) fr337)
          have K350 := K349.wr W350 (Or.inr sz337)
          refine Go.of (fun _ hr => st350 _ hr) ?_
          show Go p e s below _ _ _ _ T350 (mkF m 146 (LA35 p1 p2 p3 p4 rp mp q cc) [(.ref o337)])
          refine Go.of (fun _ hr => XS.dup X350.here hx rfl (hb hby at_146) rfl rfl hr) ?_
          show Go p e s below _ _ _ _ T350 (mkF m 147 (LA35 p1 p2 p3 p4 rp mp q cc) [(.ref o337), (.ref o337)])
          refine Go.of (fun _ hr => XS.bipush X350.here hx rfl (hb hby at_147) hr) ?_
          show Go p e s below _ _ _ _ T350 (mkF m 149 (LA35 p1 p2 p3 p4 rp mp q cc) [(.int (13 : Int32)), (.ref o337), (.ref o337)])
          refine Go.of (fun _ hr => XS.bipush X350.here hx rfl (hb hby at_149) hr) ?_
          show Go p e s below _ _ _ _ T350 (mkF m 151 (LA35 p1 p2 p3 p4 rp mp q cc) [(.int (110 : Int32)), (.int (13 : Int32)), (.ref o337), (.ref o337)])
          obtain ⟨cl351, Ar351, q351, S351, N351_, H351, G351⟩ := id V350
          have hin351 : ¬ ((13 : Int32) < 0 ∨ cl351.slots.size ≤ ((13 : Int32)).toNatClampNeg) := inb_of S351 ⟨by decide, by decide⟩
          obtain ⟨T351, h351, X351, e351, W351, st351⟩ := stC X350 hx hZ e350 Ar351 (j := (13 : Int32)) hin351 (g := (mkF m 151 (LA35 p1 p2 p3 p4 rp mp q cc) [(.int (110 : Int32)), (.int (13 : Int32)), (.ref o337), (.ref o337)])) rfl rfl (hb hby at_151)
          have W351' := W351
          rw [show nar .char (110 : Int32) = (110 : Int32) from rfl] at W351'
          have V351 : Arv Z h351 o337 k337 .char (15 : Int32) [(.int (114 : Int32)), (.int (101 : Int32)), (.int (112 : Int32)), (.int (101 : Int32)), (.int (97 : Int32)), (.int (116 : Int32)), (.int (101 : Int32)), (.int (100 : Int32)), (.int (32 : Int32)), (.int (115 : Int32)), (.int (116 : Int32)), (.int (114 : Int32)), (.int (105 : Int32)), (.int (110 : Int32)), (.int (0 : Int32))] (.int (0 : Int32)) := Arv.set Ar351 q351 S351 N351_ H351 G351 rfl W351' 13 rfl (by simp)
          have N351 := Fr.snoc X351 N350 fr337
          have J351 := J350.wr W351 (List.mem_cons_self ..)
          have B351 := B350.mono (Nat.le_of_eq W351.size.symm)
          have O351 := O350.wr W351 (Nat.le_trans (own_ole O0) fr337)
          have K351 := K350.wr W351 (Or.inr sz337)
          refine Go.of (fun _ hr => st351 _ hr) ?_
          show Go p e s below _ _ _ _ T351 (mkF m 152 (LA35 p1 p2 p3 p4 rp mp q cc) [(.ref o337)])
          refine Go.of (fun _ hr => XS.dup X351.here hx rfl (hb hby at_152) rfl rfl hr) ?_
          show Go p e s below _ _ _ _ T351 (mkF m 153 (LA35 p1 p2 p3 p4 rp mp q cc) [(.ref o337), (.ref o337)])
          refine Go.of (fun _ hr => XS.bipush X351.here hx rfl (hb hby at_153) hr) ?_
          show Go p e s below _ _ _ _ T351 (mkF m 155 (LA35 p1 p2 p3 p4 rp mp q cc) [(.int (14 : Int32)), (.ref o337), (.ref o337)])
          refine Go.of (fun _ hr => XS.bipush X351.here hx rfl (hb hby at_155) hr) ?_
          show Go p e s below _ _ _ _ T351 (mkF m 157 (LA35 p1 p2 p3 p4 rp mp q cc) [(.int (103 : Int32)), (.int (14 : Int32)), (.ref o337), (.ref o337)])
          obtain ⟨cl352, Ar352, q352, S352, N352_, H352, G352⟩ := id V351
          have hin352 : ¬ ((14 : Int32) < 0 ∨ cl352.slots.size ≤ ((14 : Int32)).toNatClampNeg) := inb_of S352 ⟨by decide, by decide⟩
          obtain ⟨T352, h352, X352, e352, W352, st352⟩ := stC X351 hx hZ e351 Ar352 (j := (14 : Int32)) hin352 (g := (mkF m 157 (LA35 p1 p2 p3 p4 rp mp q cc) [(.int (103 : Int32)), (.int (14 : Int32)), (.ref o337), (.ref o337)])) rfl rfl (hb hby at_157)
          have W352' := W352
          rw [show nar .char (103 : Int32) = (103 : Int32) from rfl] at W352'
          have V352 : Arv Z h352 o337 k337 .char (15 : Int32) [(.int (114 : Int32)), (.int (101 : Int32)), (.int (112 : Int32)), (.int (101 : Int32)), (.int (97 : Int32)), (.int (116 : Int32)), (.int (101 : Int32)), (.int (100 : Int32)), (.int (32 : Int32)), (.int (115 : Int32)), (.int (116 : Int32)), (.int (114 : Int32)), (.int (105 : Int32)), (.int (110 : Int32)), (.int (103 : Int32))] (.int (0 : Int32)) := Arv.set Ar352 q352 S352 N352_ H352 G352 rfl W352' 14 rfl (by simp)
          have N352 := Fr.snoc X352 N351 fr337
          have J352 := J351.wr W352 (List.mem_cons_self ..)
          have B352 := B351.mono (Nat.le_of_eq W352.size.symm)
          have O352 := O351.wr W352 (Nat.le_trans (own_ole O0) fr337)
          have K352 := K351.wr W352 (Or.inr sz337)
          refine Go.of (fun _ hr => st352 _ hr) ?_
          show Go p e s below _ _ _ _ T352 (mkF m 158 (LA35 p1 p2 p3 p4 rp mp q cc) [(.ref o337)])
          refine Go.of (fun _ hr => XS.goto X352.here hx rfl (pc0 := 158) (pc' := 195) rfl (hb hby at_158) (by decide) (by decide) hr) ?_
          show Go p e s below _ _ _ _ T352 (mkF m 195 (LA35 p1 p2 p3 p4 rp mp q cc) [(.ref o337)])
          refine Go.of (fun _ hr => XS.astore X352.here hx rfl (hb hby at_195) rfl rfl (l' := (LA36 p1 p2 p3 p4 rp mp q cc o337)) rfl hr) ?_
          show Go p e s below _ _ _ _ T352 (mkF m 197 (LA36 p1 p2 p3 p4 rp mp q cc o337) [])
          refine Go.of (fun _ hr => XS.aload X352.here hx rfl (hb hby at_197) rfl rfl hr) ?_
          show Go p e s below _ _ _ _ T352 (mkF m 199 (LA36 p1 p2 p3 p4 rp mp q cc o337) [(.ref o337)])
          obtain ⟨cl353, Ar353, q353, S353, N353_, H353, G353⟩ := id V352
          refine Go.of (fun _ hr => X352.arraylength hx (by rw [e352]; exact Ar353.1) (State.isArrayOf_alike hZ.alike Ar353.2.1) (g := (mkF m 199 (LA36 p1 p2 p3 p4 rp mp q cc o337) [(.ref o337)])) rfl rfl (hb hby at_199) _ hr) ?_
          rw [len_of S353 N353_]
          show Go p e s below _ _ _ _ T352 (mkF m 200 (LA36 p1 p2 p3 p4 rp mp q cc o337) [(.int (15 : Int32))])
          refine Go.of (fun _ hr => XS.iload X352.here hx rfl (hb hby at_200) rfl  hr) ?_
          show Go p e s below _ _ _ _ T352 (mkF m 202 (LA36 p1 p2 p3 p4 rp mp q cc o337) [(.int (0 : Int32)), (.int (15 : Int32))])
          refine Go.of (fun _ hr => XS.iadd X352.here hx rfl (hb hby at_202) rfl hr) ?_
          show Go p e s below _ _ _ _ T352 (mkF m 203 (LA36 p1 p2 p3 p4 rp mp q cc o337) [(.int (15 : Int32))])
          refine Go.of (fun _ hr => XS.istore X352.here hx rfl (hb hby at_203) rfl (l' := (LA37 p1 p2 p3 p4 rp mp q cc o337)) rfl hr) ?_
          show Go p e s below _ _ _ _ T352 (mkF m 205 (LA37 p1 p2 p3 p4 rp mp q cc o337) [])
          refine Go.of (fun _ hr => XS.iload X352.here hx rfl (hb hby at_205) rfl  hr) ?_
          show Go p e s below _ _ _ _ T352 (mkF m 207 (LA37 p1 p2 p3 p4 rp mp q cc o337) [(.int (15 : Int32))])
          obtain ⟨T354, h354, k354, X354, e354, E354, A354, st354⟩ := newP X352 hx hZ (hw _ (List.mem_of_getElem? (i := 1) rfl)) e352 (g := (mkF m 207 (LA37 p1 p2 p3 p4 rp mp q cc o337) [(.int (15 : Int32))])) rfl (hb hby at_207) rfl (by decide) (cap := 15) (by decide) (by decide) (by decide) (by decide)
          obtain ⟨o354, g354⟩ : ∃ z, z = h352.size := ⟨_, rfl⟩
          rw [← g354] at A354 st354
          have ne_o337_o354 : o337 ≠ o354 := Nat.ne_of_lt (Nat.lt_of_lt_of_le V352.lt (Nat.le_of_eq g354.symm))
          have V354 : Arv Z h354 o354 k354 .char (15 : Int32) [(.int (0 : Int32)), (.int (0 : Int32)), (.int (0 : Int32)), (.int (0 : Int32)), (.int (0 : Int32)), (.int (0 : Int32)), (.int (0 : Int32)), (.int (0 : Int32)), (.int (0 : Int32)), (.int (0 : Int32)), (.int (0 : Int32)), (.int (0 : Int32)), (.int (0 : Int32)), (.int (0 : Int32)), (.int (0 : Int32))] (.int (0 : Int32)) := (Arv.new A354 (by decide)).pad (pad_rep [] (.int (0 : Int32)) 15)
          have lt354 : o354 < h354.size := A354.lt
          have J354 := J352.add E354 g354 lt354
          have B354 := B352.mono E354.1
          have O354 := O352.ext E354
          have sz354 : h0.size ≤ o354 := Nat.le_trans K352.1 (Nat.le_of_eq g354.symm)
          have fr354 : h0.size ≤ o354 := sz354
          have K354 := K352.ext E354
          refine Go.of (fun _ hr => st354 _ hr) ?_
          show Go p e s below _ _ _ _ T354 (mkF m 209 (LA37 p1 p2 p3 p4 rp mp q cc o337) [(.ref o354)])
          refine Go.of (fun _ hr => XS.astore X354.here hx rfl (hb hby at_209) rfl rfl (l' := (LA38 p1 p2 p3 p4 rp mp q cc o337 o354)) rfl hr) ?_
          show Go p e s below _ _ _ _ T354 (mkF m 211 (LA38 p1 p2 p3 p4 rp mp q cc o337 o354) [])
          refine Go.of (fun _ hr => XS.iload X354.here hx rfl (hb hby at_211) rfl  hr) ?_
          show Go p e s below _ _ _ _ T354 (mkF m 213 (LA38 p1 p2 p3 p4 rp mp q cc o337 o354) [(.int (15 : Int32))])
          refine Go.of (fun _ hr => XS.ifNo X354.here hx rfl (hb hby at_213) rfl ((if0 _ _).trans (tlt (by decide : ((0 : Int32) < (15 : Int32)))).2.2.2) hr) ?_
          show Go p e s below _ _ _ _ T354 (mkF m 216 (LA38 p1 p2 p3 p4 rp mp q cc o337 o354) [])
          refine Go.of (fun _ hr => XS.aload X354.here hx rfl (hb hby at_216) rfl rfl hr) ?_
          show Go p e s below _ _ _ _ T354 (mkF m 218 (LA38 p1 p2 p3 p4 rp mp q cc o337 o354) [(.ref o354)])
          refine Go.of (fun _ hr => XS.iconst X354.here hx rfl (hb hby at_218) hr) ?_
          show Go p e s below _ _ _ _ T354 (mkF m 219 (LA38 p1 p2 p3 p4 rp mp q cc o337 o354) [(.int (0 : Int32)), (.ref o354)])
          refine Go.of (fun _ hr => XS.aload X354.here hx rfl (hb hby at_219) rfl rfl hr) ?_
          show Go p e s below _ _ _ _ T354 (mkF m 221 (LA38 p1 p2 p3 p4 rp mp q cc o337 o354) [(.ref o337), (.int (0 : Int32)), (.ref o354)])
          refine Go.of (fun _ hr => XS.iconst X354.here hx rfl (hb hby at_221) hr) ?_
          show Go p e s below _ _ _ _ T354 (mkF m 222 (LA38 p1 p2 p3 p4 rp mp q cc o337 o354) [(.int (0 : Int32)), (.ref o337), (.int (0 : Int32)), (.ref o354)])
          refine Go.of (fun _ hr => XS.iload X354.here hx rfl (hb hby at_222) rfl  hr) ?_
          show Go p e s below _ _ _ _ T354 (mkF m 224 (LA38 p1 p2 p3 p4 rp mp q cc o337 o354) [(.int q), (.int (0 : Int32)), (.ref o337), (.int (0 : Int32)), (.ref o354)])
          refine Go.of (fun _ hr => XS.iload X354.here hx rfl (hb hby at_224) rfl  hr) ?_
          show Go p e s below _ _ _ _ T354 (mkF m 226 (LA38 p1 p2 p3 p4 rp mp q cc o337 o354) [(.int cc), (.int q), (.int (0 : Int32)), (.ref o337), (.int (0 : Int32)), (.ref o354)])
          have f356 := (V352.ext E354)
          obtain ⟨_, b355, T355, h355, L355, e355, Cc355, X355, B355, J355, g355, hQ355, st355⟩ := own_callS Cc B354 J354 X354 (hw _ (List.mem_of_getElem? (i := 2) rfl)) (hw _ (List.mem_of_getElem? (i := 3) rfl)) (hw _ (List.mem_of_getElem? (i := 4) rfl)) (hw _ (List.mem_of_getElem? (i := 5) rfl)) (by decide) (rm1 l Z a0 hw [] o337 _ (0 : Int32) q cc bR _ h354 n0 O354 h0.size (own_ole O0) K354.1 bR_rng (by decide) (by decide) hq_cc f356) e354 (g := (mkF m 226 (LA38 p1 p2 p3 p4 rp mp q cc o337 o354) [(.int cc), (.int q), (.int (0 : Int32)), (.ref o337), (.int (0 : Int32)), (.ref o354)])) rfl (by rw [hml]; rfl) (argsL := [(.ref o337), (.int (0 : Int32)), (.int q), (.int cc)]) (rest := [(.int (0 : Int32)), (.ref o354)]) (lenOf pd7 rfl) rfl (W := 2) (by show 2 * 0 + _ ≤ _; exact Nat.le_of_eq rfl) (hb hby at_226) (by decide) (by decide) (by decide) (by decide)
          obtain ⟨rfl, Nq355, hh355⟩ := hQ355
          have N355 := Fr.app N352 Nq355
          obtain ⟨hx, hZ, hown, hby, hml, hnm, hret, hlk⟩ := id Cc355
          rw [hh355] at e355 B355 J355
          refine Go.of st355 ?_
          show Go p e s below _ _ _ _ T355 (mkF m 229 (LA38 p1 p2 p3 p4 rp mp q cc o337 o354) [(.int (atV bR (0 : Int32) q cc)), (.int (0 : Int32)), (.ref o354)])
          have Vz : Arv Z h354 o354 k354 .char (15 : Int32) ((outL bR 0 q cc).map Value.int) (.int 0) := Arv.fill0 V354
          obtain ⟨cl357, Ar357, q357, S357, N357_, H357, G357⟩ := id Vz
          have hin357 : ¬ ((0 : Int32) < 0 ∨ cl357.slots.size ≤ ((0 : Int32)).toNatClampNeg) := inb_of S357 ⟨by decide, by decide⟩
          obtain ⟨T357, h357, X357, e357, W357, st357⟩ := stC X355 hx hZ e355 Ar357 (j := (0 : Int32)) hin357 (g := (mkF m 229 (LA38 p1 p2 p3 p4 rp mp q cc o337 o354) [(.int (atV bR (0 : Int32) q cc)), (.int (0 : Int32)), (.ref o354)])) rfl rfl (hb hby at_229)
          rw [nar_c (atV_rng bR_rng (by decide) (by decide) hq_cc).1 (le255 (atV_rng bR_rng (by decide) (by decide) hq_cc).2)] at W357
          have V357 : Arv Z h357 o354 k354 .char (15 : Int32) ((outL bR 1 q cc).map Value.int) (.int 0) := outL_push bR 0 q cc ▸ own_push Vz W357 (by rw [List.length_map, outL_len]; decide) (fits_c (atV_rng bR_rng (by decide) (by decide) hq_cc).1 (le255 (atV_rng bR_rng (by decide) (by decide) hq_cc).2))
          have N357 := Fr.snoc X357 N355 fr354
          have J357 := J355.wr W357 (List.mem_cons_self ..)
          have B357 := B355.mono (Nat.le_of_eq W357.size.symm)
          have O357 := O354.wr W357 (Nat.le_trans (own_ole O0) fr354)
          have K357 := K354.wr W357 (Or.inr sz354)
          refine Go.of (fun _ hr => st357 _ hr) ?_
          show Go p e s below _ _ _ _ T357 (mkF m 230 (LA38 p1 p2 p3 p4 rp mp q cc o337 o354) [])
          refine Go.of (fun _ hr => XS.iload X357.here hx rfl (hb hby at_230) rfl  hr) ?_
          show Go p e s below _ _ _ _ T357 (mkF m 232 (LA38 p1 p2 p3 p4 rp mp q cc o337 o354) [(.int (15 : Int32))])
          refine Go.of (fun _ hr => XS.iconst X357.here hx rfl (hb hby at_232) hr) ?_
          show Go p e s below _ _ _ _ T357 (mkF m 233 (LA38 p1 p2 p3 p4 rp mp q cc o337 o354) [(.int (1 : Int32)), (.int (15 : Int32))])
          refine Go.of (fun _ hr => XS.icmpNo X357.here hx rfl (hb hby at_233) rfl (tlt (by decide : ((1 : Int32) < (15 : Int32)))).2.2.2 hr) ?_
          show Go p e s below _ _ _ _ T357 (mkF m 236 (LA38 p1 p2 p3 p4 rp mp q cc o337 o354) [])
          refine Go.of (fun _ hr => XS.aload X357.here hx rfl (hb hby at_236) rfl rfl hr) ?_
          show Go p e s below _ _ _ _ T357 (mkF m 238 (LA38 p1 p2 p3 p4 rp mp q cc o337 o354) [(.ref o354)])
          refine Go.of (fun _ hr => XS.iconst X357.here hx rfl (hb hby at_238) hr) ?_
          show Go p e s below _ _ _ _ T357 (mkF m 239 (LA38 p1 p2 p3 p4 rp mp q cc o337 o354) [(.int (1 : Int32)), (.ref o354)])
          refine Go.of (fun _ hr => XS.aload X357.here hx rfl (hb hby at_239) rfl rfl hr) ?_
          show Go p e s below _ _ _ _ T357 (mkF m 241 (LA38 p1 p2 p3 p4 rp mp q cc o337 o354) [(.ref o337), (.int (1 : Int32)), (.ref o354)])
          refine Go.of (fun _ hr => XS.iconst X357.here hx rfl (hb hby at_241) hr) ?_
          show Go p e s below _ _ _ _ T357 (mkF m 242 (LA38 p1 p2 p3 p4 rp mp q cc o337 o354) [(.int (1 : Int32)), (.ref o337), (.int (1 : Int32)), (.ref o354)])
          refine Go.of (fun _ hr => XS.iload X357.here hx rfl (hb hby at_242) rfl  hr) ?_
          show Go p e s below _ _ _ _ T357 (mkF m 244 (LA38 p1 p2 p3 p4 rp mp q cc o337 o354) [(.int q), (.int (1 : Int32)), (.ref o337), (.int (1 : Int32)), (.ref o354)])
          refine Go.of (fun _ hr => XS.iload X357.here hx rfl (hb hby at_244) rfl  hr) ?_
          show Go p e s below _ _ _ _ T357 (mkF m 246 (LA38 p1 p2 p3 p4 rp mp q cc o337 o354) [(.int cc), (.int q), (.int (1 : Int32)), (.ref o337), (.int (1 : Int32)), (.ref o354)])
          have f359 := (f356.other W357 ne_o337_o354)
          obtain ⟨_, b358, T358, h358, L358, e358, Cc358, X358, B358, J358, g358, hQ358, st358⟩ := own_callS Cc355 B357 J357 X357 (hw _ (List.mem_of_getElem? (i := 2) rfl)) (hw _ (List.mem_of_getElem? (i := 3) rfl)) (hw _ (List.mem_of_getElem? (i := 4) rfl)) (hw _ (List.mem_of_getElem? (i := 5) rfl)) (by decide) (rm1 l Z a0 hw [] o337 _ (1 : Int32) q cc bR _ h357 n0 O357 h0.size (own_ole O0) K357.1 bR_rng (by decide) (by decide) hq_cc f359) e357 (g := (mkF m 246 (LA38 p1 p2 p3 p4 rp mp q cc o337 o354) [(.int cc), (.int q), (.int (1 : Int32)), (.ref o337), (.int (1 : Int32)), (.ref o354)])) rfl (by rw [hml]; rfl) (argsL := [(.ref o337), (.int (1 : Int32)), (.int q), (.int cc)]) (rest := [(.int (1 : Int32)), (.ref o354)]) (lenOf pd7 rfl) rfl (W := 2) (by show 2 * 0 + _ ≤ _; exact Nat.le_of_eq rfl) (hb hby at_246) (by decide) (by decide) (by decide) (by decide)
          obtain ⟨rfl, Nq358, hh358⟩ := hQ358
          have N358 := Fr.app N357 Nq358
          obtain ⟨hx, hZ, hown, hby, hml, hnm, hret, hlk⟩ := id Cc358
          rw [hh358] at e358 B358 J358
          refine Go.of st358 ?_
          show Go p e s below _ _ _ _ T358 (mkF m 249 (LA38 p1 p2 p3 p4 rp mp q cc o337 o354) [(.int (atV bR (1 : Int32) q cc)), (.int (1 : Int32)), (.ref o354)])
          obtain ⟨cl360, Ar360, q360, S360, N360_, H360, G360⟩ := id V357
          have hin360 : ¬ ((1 : Int32) < 0 ∨ cl360.slots.size ≤ ((1 : Int32)).toNatClampNeg) := inb_of S360 ⟨by decide, by decide⟩
          obtain ⟨T360, h360, X360, e360, W360, st360⟩ := stC X358 hx hZ e358 Ar360 (j := (1 : Int32)) hin360 (g := (mkF m 249 (LA38 p1 p2 p3 p4 rp mp q cc o337 o354) [(.int (atV bR (1 : Int32) q cc)), (.int (1 : Int32)), (.ref o354)])) rfl rfl (hb hby at_249)
          rw [nar_c (atV_rng bR_rng (by decide) (by decide) hq_cc).1 (le255 (atV_rng bR_rng (by decide) (by decide) hq_cc).2)] at W360
          have V360 : Arv Z h360 o354 k354 .char (15 : Int32) ((outL bR 2 q cc).map Value.int) (.int 0) := outL_push bR 1 q cc ▸ own_push V357 W360 (by rw [List.length_map, outL_len]; decide) (fits_c (atV_rng bR_rng (by decide) (by decide) hq_cc).1 (le255 (atV_rng bR_rng (by decide) (by decide) hq_cc).2))
          have N360 := Fr.snoc X360 N358 fr354
          have J360 := J358.wr W360 (List.mem_cons_self ..)
          have B360 := B358.mono (Nat.le_of_eq W360.size.symm)
          have O360 := O357.wr W360 (Nat.le_trans (own_ole O0) fr354)
          have K360 := K357.wr W360 (Or.inr sz354)
          refine Go.of (fun _ hr => st360 _ hr) ?_
          show Go p e s below _ _ _ _ T360 (mkF m 250 (LA38 p1 p2 p3 p4 rp mp q cc o337 o354) [])
          refine Go.of (fun _ hr => XS.iload X360.here hx rfl (hb hby at_250) rfl  hr) ?_
          show Go p e s below _ _ _ _ T360 (mkF m 252 (LA38 p1 p2 p3 p4 rp mp q cc o337 o354) [(.int (15 : Int32))])
          refine Go.of (fun _ hr => XS.iconst X360.here hx rfl (hb hby at_252) hr) ?_
          show Go p e s below _ _ _ _ T360 (mkF m 253 (LA38 p1 p2 p3 p4 rp mp q cc o337 o354) [(.int (2 : Int32)), (.int (15 : Int32))])
          refine Go.of (fun _ hr => XS.icmpNo X360.here hx rfl (hb hby at_253) rfl (tlt (by decide : ((2 : Int32) < (15 : Int32)))).2.2.2 hr) ?_
          show Go p e s below _ _ _ _ T360 (mkF m 256 (LA38 p1 p2 p3 p4 rp mp q cc o337 o354) [])
          refine Go.of (fun _ hr => XS.aload X360.here hx rfl (hb hby at_256) rfl rfl hr) ?_
          show Go p e s below _ _ _ _ T360 (mkF m 258 (LA38 p1 p2 p3 p4 rp mp q cc o337 o354) [(.ref o354)])
          refine Go.of (fun _ hr => XS.iconst X360.here hx rfl (hb hby at_258) hr) ?_
          show Go p e s below _ _ _ _ T360 (mkF m 259 (LA38 p1 p2 p3 p4 rp mp q cc o337 o354) [(.int (2 : Int32)), (.ref o354)])
          refine Go.of (fun _ hr => XS.aload X360.here hx rfl (hb hby at_259) rfl rfl hr) ?_
          show Go p e s below _ _ _ _ T360 (mkF m 261 (LA38 p1 p2 p3 p4 rp mp q cc o337 o354) [(.ref o337), (.int (2 : Int32)), (.ref o354)])
          refine Go.of (fun _ hr => XS.iconst X360.here hx rfl (hb hby at_261) hr) ?_
          show Go p e s below _ _ _ _ T360 (mkF m 262 (LA38 p1 p2 p3 p4 rp mp q cc o337 o354) [(.int (2 : Int32)), (.ref o337), (.int (2 : Int32)), (.ref o354)])
          refine Go.of (fun _ hr => XS.iload X360.here hx rfl (hb hby at_262) rfl  hr) ?_
          show Go p e s below _ _ _ _ T360 (mkF m 264 (LA38 p1 p2 p3 p4 rp mp q cc o337 o354) [(.int q), (.int (2 : Int32)), (.ref o337), (.int (2 : Int32)), (.ref o354)])
          refine Go.of (fun _ hr => XS.iload X360.here hx rfl (hb hby at_264) rfl  hr) ?_
          show Go p e s below _ _ _ _ T360 (mkF m 266 (LA38 p1 p2 p3 p4 rp mp q cc o337 o354) [(.int cc), (.int q), (.int (2 : Int32)), (.ref o337), (.int (2 : Int32)), (.ref o354)])
          have f362 := (f359.other W360 ne_o337_o354)
          obtain ⟨_, b361, T361, h361, L361, e361, Cc361, X361, B361, J361, g361, hQ361, st361⟩ := own_callS Cc358 B360 J360 X360 (hw _ (List.mem_of_getElem? (i := 2) rfl)) (hw _ (List.mem_of_getElem? (i := 3) rfl)) (hw _ (List.mem_of_getElem? (i := 4) rfl)) (hw _ (List.mem_of_getElem? (i := 5) rfl)) (by decide) (rm1 l Z a0 hw [] o337 _ (2 : Int32) q cc bR _ h360 n0 O360 h0.size (own_ole O0) K360.1 bR_rng (by decide) (by decide) hq_cc f362) e360 (g := (mkF m 266 (LA38 p1 p2 p3 p4 rp mp q cc o337 o354) [(.int cc), (.int q), (.int (2 : Int32)), (.ref o337), (.int (2 : Int32)), (.ref o354)])) rfl (by rw [hml]; rfl) (argsL := [(.ref o337), (.int (2 : Int32)), (.int q), (.int cc)]) (rest := [(.int (2 : Int32)), (.ref o354)]) (lenOf pd7 rfl) rfl (W := 2) (by show 2 * 0 + _ ≤ _; exact Nat.le_of_eq rfl) (hb hby at_266) (by decide) (by decide) (by decide) (by decide)
          obtain ⟨rfl, Nq361, hh361⟩ := hQ361
          have N361 := Fr.app N360 Nq361
          obtain ⟨hx, hZ, hown, hby, hml, hnm, hret, hlk⟩ := id Cc361
          rw [hh361] at e361 B361 J361
          refine Go.of st361 ?_
          show Go p e s below _ _ _ _ T361 (mkF m 269 (LA38 p1 p2 p3 p4 rp mp q cc o337 o354) [(.int (atV bR (2 : Int32) q cc)), (.int (2 : Int32)), (.ref o354)])
          obtain ⟨cl363, Ar363, q363, S363, N363_, H363, G363⟩ := id V360
          have hin363 : ¬ ((2 : Int32) < 0 ∨ cl363.slots.size ≤ ((2 : Int32)).toNatClampNeg) := inb_of S363 ⟨by decide, by decide⟩
          obtain ⟨T363, h363, X363, e363, W363, st363⟩ := stC X361 hx hZ e361 Ar363 (j := (2 : Int32)) hin363 (g := (mkF m 269 (LA38 p1 p2 p3 p4 rp mp q cc o337 o354) [(.int (atV bR (2 : Int32) q cc)), (.int (2 : Int32)), (.ref o354)])) rfl rfl (hb hby at_269)
          rw [nar_c (atV_rng bR_rng (by decide) (by decide) hq_cc).1 (le255 (atV_rng bR_rng (by decide) (by decide) hq_cc).2)] at W363
          have V363 : Arv Z h363 o354 k354 .char (15 : Int32) ((outL bR 3 q cc).map Value.int) (.int 0) := outL_push bR 2 q cc ▸ own_push V360 W363 (by rw [List.length_map, outL_len]; decide) (fits_c (atV_rng bR_rng (by decide) (by decide) hq_cc).1 (le255 (atV_rng bR_rng (by decide) (by decide) hq_cc).2))
          have N363 := Fr.snoc X363 N361 fr354
          have J363 := J361.wr W363 (List.mem_cons_self ..)
          have B363 := B361.mono (Nat.le_of_eq W363.size.symm)
          have O363 := O360.wr W363 (Nat.le_trans (own_ole O0) fr354)
          have K363 := K360.wr W363 (Or.inr sz354)
          refine Go.of (fun _ hr => st363 _ hr) ?_
          show Go p e s below _ _ _ _ T363 (mkF m 270 (LA38 p1 p2 p3 p4 rp mp q cc o337 o354) [])
          refine Go.of (fun _ hr => XS.iload X363.here hx rfl (hb hby at_270) rfl  hr) ?_
          show Go p e s below _ _ _ _ T363 (mkF m 272 (LA38 p1 p2 p3 p4 rp mp q cc o337 o354) [(.int (15 : Int32))])
          refine Go.of (fun _ hr => XS.iconst X363.here hx rfl (hb hby at_272) hr) ?_
          show Go p e s below _ _ _ _ T363 (mkF m 273 (LA38 p1 p2 p3 p4 rp mp q cc o337 o354) [(.int (3 : Int32)), (.int (15 : Int32))])
          refine Go.of (fun _ hr => XS.icmpNo X363.here hx rfl (hb hby at_273) rfl (tlt (by decide : ((3 : Int32) < (15 : Int32)))).2.2.2 hr) ?_
          show Go p e s below _ _ _ _ T363 (mkF m 276 (LA38 p1 p2 p3 p4 rp mp q cc o337 o354) [])
          refine Go.of (fun _ hr => XS.aload X363.here hx rfl (hb hby at_276) rfl rfl hr) ?_
          show Go p e s below _ _ _ _ T363 (mkF m 278 (LA38 p1 p2 p3 p4 rp mp q cc o337 o354) [(.ref o354)])
          refine Go.of (fun _ hr => XS.iconst X363.here hx rfl (hb hby at_278) hr) ?_
          show Go p e s below _ _ _ _ T363 (mkF m 279 (LA38 p1 p2 p3 p4 rp mp q cc o337 o354) [(.int (3 : Int32)), (.ref o354)])
          refine Go.of (fun _ hr => XS.aload X363.here hx rfl (hb hby at_279) rfl rfl hr) ?_
          show Go p e s below _ _ _ _ T363 (mkF m 281 (LA38 p1 p2 p3 p4 rp mp q cc o337 o354) [(.ref o337), (.int (3 : Int32)), (.ref o354)])
          refine Go.of (fun _ hr => XS.iconst X363.here hx rfl (hb hby at_281) hr) ?_
          show Go p e s below _ _ _ _ T363 (mkF m 282 (LA38 p1 p2 p3 p4 rp mp q cc o337 o354) [(.int (3 : Int32)), (.ref o337), (.int (3 : Int32)), (.ref o354)])
          refine Go.of (fun _ hr => XS.iload X363.here hx rfl (hb hby at_282) rfl  hr) ?_
          show Go p e s below _ _ _ _ T363 (mkF m 284 (LA38 p1 p2 p3 p4 rp mp q cc o337 o354) [(.int q), (.int (3 : Int32)), (.ref o337), (.int (3 : Int32)), (.ref o354)])
          refine Go.of (fun _ hr => XS.iload X363.here hx rfl (hb hby at_284) rfl  hr) ?_
          show Go p e s below _ _ _ _ T363 (mkF m 286 (LA38 p1 p2 p3 p4 rp mp q cc o337 o354) [(.int cc), (.int q), (.int (3 : Int32)), (.ref o337), (.int (3 : Int32)), (.ref o354)])
          have f365 := (f362.other W363 ne_o337_o354)
          obtain ⟨_, b364, T364, h364, L364, e364, Cc364, X364, B364, J364, g364, hQ364, st364⟩ := own_callS Cc361 B363 J363 X363 (hw _ (List.mem_of_getElem? (i := 2) rfl)) (hw _ (List.mem_of_getElem? (i := 3) rfl)) (hw _ (List.mem_of_getElem? (i := 4) rfl)) (hw _ (List.mem_of_getElem? (i := 5) rfl)) (by decide) (rm1 l Z a0 hw [] o337 _ (3 : Int32) q cc bR _ h363 n0 O363 h0.size (own_ole O0) K363.1 bR_rng (by decide) (by decide) hq_cc f365) e363 (g := (mkF m 286 (LA38 p1 p2 p3 p4 rp mp q cc o337 o354) [(.int cc), (.int q), (.int (3 : Int32)), (.ref o337), (.int (3 : Int32)), (.ref o354)])) rfl (by rw [hml]; rfl) (argsL := [(.ref o337), (.int (3 : Int32)), (.int q), (.int cc)]) (rest := [(.int (3 : Int32)), (.ref o354)]) (lenOf pd7 rfl) rfl (W := 2) (by show 2 * 0 + _ ≤ _; exact Nat.le_of_eq rfl) (hb hby at_286) (by decide) (by decide) (by decide) (by decide)
          obtain ⟨rfl, Nq364, hh364⟩ := hQ364
          have N364 := Fr.app N363 Nq364
          obtain ⟨hx, hZ, hown, hby, hml, hnm, hret, hlk⟩ := id Cc364
          rw [hh364] at e364 B364 J364
          refine Go.of st364 ?_
          show Go p e s below _ _ _ _ T364 (mkF m 289 (LA38 p1 p2 p3 p4 rp mp q cc o337 o354) [(.int (atV bR (3 : Int32) q cc)), (.int (3 : Int32)), (.ref o354)])
          obtain ⟨cl366, Ar366, q366, S366, N366_, H366, G366⟩ := id V363
          have hin366 : ¬ ((3 : Int32) < 0 ∨ cl366.slots.size ≤ ((3 : Int32)).toNatClampNeg) := inb_of S366 ⟨by decide, by decide⟩
          obtain ⟨T366, h366, X366, e366, W366, st366⟩ := stC X364 hx hZ e364 Ar366 (j := (3 : Int32)) hin366 (g := (mkF m 289 (LA38 p1 p2 p3 p4 rp mp q cc o337 o354) [(.int (atV bR (3 : Int32) q cc)), (.int (3 : Int32)), (.ref o354)])) rfl rfl (hb hby at_289)
          rw [nar_c (atV_rng bR_rng (by decide) (by decide) hq_cc).1 (le255 (atV_rng bR_rng (by decide) (by decide) hq_cc).2)] at W366
          have V366 : Arv Z h366 o354 k354 .char (15 : Int32) ((outL bR 4 q cc).map Value.int) (.int 0) := outL_push bR 3 q cc ▸ own_push V363 W366 (by rw [List.length_map, outL_len]; decide) (fits_c (atV_rng bR_rng (by decide) (by decide) hq_cc).1 (le255 (atV_rng bR_rng (by decide) (by decide) hq_cc).2))
          have N366 := Fr.snoc X366 N364 fr354
          have J366 := J364.wr W366 (List.mem_cons_self ..)
          have B366 := B364.mono (Nat.le_of_eq W366.size.symm)
          have O366 := O363.wr W366 (Nat.le_trans (own_ole O0) fr354)
          have K366 := K363.wr W366 (Or.inr sz354)
          refine Go.of (fun _ hr => st366 _ hr) ?_
          show Go p e s below _ _ _ _ T366 (mkF m 290 (LA38 p1 p2 p3 p4 rp mp q cc o337 o354) [])
          refine Go.of (fun _ hr => XS.iload X366.here hx rfl (hb hby at_290) rfl  hr) ?_
          show Go p e s below _ _ _ _ T366 (mkF m 292 (LA38 p1 p2 p3 p4 rp mp q cc o337 o354) [(.int (15 : Int32))])
          refine Go.of (fun _ hr => XS.iconst X366.here hx rfl (hb hby at_292) hr) ?_
          show Go p e s below _ _ _ _ T366 (mkF m 293 (LA38 p1 p2 p3 p4 rp mp q cc o337 o354) [(.int (4 : Int32)), (.int (15 : Int32))])
          refine Go.of (fun _ hr => XS.icmpNo X366.here hx rfl (hb hby at_293) rfl (tlt (by decide : ((4 : Int32) < (15 : Int32)))).2.2.2 hr) ?_
          show Go p e s below _ _ _ _ T366 (mkF m 296 (LA38 p1 p2 p3 p4 rp mp q cc o337 o354) [])
          refine Go.of (fun _ hr => XS.aload X366.here hx rfl (hb hby at_296) rfl rfl hr) ?_
          show Go p e s below _ _ _ _ T366 (mkF m 298 (LA38 p1 p2 p3 p4 rp mp q cc o337 o354) [(.ref o354)])
          refine Go.of (fun _ hr => XS.iconst X366.here hx rfl (hb hby at_298) hr) ?_
          show Go p e s below _ _ _ _ T366 (mkF m 299 (LA38 p1 p2 p3 p4 rp mp q cc o337 o354) [(.int (4 : Int32)), (.ref o354)])
          refine Go.of (fun _ hr => XS.aload X366.here hx rfl (hb hby at_299) rfl rfl hr) ?_
          show Go p e s below _ _ _ _ T366 (mkF m 301 (LA38 p1 p2 p3 p4 rp mp q cc o337 o354) [(.ref o337), (.int (4 : Int32)), (.ref o354)])
          refine Go.of (fun _ hr => XS.iconst X366.here hx rfl (hb hby at_301) hr) ?_
          show Go p e s below _ _ _ _ T366 (mkF m 302 (LA38 p1 p2 p3 p4 rp mp q cc o337 o354) [(.int (4 : Int32)), (.ref o337), (.int (4 : Int32)), (.ref o354)])
          refine Go.of (fun _ hr => XS.iload X366.here hx rfl (hb hby at_302) rfl  hr) ?_
          show Go p e s below _ _ _ _ T366 (mkF m 304 (LA38 p1 p2 p3 p4 rp mp q cc o337 o354) [(.int q), (.int (4 : Int32)), (.ref o337), (.int (4 : Int32)), (.ref o354)])
          refine Go.of (fun _ hr => XS.iload X366.here hx rfl (hb hby at_304) rfl  hr) ?_
          show Go p e s below _ _ _ _ T366 (mkF m 306 (LA38 p1 p2 p3 p4 rp mp q cc o337 o354) [(.int cc), (.int q), (.int (4 : Int32)), (.ref o337), (.int (4 : Int32)), (.ref o354)])
          have f368 := (f365.other W366 ne_o337_o354)
          obtain ⟨_, b367, T367, h367, L367, e367, Cc367, X367, B367, J367, g367, hQ367, st367⟩ := own_callS Cc364 B366 J366 X366 (hw _ (List.mem_of_getElem? (i := 2) rfl)) (hw _ (List.mem_of_getElem? (i := 3) rfl)) (hw _ (List.mem_of_getElem? (i := 4) rfl)) (hw _ (List.mem_of_getElem? (i := 5) rfl)) (by decide) (rm1 l Z a0 hw [] o337 _ (4 : Int32) q cc bR _ h366 n0 O366 h0.size (own_ole O0) K366.1 bR_rng (by decide) (by decide) hq_cc f368) e366 (g := (mkF m 306 (LA38 p1 p2 p3 p4 rp mp q cc o337 o354) [(.int cc), (.int q), (.int (4 : Int32)), (.ref o337), (.int (4 : Int32)), (.ref o354)])) rfl (by rw [hml]; rfl) (argsL := [(.ref o337), (.int (4 : Int32)), (.int q), (.int cc)]) (rest := [(.int (4 : Int32)), (.ref o354)]) (lenOf pd7 rfl) rfl (W := 2) (by show 2 * 0 + _ ≤ _; exact Nat.le_of_eq rfl) (hb hby at_306) (by decide) (by decide) (by decide) (by decide)
          obtain ⟨rfl, Nq367, hh367⟩ := hQ367
          have N367 := Fr.app N366 Nq367
          obtain ⟨hx, hZ, hown, hby, hml, hnm, hret, hlk⟩ := id Cc367
          rw [hh367] at e367 B367 J367
          refine Go.of st367 ?_
          show Go p e s below _ _ _ _ T367 (mkF m 309 (LA38 p1 p2 p3 p4 rp mp q cc o337 o354) [(.int (atV bR (4 : Int32) q cc)), (.int (4 : Int32)), (.ref o354)])
          obtain ⟨cl369, Ar369, q369, S369, N369_, H369, G369⟩ := id V366
          have hin369 : ¬ ((4 : Int32) < 0 ∨ cl369.slots.size ≤ ((4 : Int32)).toNatClampNeg) := inb_of S369 ⟨by decide, by decide⟩
          obtain ⟨T369, h369, X369, e369, W369, st369⟩ := stC X367 hx hZ e367 Ar369 (j := (4 : Int32)) hin369 (g := (mkF m 309 (LA38 p1 p2 p3 p4 rp mp q cc o337 o354) [(.int (atV bR (4 : Int32) q cc)), (.int (4 : Int32)), (.ref o354)])) rfl rfl (hb hby at_309)
          rw [nar_c (atV_rng bR_rng (by decide) (by decide) hq_cc).1 (le255 (atV_rng bR_rng (by decide) (by decide) hq_cc).2)] at W369
          have V369 : Arv Z h369 o354 k354 .char (15 : Int32) ((outL bR 5 q cc).map Value.int) (.int 0) := outL_push bR 4 q cc ▸ own_push V366 W369 (by rw [List.length_map, outL_len]; decide) (fits_c (atV_rng bR_rng (by decide) (by decide) hq_cc).1 (le255 (atV_rng bR_rng (by decide) (by decide) hq_cc).2))
          have N369 := Fr.snoc X369 N367 fr354
          have J369 := J367.wr W369 (List.mem_cons_self ..)
          have B369 := B367.mono (Nat.le_of_eq W369.size.symm)
          have O369 := O366.wr W369 (Nat.le_trans (own_ole O0) fr354)
          have K369 := K366.wr W369 (Or.inr sz354)
          refine Go.of (fun _ hr => st369 _ hr) ?_
          show Go p e s below _ _ _ _ T369 (mkF m 310 (LA38 p1 p2 p3 p4 rp mp q cc o337 o354) [])
          refine Go.of (fun _ hr => XS.iload X369.here hx rfl (hb hby at_310) rfl  hr) ?_
          show Go p e s below _ _ _ _ T369 (mkF m 312 (LA38 p1 p2 p3 p4 rp mp q cc o337 o354) [(.int (15 : Int32))])
          refine Go.of (fun _ hr => XS.iconst X369.here hx rfl (hb hby at_312) hr) ?_
          show Go p e s below _ _ _ _ T369 (mkF m 313 (LA38 p1 p2 p3 p4 rp mp q cc o337 o354) [(.int (5 : Int32)), (.int (15 : Int32))])
          refine Go.of (fun _ hr => XS.icmpNo X369.here hx rfl (hb hby at_313) rfl (tlt (by decide : ((5 : Int32) < (15 : Int32)))).2.2.2 hr) ?_
          show Go p e s below _ _ _ _ T369 (mkF m 316 (LA38 p1 p2 p3 p4 rp mp q cc o337 o354) [])
          refine Go.of (fun _ hr => XS.aload X369.here hx rfl (hb hby at_316) rfl rfl hr) ?_
          show Go p e s below _ _ _ _ T369 (mkF m 318 (LA38 p1 p2 p3 p4 rp mp q cc o337 o354) [(.ref o354)])
          refine Go.of (fun _ hr => XS.iconst X369.here hx rfl (hb hby at_318) hr) ?_
          show Go p e s below _ _ _ _ T369 (mkF m 319 (LA38 p1 p2 p3 p4 rp mp q cc o337 o354) [(.int (5 : Int32)), (.ref o354)])
          refine Go.of (fun _ hr => XS.aload X369.here hx rfl (hb hby at_319) rfl rfl hr) ?_
          show Go p e s below _ _ _ _ T369 (mkF m 321 (LA38 p1 p2 p3 p4 rp mp q cc o337 o354) [(.ref o337), (.int (5 : Int32)), (.ref o354)])
          refine Go.of (fun _ hr => XS.iconst X369.here hx rfl (hb hby at_321) hr) ?_
          show Go p e s below _ _ _ _ T369 (mkF m 322 (LA38 p1 p2 p3 p4 rp mp q cc o337 o354) [(.int (5 : Int32)), (.ref o337), (.int (5 : Int32)), (.ref o354)])
          refine Go.of (fun _ hr => XS.iload X369.here hx rfl (hb hby at_322) rfl  hr) ?_
          show Go p e s below _ _ _ _ T369 (mkF m 324 (LA38 p1 p2 p3 p4 rp mp q cc o337 o354) [(.int q), (.int (5 : Int32)), (.ref o337), (.int (5 : Int32)), (.ref o354)])
          refine Go.of (fun _ hr => XS.iload X369.here hx rfl (hb hby at_324) rfl  hr) ?_
          show Go p e s below _ _ _ _ T369 (mkF m 326 (LA38 p1 p2 p3 p4 rp mp q cc o337 o354) [(.int cc), (.int q), (.int (5 : Int32)), (.ref o337), (.int (5 : Int32)), (.ref o354)])
          have f371 := (f368.other W369 ne_o337_o354)
          obtain ⟨_, b370, T370, h370, L370, e370, Cc370, X370, B370, J370, g370, hQ370, st370⟩ := own_callS Cc367 B369 J369 X369 (hw _ (List.mem_of_getElem? (i := 2) rfl)) (hw _ (List.mem_of_getElem? (i := 3) rfl)) (hw _ (List.mem_of_getElem? (i := 4) rfl)) (hw _ (List.mem_of_getElem? (i := 5) rfl)) (by decide) (rm1 l Z a0 hw [] o337 _ (5 : Int32) q cc bR _ h369 n0 O369 h0.size (own_ole O0) K369.1 bR_rng (by decide) (by decide) hq_cc f371) e369 (g := (mkF m 326 (LA38 p1 p2 p3 p4 rp mp q cc o337 o354) [(.int cc), (.int q), (.int (5 : Int32)), (.ref o337), (.int (5 : Int32)), (.ref o354)])) rfl (by rw [hml]; rfl) (argsL := [(.ref o337), (.int (5 : Int32)), (.int q), (.int cc)]) (rest := [(.int (5 : Int32)), (.ref o354)]) (lenOf pd7 rfl) rfl (W := 2) (by show 2 * 0 + _ ≤ _; exact Nat.le_of_eq rfl) (hb hby at_326) (by decide) (by decide) (by decide) (by decide)
          obtain ⟨rfl, Nq370, hh370⟩ := hQ370
          have N370 := Fr.app N369 Nq370
          obtain ⟨hx, hZ, hown, hby, hml, hnm, hret, hlk⟩ := id Cc370
          rw [hh370] at e370 B370 J370
          refine Go.of st370 ?_
          show Go p e s below _ _ _ _ T370 (mkF m 329 (LA38 p1 p2 p3 p4 rp mp q cc o337 o354) [(.int (atV bR (5 : Int32) q cc)), (.int (5 : Int32)), (.ref o354)])
          obtain ⟨cl372, Ar372, q372, S372, N372_, H372, G372⟩ := id V369
          have hin372 : ¬ ((5 : Int32) < 0 ∨ cl372.slots.size ≤ ((5 : Int32)).toNatClampNeg) := inb_of S372 ⟨by decide, by decide⟩
          obtain ⟨T372, h372, X372, e372, W372, st372⟩ := stC X370 hx hZ e370 Ar372 (j := (5 : Int32)) hin372 (g := (mkF m 329 (LA38 p1 p2 p3 p4 rp mp q cc o337 o354) [(.int (atV bR (5 : Int32) q cc)), (.int (5 : Int32)), (.ref o354)])) rfl rfl (hb hby at_329)
          rw [nar_c (atV_rng bR_rng (by decide) (by decide) hq_cc).1 (le255 (atV_rng bR_rng (by decide) (by decide) hq_cc).2)] at W372
          have V372 : Arv Z h372 o354 k354 .char (15 : Int32) ((outL bR 6 q cc).map Value.int) (.int 0) := outL_push bR 5 q cc ▸ own_push V369 W372 (by rw [List.length_map, outL_len]; decide) (fits_c (atV_rng bR_rng (by decide) (by decide) hq_cc).1 (le255 (atV_rng bR_rng (by decide) (by decide) hq_cc).2))
          have N372 := Fr.snoc X372 N370 fr354
          have J372 := J370.wr W372 (List.mem_cons_self ..)
          have B372 := B370.mono (Nat.le_of_eq W372.size.symm)
          have O372 := O369.wr W372 (Nat.le_trans (own_ole O0) fr354)
          have K372 := K369.wr W372 (Or.inr sz354)
          refine Go.of (fun _ hr => st372 _ hr) ?_
          show Go p e s below _ _ _ _ T372 (mkF m 330 (LA38 p1 p2 p3 p4 rp mp q cc o337 o354) [])
          refine Go.of (fun _ hr => XS.iload X372.here hx rfl (hb hby at_330) rfl  hr) ?_
          show Go p e s below _ _ _ _ T372 (mkF m 332 (LA38 p1 p2 p3 p4 rp mp q cc o337 o354) [(.int (15 : Int32))])
          refine Go.of (fun _ hr => XS.bipush X372.here hx rfl (hb hby at_332) hr) ?_
          show Go p e s below _ _ _ _ T372 (mkF m 334 (LA38 p1 p2 p3 p4 rp mp q cc o337 o354) [(.int (6 : Int32)), (.int (15 : Int32))])
          refine Go.of (fun _ hr => XS.icmpNo X372.here hx rfl (hb hby at_334) rfl (tlt (by decide : ((6 : Int32) < (15 : Int32)))).2.2.2 hr) ?_
          show Go p e s below _ _ _ _ T372 (mkF m 337 (LA38 p1 p2 p3 p4 rp mp q cc o337 o354) [])
          refine Go.of (fun _ hr => XS.aload X372.here hx rfl (hb hby at_337) rfl rfl hr) ?_
          show Go p e s below _ _ _ _ T372 (mkF m 339 (LA38 p1 p2 p3 p4 rp mp q cc o337 o354) [(.ref o354)])
          refine Go.of (fun _ hr => XS.bipush X372.here hx rfl (hb hby at_339) hr) ?_
          show Go p e s below _ _ _ _ T372 (mkF m 341 (LA38 p1 p2 p3 p4 rp mp q cc o337 o354) [(.int (6 : Int32)), (.ref o354)])
          refine Go.of (fun _ hr => XS.aload X372.here hx rfl (hb hby at_341) rfl rfl hr) ?_
          show Go p e s below _ _ _ _ T372 (mkF m 343 (LA38 p1 p2 p3 p4 rp mp q cc o337 o354) [(.ref o337), (.int (6 : Int32)), (.ref o354)])
          refine Go.of (fun _ hr => XS.bipush X372.here hx rfl (hb hby at_343) hr) ?_
          show Go p e s below _ _ _ _ T372 (mkF m 345 (LA38 p1 p2 p3 p4 rp mp q cc o337 o354) [(.int (6 : Int32)), (.ref o337), (.int (6 : Int32)), (.ref o354)])
          refine Go.of (fun _ hr => XS.iload X372.here hx rfl (hb hby at_345) rfl  hr) ?_
          show Go p e s below _ _ _ _ T372 (mkF m 347 (LA38 p1 p2 p3 p4 rp mp q cc o337 o354) [(.int q), (.int (6 : Int32)), (.ref o337), (.int (6 : Int32)), (.ref o354)])
          refine Go.of (fun _ hr => XS.iload X372.here hx rfl (hb hby at_347) rfl  hr) ?_
          show Go p e s below _ _ _ _ T372 (mkF m 349 (LA38 p1 p2 p3 p4 rp mp q cc o337 o354) [(.int cc), (.int q), (.int (6 : Int32)), (.ref o337), (.int (6 : Int32)), (.ref o354)])
          have f374 := (f371.other W372 ne_o337_o354)
          obtain ⟨_, b373, T373, h373, L373, e373, Cc373, X373, B373, J373, g373, hQ373, st373⟩ := own_callS Cc370 B372 J372 X372 (hw _ (List.mem_of_getElem? (i := 2) rfl)) (hw _ (List.mem_of_getElem? (i := 3) rfl)) (hw _ (List.mem_of_getElem? (i := 4) rfl)) (hw _ (List.mem_of_getElem? (i := 5) rfl)) (by decide) (rm1 l Z a0 hw [] o337 _ (6 : Int32) q cc bR _ h372 n0 O372 h0.size (own_ole O0) K372.1 bR_rng (by decide) (by decide) hq_cc f374) e372 (g := (mkF m 349 (LA38 p1 p2 p3 p4 rp mp q cc o337 o354) [(.int cc), (.int q), (.int (6 : Int32)), (.ref o337), (.int (6 : Int32)), (.ref o354)])) rfl (by rw [hml]; rfl) (argsL := [(.ref o337), (.int (6 : Int32)), (.int q), (.int cc)]) (rest := [(.int (6 : Int32)), (.ref o354)]) (lenOf pd7 rfl) rfl (W := 2) (by show 2 * 0 + _ ≤ _; exact Nat.le_of_eq rfl) (hb hby at_349) (by decide) (by decide) (by decide) (by decide)
          obtain ⟨rfl, Nq373, hh373⟩ := hQ373
          have N373 := Fr.app N372 Nq373
          obtain ⟨hx, hZ, hown, hby, hml, hnm, hret, hlk⟩ := id Cc373
          rw [hh373] at e373 B373 J373
          refine Go.of st373 ?_
          show Go p e s below _ _ _ _ T373 (mkF m 352 (LA38 p1 p2 p3 p4 rp mp q cc o337 o354) [(.int (atV bR (6 : Int32) q cc)), (.int (6 : Int32)), (.ref o354)])
          obtain ⟨cl375, Ar375, q375, S375, N375_, H375, G375⟩ := id V372
          have hin375 : ¬ ((6 : Int32) < 0 ∨ cl375.slots.size ≤ ((6 : Int32)).toNatClampNeg) := inb_of S375 ⟨by decide, by decide⟩
          obtain ⟨T375, h375, X375, e375, W375, st375⟩ := stC X373 hx hZ e373 Ar375 (j := (6 : Int32)) hin375 (g := (mkF m 352 (LA38 p1 p2 p3 p4 rp mp q cc o337 o354) [(.int (atV bR (6 : Int32) q cc)), (.int (6 : Int32)), (.ref o354)])) rfl rfl (hb hby at_352)
          rw [nar_c (atV_rng bR_rng (by decide) (by decide) hq_cc).1 (le255 (atV_rng bR_rng (by decide) (by decide) hq_cc).2)] at W375
          have V375 : Arv Z h375 o354 k354 .char (15 : Int32) ((outL bR 7 q cc).map Value.int) (.int 0) := outL_push bR 6 q cc ▸ own_push V372 W375 (by rw [List.length_map, outL_len]; decide) (fits_c (atV_rng bR_rng (by decide) (by decide) hq_cc).1 (le255 (atV_rng bR_rng (by decide) (by decide) hq_cc).2))
          have N375 := Fr.snoc X375 N373 fr354
          have J375 := J373.wr W375 (List.mem_cons_self ..)
          have B375 := B373.mono (Nat.le_of_eq W375.size.symm)
          have O375 := O372.wr W375 (Nat.le_trans (own_ole O0) fr354)
          have K375 := K372.wr W375 (Or.inr sz354)
          refine Go.of (fun _ hr => st375 _ hr) ?_
          show Go p e s below _ _ _ _ T375 (mkF m 353 (LA38 p1 p2 p3 p4 rp mp q cc o337 o354) [])
          refine Go.of (fun _ hr => XS.iload X375.here hx rfl (hb hby at_353) rfl  hr) ?_
          show Go p e s below _ _ _ _ T375 (mkF m 355 (LA38 p1 p2 p3 p4 rp mp q cc o337 o354) [(.int (15 : Int32))])
          refine Go.of (fun _ hr => XS.bipush X375.here hx rfl (hb hby at_355) hr) ?_
          show Go p e s below _ _ _ _ T375 (mkF m 357 (LA38 p1 p2 p3 p4 rp mp q cc o337 o354) [(.int (7 : Int32)), (.int (15 : Int32))])
          refine Go.of (fun _ hr => XS.icmpNo X375.here hx rfl (hb hby at_357) rfl (tlt (by decide : ((7 : Int32) < (15 : Int32)))).2.2.2 hr) ?_
          show Go p e s below _ _ _ _ T375 (mkF m 360 (LA38 p1 p2 p3 p4 rp mp q cc o337 o354) [])
          refine Go.of (fun _ hr => XS.aload X375.here hx rfl (hb hby at_360) rfl rfl hr) ?_
          show Go p e s below _ _ _ _ T375 (mkF m 362 (LA38 p1 p2 p3 p4 rp mp q cc o337 o354) [(.ref o354)])
          refine Go.of (fun _ hr => XS.bipush X375.here hx rfl (hb hby at_362) hr) ?_
          show Go p e s below _ _ _ _ T375 (mkF m 364 (LA38 p1 p2 p3 p4 rp mp q cc o337 o354) [(.int (7 : Int32)), (.ref o354)])
          refine Go.of (fun _ hr => XS.aload X375.here hx rfl (hb hby at_364) rfl rfl hr) ?_
          show Go p e s below _ _ _ _ T375 (mkF m 366 (LA38 p1 p2 p3 p4 rp mp q cc o337 o354) [(.ref o337), (.int (7 : Int32)), (.ref o354)])
          refine Go.of (fun _ hr => XS.bipush X375.here hx rfl (hb hby at_366) hr) ?_
          show Go p e s below _ _ _ _ T375 (mkF m 368 (LA38 p1 p2 p3 p4 rp mp q cc o337 o354) [(.int (7 : Int32)), (.ref o337), (.int (7 : Int32)), (.ref o354)])
          refine Go.of (fun _ hr => XS.iload X375.here hx rfl (hb hby at_368) rfl  hr) ?_
          show Go p e s below _ _ _ _ T375 (mkF m 370 (LA38 p1 p2 p3 p4 rp mp q cc o337 o354) [(.int q), (.int (7 : Int32)), (.ref o337), (.int (7 : Int32)), (.ref o354)])
          refine Go.of (fun _ hr => XS.iload X375.here hx rfl (hb hby at_370) rfl  hr) ?_
          show Go p e s below _ _ _ _ T375 (mkF m 372 (LA38 p1 p2 p3 p4 rp mp q cc o337 o354) [(.int cc), (.int q), (.int (7 : Int32)), (.ref o337), (.int (7 : Int32)), (.ref o354)])
          have f377 := (f374.other W375 ne_o337_o354)
          obtain ⟨_, b376, T376, h376, L376, e376, Cc376, X376, B376, J376, g376, hQ376, st376⟩ := own_callS Cc373 B375 J375 X375 (hw _ (List.mem_of_getElem? (i := 2) rfl)) (hw _ (List.mem_of_getElem? (i := 3) rfl)) (hw _ (List.mem_of_getElem? (i := 4) rfl)) (hw _ (List.mem_of_getElem? (i := 5) rfl)) (by decide) (rm1 l Z a0 hw [] o337 _ (7 : Int32) q cc bR _ h375 n0 O375 h0.size (own_ole O0) K375.1 bR_rng (by decide) (by decide) hq_cc f377) e375 (g := (mkF m 372 (LA38 p1 p2 p3 p4 rp mp q cc o337 o354) [(.int cc), (.int q), (.int (7 : Int32)), (.ref o337), (.int (7 : Int32)), (.ref o354)])) rfl (by rw [hml]; rfl) (argsL := [(.ref o337), (.int (7 : Int32)), (.int q), (.int cc)]) (rest := [(.int (7 : Int32)), (.ref o354)]) (lenOf pd7 rfl) rfl (W := 2) (by show 2 * 0 + _ ≤ _; exact Nat.le_of_eq rfl) (hb hby at_372) (by decide) (by decide) (by decide) (by decide)
          obtain ⟨rfl, Nq376, hh376⟩ := hQ376
          have N376 := Fr.app N375 Nq376
          obtain ⟨hx, hZ, hown, hby, hml, hnm, hret, hlk⟩ := id Cc376
          rw [hh376] at e376 B376 J376
          refine Go.of st376 ?_
          show Go p e s below _ _ _ _ T376 (mkF m 375 (LA38 p1 p2 p3 p4 rp mp q cc o337 o354) [(.int (atV bR (7 : Int32) q cc)), (.int (7 : Int32)), (.ref o354)])
          obtain ⟨cl378, Ar378, q378, S378, N378_, H378, G378⟩ := id V375
          have hin378 : ¬ ((7 : Int32) < 0 ∨ cl378.slots.size ≤ ((7 : Int32)).toNatClampNeg) := inb_of S378 ⟨by decide, by decide⟩
          obtain ⟨T378, h378, X378, e378, W378, st378⟩ := stC X376 hx hZ e376 Ar378 (j := (7 : Int32)) hin378 (g := (mkF m 375 (LA38 p1 p2 p3 p4 rp mp q cc o337 o354) [(.int (atV bR (7 : Int32) q cc)), (.int (7 : Int32)), (.ref o354)])) rfl rfl (hb hby at_375)
          rw [nar_c (atV_rng bR_rng (by decide) (by decide) hq_cc).1 (le255 (atV_rng bR_rng (by decide) (by decide) hq_cc).2)] at W378
          have V378 : Arv Z h378 o354 k354 .char (15 : Int32) ((outL bR 8 q cc).map Value.int) (.int 0) := outL_push bR 7 q cc ▸ own_push V375 W378 (by rw [List.length_map, outL_len]; decide) (fits_c (atV_rng bR_rng (by decide) (by decide) hq_cc).1 (le255 (atV_rng bR_rng (by decide) (by decide) hq_cc).2))
          have N378 := Fr.snoc X378 N376 fr354
          have J378 := J376.wr W378 (List.mem_cons_self ..)
          have B378 := B376.mono (Nat.le_of_eq W378.size.symm)
          have O378 := O375.wr W378 (Nat.le_trans (own_ole O0) fr354)
          have K378 := K375.wr W378 (Or.inr sz354)
          refine Go.of (fun _ hr => st378 _ hr) ?_
          show Go p e s below _ _ _ _ T378 (mkF m 376 (LA38 p1 p2 p3 p4 rp mp q cc o337 o354) [])
          refine Go.of (fun _ hr => XS.iload X378.here hx rfl (hb hby at_376) rfl  hr) ?_
          show Go p e s below _ _ _ _ T378 (mkF m 378 (LA38 p1 p2 p3 p4 rp mp q cc o337 o354) [(.int (15 : Int32))])
          refine Go.of (fun _ hr => XS.bipush X378.here hx rfl (hb hby at_378) hr) ?_
          show Go p e s below _ _ _ _ T378 (mkF m 380 (LA38 p1 p2 p3 p4 rp mp q cc o337 o354) [(.int (8 : Int32)), (.int (15 : Int32))])
          refine Go.of (fun _ hr => XS.icmpNo X378.here hx rfl (hb hby at_380) rfl (tlt (by decide : ((8 : Int32) < (15 : Int32)))).2.2.2 hr) ?_
          show Go p e s below _ _ _ _ T378 (mkF m 383 (LA38 p1 p2 p3 p4 rp mp q cc o337 o354) [])
          refine Go.of (fun _ hr => XS.aload X378.here hx rfl (hb hby at_383) rfl rfl hr) ?_
          show Go p e s below _ _ _ _ T378 (mkF m 385 (LA38 p1 p2 p3 p4 rp mp q cc o337 o354) [(.ref o354)])
          refine Go.of (fun _ hr => XS.bipush X378.here hx rfl (hb hby at_385) hr) ?_
          show Go p e s below _ _ _ _ T378 (mkF m 387 (LA38 p1 p2 p3 p4 rp mp q cc o337 o354) [(.int (8 : Int32)), (.ref o354)])
          refine Go.of (fun _ hr => XS.aload X378.here hx rfl (hb hby at_387) rfl rfl hr) ?_
          show Go p e s below _ _ _ _ T378 (mkF m 389 (LA38 p1 p2 p3 p4 rp mp q cc o337 o354) [(.ref o337), (.int (8 : Int32)), (.ref o354)])
          refine Go.of (fun _ hr => XS.bipush X378.here hx rfl (hb hby at_389) hr) ?_
          show Go p e s below _ _ _ _ T378 (mkF m 391 (LA38 p1 p2 p3 p4 rp mp q cc o337 o354) [(.int (8 : Int32)), (.ref o337), (.int (8 : Int32)), (.ref o354)])
          refine Go.of (fun _ hr => XS.iload X378.here hx rfl (hb hby at_391) rfl  hr) ?_
          show Go p e s below _ _ _ _ T378 (mkF m 393 (LA38 p1 p2 p3 p4 rp mp q cc o337 o354) [(.int q), (.int (8 : Int32)), (.ref o337), (.int (8 : Int32)), (.ref o354)])
          refine Go.of (fun _ hr => XS.iload X378.here hx rfl (hb hby at_393) rfl  hr) ?_
          show Go p e s below _ _ _ _ T378 (mkF m 395 (LA38 p1 p2 p3 p4 rp mp q cc o337 o354) [(.int cc), (.int q), (.int (8 : Int32)), (.ref o337), (.int (8 : Int32)), (.ref o354)])
          have f380 := (f377.other W378 ne_o337_o354)
          obtain ⟨_, b379, T379, h379, L379, e379, Cc379, X379, B379, J379, g379, hQ379, st379⟩ := own_callS Cc376 B378 J378 X378 (hw _ (List.mem_of_getElem? (i := 2) rfl)) (hw _ (List.mem_of_getElem? (i := 3) rfl)) (hw _ (List.mem_of_getElem? (i := 4) rfl)) (hw _ (List.mem_of_getElem? (i := 5) rfl)) (by decide) (rm1 l Z a0 hw [] o337 _ (8 : Int32) q cc bR _ h378 n0 O378 h0.size (own_ole O0) K378.1 bR_rng (by decide) (by decide) hq_cc f380) e378 (g := (mkF m 395 (LA38 p1 p2 p3 p4 rp mp q cc o337 o354) [(.int cc), (.int q), (.int (8 : Int32)), (.ref o337), (.int (8 : Int32)), (.ref o354)])) rfl (by rw [hml]; rfl) (argsL := [(.ref o337), (.int (8 : Int32)), (.int q), (.int cc)]) (rest := [(.int (8 : Int32)), (.ref o354)]) (lenOf pd7 rfl) rfl (W := 2) (by show 2 * 0 + _ ≤ _; exact Nat.le_of_eq rfl) (hb hby at_395) (by decide) (by decide) (by decide) (by decide)
          obtain ⟨rfl, Nq379, hh379⟩ := hQ379
          have N379 := Fr.app N378 Nq379
          obtain ⟨hx, hZ, hown, hby, hml, hnm, hret, hlk⟩ := id Cc379
          rw [hh379] at e379 B379 J379
          refine Go.of st379 ?_
          show Go p e s below _ _ _ _ T379 (mkF m 398 (LA38 p1 p2 p3 p4 rp mp q cc o337 o354) [(.int (atV bR (8 : Int32) q cc)), (.int (8 : Int32)), (.ref o354)])
          obtain ⟨cl381, Ar381, q381, S381, N381_, H381, G381⟩ := id V378
          have hin381 : ¬ ((8 : Int32) < 0 ∨ cl381.slots.size ≤ ((8 : Int32)).toNatClampNeg) := inb_of S381 ⟨by decide, by decide⟩
          obtain ⟨T381, h381, X381, e381, W381, st381⟩ := stC X379 hx hZ e379 Ar381 (j := (8 : Int32)) hin381 (g := (mkF m 398 (LA38 p1 p2 p3 p4 rp mp q cc o337 o354) [(.int (atV bR (8 : Int32) q cc)), (.int (8 : Int32)), (.ref o354)])) rfl rfl (hb hby at_398)
          rw [nar_c (atV_rng bR_rng (by decide) (by decide) hq_cc).1 (le255 (atV_rng bR_rng (by decide) (by decide) hq_cc).2)] at W381
          have V381 : Arv Z h381 o354 k354 .char (15 : Int32) ((outL bR 9 q cc).map Value.int) (.int 0) := outL_push bR 8 q cc ▸ own_push V378 W381 (by rw [List.length_map, outL_len]; decide) (fits_c (atV_rng bR_rng (by decide) (by decide) hq_cc).1 (le255 (atV_rng bR_rng (by decide) (by decide) hq_cc).2))
          have N381 := Fr.snoc X381 N379 fr354
          have J381 := J379.wr W381 (List.mem_cons_self ..)
          have B381 := B379.mono (Nat.le_of_eq W381.size.symm)
          have O381 := O378.wr W381 (Nat.le_trans (own_ole O0) fr354)
          have K381 := K378.wr W381 (Or.inr sz354)
          refine Go.of (fun _ hr => st381 _ hr) ?_
          show Go p e s below _ _ _ _ T381 (mkF m 399 (LA38 p1 p2 p3 p4 rp mp q cc o337 o354) [])
          refine Go.of (fun _ hr => XS.iload X381.here hx rfl (hb hby at_399) rfl  hr) ?_
          show Go p e s below _ _ _ _ T381 (mkF m 401 (LA38 p1 p2 p3 p4 rp mp q cc o337 o354) [(.int (15 : Int32))])
          refine Go.of (fun _ hr => XS.bipush X381.here hx rfl (hb hby at_401) hr) ?_
          show Go p e s below _ _ _ _ T381 (mkF m 403 (LA38 p1 p2 p3 p4 rp mp q cc o337 o354) [(.int (9 : Int32)), (.int (15 : Int32))])
          refine Go.of (fun _ hr => XS.icmpNo X381.here hx rfl (hb hby at_403) rfl (tlt (by decide : ((9 : Int32) < (15 : Int32)))).2.2.2 hr) ?_
          show Go p e s below _ _ _ _ T381 (mkF m 406 (LA38 p1 p2 p3 p4 rp mp q cc o337 o354) [])
          refine Go.of (fun _ hr => XS.aload X381.here hx rfl (hb hby at_406) rfl rfl hr) ?_
          show Go p e s below _ _ _ _ T381 (mkF m 408 (LA38 p1 p2 p3 p4 rp mp q cc o337 o354) [(.ref o354)])
          refine Go.of (fun _ hr => XS.bipush X381.here hx rfl (hb hby at_408) hr) ?_
          show Go p e s below _ _ _ _ T381 (mkF m 410 (LA38 p1 p2 p3 p4 rp mp q cc o337 o354) [(.int (9 : Int32)), (.ref o354)])
          refine Go.of (fun _ hr => XS.aload X381.here hx rfl (hb hby at_410) rfl rfl hr) ?_
          show Go p e s below _ _ _ _ T381 (mkF m 412 (LA38 p1 p2 p3 p4 rp mp q cc o337 o354) [(.ref o337), (.int (9 : Int32)), (.ref o354)])
          refine Go.of (fun _ hr => XS.bipush X381.here hx rfl (hb hby at_412) hr) ?_
          show Go p e s below _ _ _ _ T381 (mkF m 414 (LA38 p1 p2 p3 p4 rp mp q cc o337 o354) [(.int (9 : Int32)), (.ref o337), (.int (9 : Int32)), (.ref o354)])
          refine Go.of (fun _ hr => XS.iload X381.here hx rfl (hb hby at_414) rfl  hr) ?_
          show Go p e s below _ _ _ _ T381 (mkF m 416 (LA38 p1 p2 p3 p4 rp mp q cc o337 o354) [(.int q), (.int (9 : Int32)), (.ref o337), (.int (9 : Int32)), (.ref o354)])
          refine Go.of (fun _ hr => XS.iload X381.here hx rfl (hb hby at_416) rfl  hr) ?_
          show Go p e s below _ _ _ _ T381 (mkF m 418 (LA38 p1 p2 p3 p4 rp mp q cc o337 o354) [(.int cc), (.int q), (.int (9 : Int32)), (.ref o337), (.int (9 : Int32)), (.ref o354)])
          have f383 := (f380.other W381 ne_o337_o354)
          obtain ⟨_, b382, T382, h382, L382, e382, Cc382, X382, B382, J382, g382, hQ382, st382⟩ := own_callS Cc379 B381 J381 X381 (hw _ (List.mem_of_getElem? (i := 2) rfl)) (hw _ (List.mem_of_getElem? (i := 3) rfl)) (hw _ (List.mem_of_getElem? (i := 4) rfl)) (hw _ (List.mem_of_getElem? (i := 5) rfl)) (by decide) (rm1 l Z a0 hw [] o337 _ (9 : Int32) q cc bR _ h381 n0 O381 h0.size (own_ole O0) K381.1 bR_rng (by decide) (by decide) hq_cc f383) e381 (g := (mkF m 418 (LA38 p1 p2 p3 p4 rp mp q cc o337 o354) [(.int cc), (.int q), (.int (9 : Int32)), (.ref o337), (.int (9 : Int32)), (.ref o354)])) rfl (by rw [hml]; rfl) (argsL := [(.ref o337), (.int (9 : Int32)), (.int q), (.int cc)]) (rest := [(.int (9 : Int32)), (.ref o354)]) (lenOf pd7 rfl) rfl (W := 2) (by show 2 * 0 + _ ≤ _; exact Nat.le_of_eq rfl) (hb hby at_418) (by decide) (by decide) (by decide) (by decide)
          obtain ⟨rfl, Nq382, hh382⟩ := hQ382
          have N382 := Fr.app N381 Nq382
          obtain ⟨hx, hZ, hown, hby, hml, hnm, hret, hlk⟩ := id Cc382
          rw [hh382] at e382 B382 J382
          refine Go.of st382 ?_
          show Go p e s below _ _ _ _ T382 (mkF m 421 (LA38 p1 p2 p3 p4 rp mp q cc o337 o354) [(.int (atV bR (9 : Int32) q cc)), (.int (9 : Int32)), (.ref o354)])
          obtain ⟨cl384, Ar384, q384, S384, N384_, H384, G384⟩ := id V381
          have hin384 : ¬ ((9 : Int32) < 0 ∨ cl384.slots.size ≤ ((9 : Int32)).toNatClampNeg) := inb_of S384 ⟨by decide, by decide⟩
          obtain ⟨T384, h384, X384, e384, W384, st384⟩ := stC X382 hx hZ e382 Ar384 (j := (9 : Int32)) hin384 (g := (mkF m 421 (LA38 p1 p2 p3 p4 rp mp q cc o337 o354) [(.int (atV bR (9 : Int32) q cc)), (.int (9 : Int32)), (.ref o354)])) rfl rfl (hb hby at_421)
          rw [nar_c (atV_rng bR_rng (by decide) (by decide) hq_cc).1 (le255 (atV_rng bR_rng (by decide) (by decide) hq_cc).2)] at W384
          have V384 : Arv Z h384 o354 k354 .char (15 : Int32) ((outL bR 10 q cc).map Value.int) (.int 0) := outL_push bR 9 q cc ▸ own_push V381 W384 (by rw [List.length_map, outL_len]; decide) (fits_c (atV_rng bR_rng (by decide) (by decide) hq_cc).1 (le255 (atV_rng bR_rng (by decide) (by decide) hq_cc).2))
          have N384 := Fr.snoc X384 N382 fr354
          have J384 := J382.wr W384 (List.mem_cons_self ..)
          have B384 := B382.mono (Nat.le_of_eq W384.size.symm)
          have O384 := O381.wr W384 (Nat.le_trans (own_ole O0) fr354)
          have K384 := K381.wr W384 (Or.inr sz354)
          refine Go.of (fun _ hr => st384 _ hr) ?_
          show Go p e s below _ _ _ _ T384 (mkF m 422 (LA38 p1 p2 p3 p4 rp mp q cc o337 o354) [])
          refine Go.of (fun _ hr => XS.iload X384.here hx rfl (hb hby at_422) rfl  hr) ?_
          show Go p e s below _ _ _ _ T384 (mkF m 424 (LA38 p1 p2 p3 p4 rp mp q cc o337 o354) [(.int (15 : Int32))])
          refine Go.of (fun _ hr => XS.bipush X384.here hx rfl (hb hby at_424) hr) ?_
          show Go p e s below _ _ _ _ T384 (mkF m 426 (LA38 p1 p2 p3 p4 rp mp q cc o337 o354) [(.int (10 : Int32)), (.int (15 : Int32))])
          refine Go.of (fun _ hr => XS.icmpNo X384.here hx rfl (hb hby at_426) rfl (tlt (by decide : ((10 : Int32) < (15 : Int32)))).2.2.2 hr) ?_
          show Go p e s below _ _ _ _ T384 (mkF m 429 (LA38 p1 p2 p3 p4 rp mp q cc o337 o354) [])
          refine Go.of (fun _ hr => XS.aload X384.here hx rfl (hb hby at_429) rfl rfl hr) ?_
          show Go p e s below _ _ _ _ T384 (mkF m 431 (LA38 p1 p2 p3 p4 rp mp q cc o337 o354) [(.ref o354)])
          refine Go.of (fun _ hr => XS.bipush X384.here hx rfl (hb hby at_431) hr) ?_
          show Go p e s below _ _ _ _ T384 (mkF m 433 (LA38 p1 p2 p3 p4 rp mp q cc o337 o354) [(.int (10 : Int32)), (.ref o354)])
          refine Go.of (fun _ hr => XS.aload X384.here hx rfl (hb hby at_433) rfl rfl hr) ?_
          show Go p e s below _ _ _ _ T384 (mkF m 435 (LA38 p1 p2 p3 p4 rp mp q cc o337 o354) [(.ref o337), (.int (10 : Int32)), (.ref o354)])
          refine Go.of (fun _ hr => XS.bipush X384.here hx rfl (hb hby at_435) hr) ?_
          show Go p e s below _ _ _ _ T384 (mkF m 437 (LA38 p1 p2 p3 p4 rp mp q cc o337 o354) [(.int (10 : Int32)), (.ref o337), (.int (10 : Int32)), (.ref o354)])
          refine Go.of (fun _ hr => XS.iload X384.here hx rfl (hb hby at_437) rfl  hr) ?_
          show Go p e s below _ _ _ _ T384 (mkF m 439 (LA38 p1 p2 p3 p4 rp mp q cc o337 o354) [(.int q), (.int (10 : Int32)), (.ref o337), (.int (10 : Int32)), (.ref o354)])
          refine Go.of (fun _ hr => XS.iload X384.here hx rfl (hb hby at_439) rfl  hr) ?_
          show Go p e s below _ _ _ _ T384 (mkF m 441 (LA38 p1 p2 p3 p4 rp mp q cc o337 o354) [(.int cc), (.int q), (.int (10 : Int32)), (.ref o337), (.int (10 : Int32)), (.ref o354)])
          have f386 := (f383.other W384 ne_o337_o354)
          obtain ⟨_, b385, T385, h385, L385, e385, Cc385, X385, B385, J385, g385, hQ385, st385⟩ := own_callS Cc382 B384 J384 X384 (hw _ (List.mem_of_getElem? (i := 2) rfl)) (hw _ (List.mem_of_getElem? (i := 3) rfl)) (hw _ (List.mem_of_getElem? (i := 4) rfl)) (hw _ (List.mem_of_getElem? (i := 5) rfl)) (by decide) (rm1 l Z a0 hw [] o337 _ (10 : Int32) q cc bR _ h384 n0 O384 h0.size (own_ole O0) K384.1 bR_rng (by decide) (by decide) hq_cc f386) e384 (g := (mkF m 441 (LA38 p1 p2 p3 p4 rp mp q cc o337 o354) [(.int cc), (.int q), (.int (10 : Int32)), (.ref o337), (.int (10 : Int32)), (.ref o354)])) rfl (by rw [hml]; rfl) (argsL := [(.ref o337), (.int (10 : Int32)), (.int q), (.int cc)]) (rest := [(.int (10 : Int32)), (.ref o354)]) (lenOf pd7 rfl) rfl (W := 2) (by show 2 * 0 + _ ≤ _; exact Nat.le_of_eq rfl) (hb hby at_441) (by decide) (by decide) (by decide) (by decide)
          obtain ⟨rfl, Nq385, hh385⟩ := hQ385
          have N385 := Fr.app N384 Nq385
          obtain ⟨hx, hZ, hown, hby, hml, hnm, hret, hlk⟩ := id Cc385
          rw [hh385] at e385 B385 J385
          refine Go.of st385 ?_
          show Go p e s below _ _ _ _ T385 (mkF m 444 (LA38 p1 p2 p3 p4 rp mp q cc o337 o354) [(.int (atV bR (10 : Int32) q cc)), (.int (10 : Int32)), (.ref o354)])
          obtain ⟨cl387, Ar387, q387, S387, N387_, H387, G387⟩ := id V384
          have hin387 : ¬ ((10 : Int32) < 0 ∨ cl387.slots.size ≤ ((10 : Int32)).toNatClampNeg) := inb_of S387 ⟨by decide, by decide⟩
          obtain ⟨T387, h387, X387, e387, W387, st387⟩ := stC X385 hx hZ e385 Ar387 (j := (10 : Int32)) hin387 (g := (mkF m 444 (LA38 p1 p2 p3 p4 rp mp q cc o337 o354) [(.int (atV bR (10 : Int32) q cc)), (.int (10 : Int32)), (.ref o354)])) rfl rfl (hb hby at_444)
          rw [nar_c (atV_rng bR_rng (by decide) (by decide) hq_cc).1 (le255 (atV_rng bR_rng (by decide) (by decide) hq_cc).2)] at W387
          have V387 : Arv Z h387 o354 k354 .char (15 : Int32) ((outL bR 11 q cc).map Value.int) (.int 0) := outL_push bR 10 q cc ▸ own_push V384 W387 (by rw [List.length_map, outL_len]; decide) (fits_c (atV_rng bR_rng (by decide) (by decide) hq_cc).1 (le255 (atV_rng bR_rng (by decide) (by decide) hq_cc).2))
          have N387 := Fr.snoc X387 N385 fr354
          have J387 := J385.wr W387 (List.mem_cons_self ..)
          have B387 := B385.mono (Nat.le_of_eq W387.size.symm)
          have O387 := O384.wr W387 (Nat.le_trans (own_ole O0) fr354)
          have K387 := K384.wr W387 (Or.inr sz354)
          refine Go.of (fun _ hr => st387 _ hr) ?_
          show Go p e s below _ _ _ _ T387 (mkF m 445 (LA38 p1 p2 p3 p4 rp mp q cc o337 o354) [])
          refine Go.of (fun _ hr => XS.iload X387.here hx rfl (hb hby at_445) rfl  hr) ?_
          show Go p e s below _ _ _ _ T387 (mkF m 447 (LA38 p1 p2 p3 p4 rp mp q cc o337 o354) [(.int (15 : Int32))])
          refine Go.of (fun _ hr => XS.bipush X387.here hx rfl (hb hby at_447) hr) ?_
          show Go p e s below _ _ _ _ T387 (mkF m 449 (LA38 p1 p2 p3 p4 rp mp q cc o337 o354) [(.int (11 : Int32)), (.int (15 : Int32))])
          refine Go.of (fun _ hr => XS.icmpNo X387.here hx rfl (hb hby at_449) rfl (tlt (by decide : ((11 : Int32) < (15 : Int32)))).2.2.2 hr) ?_
          show Go p e s below _ _ _ _ T387 (mkF m 452 (LA38 p1 p2 p3 p4 rp mp q cc o337 o354) [])
          refine Go.of (fun _ hr => XS.aload X387.here hx rfl (hb hby at_452) rfl rfl hr) ?_
          show Go p e s below _ _ _ _ T387 (mkF m 454 (LA38 p1 p2 p3 p4 rp mp q cc o337 o354) [(.ref o354)])
          refine Go.of (fun _ hr => XS.bipush X387.here hx rfl (hb hby at_454) hr) ?_
          show Go p e s below _ _ _ _ T387 (mkF m 456 (LA38 p1 p2 p3 p4 rp mp q cc o337 o354) [(.int (11 : Int32)), (.ref o354)])
          refine Go.of (fun _ hr => XS.aload X387.here hx rfl (hb hby at_456) rfl rfl hr) ?_
          show Go p e s below _ _ _ _ T387 (mkF m 458 (LA38 p1 p2 p3 p4 rp mp q cc o337 o354) [(.ref o337), (.int (11 : Int32)), (.ref o354)])
          refine Go.of (fun _ hr => XS.bipush X387.here hx rfl (hb hby at_458) hr) ?_
          show Go p e s below _ _ _ _ T387 (mkF m 460 (LA38 p1 p2 p3 p4 rp mp q cc o337 o354) [(.int (11 : Int32)), (.ref o337), (.int (11 : Int32)), (.ref o354)])
          refine Go.of (fun _ hr => XS.iload X387.here hx rfl (hb hby at_460) rfl  hr) ?_
          show Go p e s below _ _ _ _ T387 (mkF m 462 (LA38 p1 p2 p3 p4 rp mp q cc o337 o354) [(.int q), (.int (11 : Int32)), (.ref o337), (.int (11 : Int32)), (.ref o354)])
          refine Go.of (fun _ hr => XS.iload X387.here hx rfl (hb hby at_462) rfl  hr) ?_
          show Go p e s below _ _ _ _ T387 (mkF m 464 (LA38 p1 p2 p3 p4 rp mp q cc o337 o354) [(.int cc), (.int q), (.int (11 : Int32)), (.ref o337), (.int (11 : Int32)), (.ref o354)])
          have f389 := (f386.other W387 ne_o337_o354)
          obtain ⟨_, b388, T388, h388, L388, e388, Cc388, X388, B388, J388, g388, hQ388, st388⟩ := own_callS Cc385 B387 J387 X387 (hw _ (List.mem_of_getElem? (i := 2) rfl)) (hw _ (List.mem_of_getElem? (i := 3) rfl)) (hw _ (List.mem_of_getElem? (i := 4) rfl)) (hw _ (List.mem_of_getElem? (i := 5) rfl)) (by decide) (rm1 l Z a0 hw [] o337 _ (11 : Int32) q cc bR _ h387 n0 O387 h0.size (own_ole O0) K387.1 bR_rng (by decide) (by decide) hq_cc f389) e387 (g := (mkF m 464 (LA38 p1 p2 p3 p4 rp mp q cc o337 o354) [(.int cc), (.int q), (.int (11 : Int32)), (.ref o337), (.int (11 : Int32)), (.ref o354)])) rfl (by rw [hml]; rfl) (argsL := [(.ref o337), (.int (11 : Int32)), (.int q), (.int cc)]) (rest := [(.int (11 : Int32)), (.ref o354)]) (lenOf pd7 rfl) rfl (W := 2) (by show 2 * 0 + _ ≤ _; exact Nat.le_of_eq rfl) (hb hby at_464) (by decide) (by decide) (by decide) (by decide)
          obtain ⟨rfl, Nq388, hh388⟩ := hQ388
          have N388 := Fr.app N387 Nq388
          obtain ⟨hx, hZ, hown, hby, hml, hnm, hret, hlk⟩ := id Cc388
          rw [hh388] at e388 B388 J388
          refine Go.of st388 ?_
          show Go p e s below _ _ _ _ T388 (mkF m 467 (LA38 p1 p2 p3 p4 rp mp q cc o337 o354) [(.int (atV bR (11 : Int32) q cc)), (.int (11 : Int32)), (.ref o354)])
          obtain ⟨cl390, Ar390, q390, S390, N390_, H390, G390⟩ := id V387
          have hin390 : ¬ ((11 : Int32) < 0 ∨ cl390.slots.size ≤ ((11 : Int32)).toNatClampNeg) := inb_of S390 ⟨by decide, by decide⟩
          obtain ⟨T390, h390, X390, e390, W390, st390⟩ := stC X388 hx hZ e388 Ar390 (j := (11 : Int32)) hin390 (g := (mkF m 467 (LA38 p1 p2 p3 p4 rp mp q cc o337 o354) [(.int (atV bR (11 : Int32) q cc)), (.int (11 : Int32)), (.ref o354)])) rfl rfl (hb hby at_467)
          rw [nar_c (atV_rng bR_rng (by decide) (by decide) hq_cc).1 (le255 (atV_rng bR_rng (by decide) (by decide) hq_cc).2)] at W390
          have V390 : Arv Z h390 o354 k354 .char (15 : Int32) ((outL bR 12 q cc).map Value.int) (.int 0) := outL_push bR 11 q cc ▸ own_push V387 W390 (by rw [List.length_map, outL_len]; decide) (fits_c (atV_rng bR_rng (by decide) (by decide) hq_cc).1 (le255 (atV_rng bR_rng (by decide) (by decide) hq_cc).2))
          have N390 := Fr.snoc X390 N388 fr354
          have J390 := J388.wr W390 (List.mem_cons_self ..)
          have B390 := B388.mono (Nat.le_of_eq W390.size.symm)
          have O390 := O387.wr W390 (Nat.le_trans (own_ole O0) fr354)
          have K390 := K387.wr W390 (Or.inr sz354)
          refine Go.of (fun _ hr => st390 _ hr) ?_
          show Go p e s below _ _ _ _ T390 (mkF m 468 (LA38 p1 p2 p3 p4 rp mp q cc o337 o354) [])
          refine Go.of (fun _ hr => XS.iload X390.here hx rfl (hb hby at_468) rfl  hr) ?_
          show Go p e s below _ _ _ _ T390 (mkF m 470 (LA38 p1 p2 p3 p4 rp mp q cc o337 o354) [(.int (15 : Int32))])
          refine Go.of (fun _ hr => XS.bipush X390.here hx rfl (hb hby at_470) hr) ?_
          show Go p e s below _ _ _ _ T390 (mkF m 472 (LA38 p1 p2 p3 p4 rp mp q cc o337 o354) [(.int (12 : Int32)), (.int (15 : Int32))])
          refine Go.of (fun _ hr => XS.icmpNo X390.here hx rfl (hb hby at_472) rfl (tlt (by decide : ((12 : Int32) < (15 : Int32)))).2.2.2 hr) ?_
          show Go p e s below _ _ _ _ T390 (mkF m 475 (LA38 p1 p2 p3 p4 rp mp q cc o337 o354) [])
          refine Go.of (fun _ hr => XS.aload X390.here hx rfl (hb hby at_475) rfl rfl hr) ?_
          show Go p e s below _ _ _ _ T390 (mkF m 477 (LA38 p1 p2 p3 p4 rp mp q cc o337 o354) [(.ref o354)])
          refine Go.of (fun _ hr => XS.bipush X390.here hx rfl (hb hby at_477) hr) ?_
          show Go p e s below _ _ _ _ T390 (mkF m 479 (LA38 p1 p2 p3 p4 rp mp q cc o337 o354) [(.int (12 : Int32)), (.ref o354)])
          refine Go.of (fun _ hr => XS.aload X390.here hx rfl (hb hby at_479) rfl rfl hr) ?_
          show Go p e s below _ _ _ _ T390 (mkF m 481 (LA38 p1 p2 p3 p4 rp mp q cc o337 o354) [(.ref o337), (.int (12 : Int32)), (.ref o354)])
          refine Go.of (fun _ hr => XS.bipush X390.here hx rfl (hb hby at_481) hr) ?_
          show Go p e s below _ _ _ _ T390 (mkF m 483 (LA38 p1 p2 p3 p4 rp mp q cc o337 o354) [(.int (12 : Int32)), (.ref o337), (.int (12 : Int32)), (.ref o354)])
          refine Go.of (fun _ hr => XS.iload X390.here hx rfl (hb hby at_483) rfl  hr) ?_
          show Go p e s below _ _ _ _ T390 (mkF m 485 (LA38 p1 p2 p3 p4 rp mp q cc o337 o354) [(.int q), (.int (12 : Int32)), (.ref o337), (.int (12 : Int32)), (.ref o354)])
          refine Go.of (fun _ hr => XS.iload X390.here hx rfl (hb hby at_485) rfl  hr) ?_
          show Go p e s below _ _ _ _ T390 (mkF m 487 (LA38 p1 p2 p3 p4 rp mp q cc o337 o354) [(.int cc), (.int q), (.int (12 : Int32)), (.ref o337), (.int (12 : Int32)), (.ref o354)])
          have f392 := (f389.other W390 ne_o337_o354)
          obtain ⟨_, b391, T391, h391, L391, e391, Cc391, X391, B391, J391, g391, hQ391, st391⟩ := own_callS Cc388 B390 J390 X390 (hw _ (List.mem_of_getElem? (i := 2) rfl)) (hw _ (List.mem_of_getElem? (i := 3) rfl)) (hw _ (List.mem_of_getElem? (i := 4) rfl)) (hw _ (List.mem_of_getElem? (i := 5) rfl)) (by decide) (rm1 l Z a0 hw [] o337 _ (12 : Int32) q cc bR _ h390 n0 O390 h0.size (own_ole O0) K390.1 bR_rng (by decide) (by decide) hq_cc f392) e390 (g := (mkF m 487 (LA38 p1 p2 p3 p4 rp mp q cc o337 o354) [(.int cc), (.int q), (.int (12 : Int32)), (.ref o337), (.int (12 : Int32)), (.ref o354)])) rfl (by rw [hml]; rfl) (argsL := [(.ref o337), (.int (12 : Int32)), (.int q), (.int cc)]) (rest := [(.int (12 : Int32)), (.ref o354)]) (lenOf pd7 rfl) rfl (W := 2) (by show 2 * 0 + _ ≤ _; exact Nat.le_of_eq rfl) (hb hby at_487) (by decide) (by decide) (by decide) (by decide)
          obtain ⟨rfl, Nq391, hh391⟩ := hQ391
          have N391 := Fr.app N390 Nq391
          obtain ⟨hx, hZ, hown, hby, hml, hnm, hret, hlk⟩ := id Cc391
          rw [hh391] at e391 B391 J391
          refine Go.of st391 ?_
          show Go p e s below _ _ _ _ T391 (mkF m 490 (LA38 p1 p2 p3 p4 rp mp q cc o337 o354) [(.int (atV bR (12 : Int32) q cc)), (.int (12 : Int32)), (.ref o354)])
          obtain ⟨cl393, Ar393, q393, S393, N393_, H393, G393⟩ := id V390
          have hin393 : ¬ ((12 : Int32) < 0 ∨ cl393.slots.size ≤ ((12 : Int32)).toNatClampNeg) := inb_of S393 ⟨by decide, by decide⟩
          obtain ⟨T393, h393, X393, e393, W393, st393⟩ := stC X391 hx hZ e391 Ar393 (j := (12 : Int32)) hin393 (g := (mkF m 490 (LA38 p1 p2 p3 p4 rp mp q cc o337 o354) [(.int (atV bR (12 : Int32) q cc)), (.int (12 : Int32)), (.ref o354)])) rfl rfl (hb hby at_490)
          rw [nar_c (atV_rng bR_rng (by decide) (by decide) hq_cc).1 (le255 (atV_rng bR_rng (by decide) (by decide) hq_cc).2)] at W393
          have V393 : Arv Z h393 o354 k354 .char (15 : Int32) ((outL bR 13 q cc).map Value.int) (.int 0) := outL_push bR 12 q cc ▸ own_push V390 W393 (by rw [List.length_map, outL_len]; decide) (fits_c (atV_rng bR_rng (by decide) (by decide) hq_cc).1 (le255 (atV_rng bR_rng (by decide) (by decide) hq_cc).2))
          have N393 := Fr.snoc X393 N391 fr354
          have J393 := J391.wr W393 (List.mem_cons_self ..)
          have B393 := B391.mono (Nat.le_of_eq W393.size.symm)
          have O393 := O390.wr W393 (Nat.le_trans (own_ole O0) fr354)
          have K393 := K390.wr W393 (Or.inr sz354)
          refine Go.of (fun _ hr => st393 _ hr) ?_
          show Go p e s below _ _ _ _ T393 (mkF m 491 (LA38 p1 p2 p3 p4 rp mp q cc o337 o354) [])
          refine Go.of (fun _ hr => XS.iload X393.here hx rfl (hb hby at_491) rfl  hr) ?_
          show Go p e s below _ _ _ _ T393 (mkF m 493 (LA38 p1 p2 p3 p4 rp mp q cc o337 o354) [(.int (15 : Int32))])
          refine Go.of (fun _ hr => XS.bipush X393.here hx rfl (hb hby at_493) hr) ?_
          show Go p e s below _ _ _ _ T393 (mkF m 495 (LA38 p1 p2 p3 p4 rp mp q cc o337 o354) [(.int (13 : Int32)), (.int (15 : Int32))])
          refine Go.of (fun _ hr => XS.icmpNo X393.here hx rfl (hb hby at_495) rfl (tlt (by decide : ((13 : Int32) < (15 : Int32)))).2.2.2 hr) ?_
          show Go p e s below _ _ _ _ T393 (mkF m 498 (LA38 p1 p2 p3 p4 rp mp q cc o337 o354) [])
          refine Go.of (fun _ hr => XS.aload X393.here hx rfl (hb hby at_498) rfl rfl hr) ?_
          show Go p e s below _ _ _ _ T393 (mkF m 500 (LA38 p1 p2 p3 p4 rp mp q cc o337 o354) [(.ref o354)])
          refine Go.of (fun _ hr => XS.bipush X393.here hx rfl (hb hby at_500) hr) ?_
          show Go p e s below _ _ _ _ T393 (mkF m 502 (LA38 p1 p2 p3 p4 rp mp q cc o337 o354) [(.int (13 : Int32)), (.ref o354)])
          refine Go.of (fun _ hr => XS.aload X393.here hx rfl (hb hby at_502) rfl rfl hr) ?_
          show Go p e s below _ _ _ _ T393 (mkF m 504 (LA38 p1 p2 p3 p4 rp mp q cc o337 o354) [(.ref o337), (.int (13 : Int32)), (.ref o354)])
          refine Go.of (fun _ hr => XS.bipush X393.here hx rfl (hb hby at_504) hr) ?_
          show Go p e s below _ _ _ _ T393 (mkF m 506 (LA38 p1 p2 p3 p4 rp mp q cc o337 o354) [(.int (13 : Int32)), (.ref o337), (.int (13 : Int32)), (.ref o354)])
          refine Go.of (fun _ hr => XS.iload X393.here hx rfl (hb hby at_506) rfl  hr) ?_
          show Go p e s below _ _ _ _ T393 (mkF m 508 (LA38 p1 p2 p3 p4 rp mp q cc o337 o354) [(.int q), (.int (13 : Int32)), (.ref o337), (.int (13 : Int32)), (.ref o354)])
          refine Go.of (fun _ hr => XS.iload X393.here hx rfl (hb hby at_508) rfl  hr) ?_
          show Go p e s below _ _ _ _ T393 (mkF m 510 (LA38 p1 p2 p3 p4 rp mp q cc o337 o354) [(.int cc), (.int q), (.int (13 : Int32)), (.ref o337), (.int (13 : Int32)), (.ref o354)])
          have f395 := (f392.other W393 ne_o337_o354)
          obtain ⟨_, b394, T394, h394, L394, e394, Cc394, X394, B394, J394, g394, hQ394, st394⟩ := own_callS Cc391 B393 J393 X393 (hw _ (List.mem_of_getElem? (i := 2) rfl)) (hw _ (List.mem_of_getElem? (i := 3) rfl)) (hw _ (List.mem_of_getElem? (i := 4) rfl)) (hw _ (List.mem_of_getElem? (i := 5) rfl)) (by decide) (rm1 l Z a0 hw [] o337 _ (13 : Int32) q cc bR _ h393 n0 O393 h0.size (own_ole O0) K393.1 bR_rng (by decide) (by decide) hq_cc f395) e393 (g := (mkF m 510 (LA38 p1 p2 p3 p4 rp mp q cc o337 o354) [(.int cc), (.int q), (.int (13 : Int32)), (.ref o337), (.int (13 : Int32)), (.ref o354)])) rfl (by rw [hml]; rfl) (argsL := [(.ref o337), (.int (13 : Int32)), (.int q), (.int cc)]) (rest := [(.int (13 : Int32)), (.ref o354)]) (lenOf pd7 rfl) rfl (W := 2) (by show 2 * 0 + _ ≤ _; exact Nat.le_of_eq rfl) (hb hby at_510) (by decide) (by decide) (by decide) (by decide)
          obtain ⟨rfl, Nq394, hh394⟩ := hQ394
          have N394 := Fr.app N393 Nq394
          obtain ⟨hx, hZ, hown, hby, hml, hnm, hret, hlk⟩ := id Cc394
          rw [hh394] at e394 B394 J394
          refine Go.of st394 ?_
          show Go p e s below _ _ _ _ T394 (mkF m 513 (LA38 p1 p2 p3 p4 rp mp q cc o337 o354) [(.int (atV bR (13 : Int32) q cc)), (.int (13 : Int32)), (.ref o354)])
          obtain ⟨cl396, Ar396, q396, S396, N396_, H396, G396⟩ := id V393
          have hin396 : ¬ ((13 : Int32) < 0 ∨ cl396.slots.size ≤ ((13 : Int32)).toNatClampNeg) := inb_of S396 ⟨by decide, by decide⟩
          obtain ⟨T396, h396, X396, e396, W396, st396⟩ := stC X394 hx hZ e394 Ar396 (j := (13 : Int32)) hin396 (g := (mkF m 513 (LA38 p1 p2 p3 p4 rp mp q cc o337 o354) [(.int (atV bR (13 : Int32) q cc)), (.int (13 : Int32)), (.ref o354)])) rfl rfl (hb hby at_513)
          rw [nar_c (atV_rng bR_rng (by decide) (by decide) hq_cc).1 (le255 (atV_rng bR_rng (by decide) (by decide) hq_cc).2)] at W396
          have V396 : Arv Z h396 o354 k354 .char (15 : Int32) ((outL bR 14 q cc).map Value.int) (.int 0) := outL_push bR 13 q cc ▸ own_push V393 W396 (by rw [List.length_map, outL_len]; decide) (fits_c (atV_rng bR_rng (by decide) (by decide) hq_cc).1 (le255 (atV_rng bR_rng (by decide) (by decide) hq_cc).2))
          have N396 := Fr.snoc X396 N394 fr354
          have J396 := J394.wr W396 (List.mem_cons_self ..)
          have B396 := B394.mono (Nat.le_of_eq W396.size.symm)
          have O396 := O393.wr W396 (Nat.le_trans (own_ole O0) fr354)
          have K396 := K393.wr W396 (Or.inr sz354)
          refine Go.of (fun _ hr => st396 _ hr) ?_
          show Go p e s below _ _ _ _ T396 (mkF m 514 (LA38 p1 p2 p3 p4 rp mp q cc o337 o354) [])
          refine Go.of (fun _ hr => XS.iload X396.here hx rfl (hb hby at_514) rfl  hr) ?_
          show Go p e s below _ _ _ _ T396 (mkF m 516 (LA38 p1 p2 p3 p4 rp mp q cc o337 o354) [(.int (15 : Int32))])
          refine Go.of (fun _ hr => XS.bipush X396.here hx rfl (hb hby at_516) hr) ?_
          show Go p e s below _ _ _ _ T396 (mkF m 518 (LA38 p1 p2 p3 p4 rp mp q cc o337 o354) [(.int (14 : Int32)), (.int (15 : Int32))])
          refine Go.of (fun _ hr => XS.icmpNo X396.here hx rfl (hb hby at_518) rfl (tlt (by decide : ((14 : Int32) < (15 : Int32)))).2.2.2 hr) ?_
          show Go p e s below _ _ _ _ T396 (mkF m 521 (LA38 p1 p2 p3 p4 rp mp q cc o337 o354) [])
          refine Go.of (fun _ hr => XS.aload X396.here hx rfl (hb hby at_521) rfl rfl hr) ?_
          show Go p e s below _ _ _ _ T396 (mkF m 523 (LA38 p1 p2 p3 p4 rp mp q cc o337 o354) [(.ref o354)])
          refine Go.of (fun _ hr => XS.bipush X396.here hx rfl (hb hby at_523) hr) ?_
          show Go p e s below _ _ _ _ T396 (mkF m 525 (LA38 p1 p2 p3 p4 rp mp q cc o337 o354) [(.int (14 : Int32)), (.ref o354)])
          refine Go.of (fun _ hr => XS.aload X396.here hx rfl (hb hby at_525) rfl rfl hr) ?_
          show Go p e s below _ _ _ _ T396 (mkF m 527 (LA38 p1 p2 p3 p4 rp mp q cc o337 o354) [(.ref o337), (.int (14 : Int32)), (.ref o354)])
          refine Go.of (fun _ hr => XS.bipush X396.here hx rfl (hb hby at_527) hr) ?_
          show Go p e s below _ _ _ _ T396 (mkF m 529 (LA38 p1 p2 p3 p4 rp mp q cc o337 o354) [(.int (14 : Int32)), (.ref o337), (.int (14 : Int32)), (.ref o354)])
          refine Go.of (fun _ hr => XS.iload X396.here hx rfl (hb hby at_529) rfl  hr) ?_
          show Go p e s below _ _ _ _ T396 (mkF m 531 (LA38 p1 p2 p3 p4 rp mp q cc o337 o354) [(.int q), (.int (14 : Int32)), (.ref o337), (.int (14 : Int32)), (.ref o354)])
          refine Go.of (fun _ hr => XS.iload X396.here hx rfl (hb hby at_531) rfl  hr) ?_
          show Go p e s below _ _ _ _ T396 (mkF m 533 (LA38 p1 p2 p3 p4 rp mp q cc o337 o354) [(.int cc), (.int q), (.int (14 : Int32)), (.ref o337), (.int (14 : Int32)), (.ref o354)])
          have f398 := (f395.other W396 ne_o337_o354)
          obtain ⟨_, b397, T397, h397, L397, e397, Cc397, X397, B397, J397, g397, hQ397, st397⟩ := own_callS Cc394 B396 J396 X396 (hw _ (List.mem_of_getElem? (i := 2) rfl)) (hw _ (List.mem_of_getElem? (i := 3) rfl)) (hw _ (List.mem_of_getElem? (i := 4) rfl)) (hw _ (List.mem_of_getElem? (i := 5) rfl)) (by decide) (rm1 l Z a0 hw [] o337 _ (14 : Int32) q cc bR _ h396 n0 O396 h0.size (own_ole O0) K396.1 bR_rng (by decide) (by decide) hq_cc f398) e396 (g := (mkF m 533 (LA38 p1 p2 p3 p4 rp mp q cc o337 o354) [(.int cc), (.int q), (.int (14 : Int32)), (.ref o337), (.int (14 : Int32)), (.ref o354)])) rfl (by rw [hml]; rfl) (argsL := [(.ref o337), (.int (14 : Int32)), (.int q), (.int cc)]) (rest := [(.int (14 : Int32)), (.ref o354)]) (lenOf pd7 rfl) rfl (W := 2) (by show 2 * 0 + _ ≤ _; exact Nat.le_of_eq rfl) (hb hby at_533) (by decide) (by decide) (by decide) (by decide)
          obtain ⟨rfl, Nq397, hh397⟩ := hQ397
          have N397 := Fr.app N396 Nq397
          obtain ⟨hx, hZ, hown, hby, hml, hnm, hret, hlk⟩ := id Cc397
          rw [hh397] at e397 B397 J397
          refine Go.of st397 ?_
          show Go p e s below _ _ _ _ T397 (mkF m 536 (LA38 p1 p2 p3 p4 rp mp q cc o337 o354) [(.int (atV bR (14 : Int32) q cc)), (.int (14 : Int32)), (.ref o354)])
          obtain ⟨cl399, Ar399, q399, S399, N399_, H399, G399⟩ := id V396
          have hin399 : ¬ ((14 : Int32) < 0 ∨ cl399.slots.size ≤ ((14 : Int32)).toNatClampNeg) := inb_of S399 ⟨by decide, by decide⟩
          obtain ⟨T399, h399, X399, e399, W399, st399⟩ := stC X397 hx hZ e397 Ar399 (j := (14 : Int32)) hin399 (g := (mkF m 536 (LA38 p1 p2 p3 p4 rp mp q cc o337 o354) [(.int (atV bR (14 : Int32) q cc)), (.int (14 : Int32)), (.ref o354)])) rfl rfl (hb hby at_536)
          rw [nar_c (atV_rng bR_rng (by decide) (by decide) hq_cc).1 (le255 (atV_rng bR_rng (by decide) (by decide) hq_cc).2)] at W399
          have V399 : Arv Z h399 o354 k354 .char (15 : Int32) ((outL bR 15 q cc).map Value.int) (.int 0) := outL_push bR 14 q cc ▸ own_push V396 W399 (by rw [List.length_map, outL_len]; decide) (fits_c (atV_rng bR_rng (by decide) (by decide) hq_cc).1 (le255 (atV_rng bR_rng (by decide) (by decide) hq_cc).2))
          have N399 := Fr.snoc X399 N397 fr354
          have J399 := J397.wr W399 (List.mem_cons_self ..)
          have B399 := B397.mono (Nat.le_of_eq W399.size.symm)
          have O399 := O396.wr W399 (Nat.le_trans (own_ole O0) fr354)
          have K399 := K396.wr W399 (Or.inr sz354)
          refine Go.of (fun _ hr => st399 _ hr) ?_
          show Go p e s below _ _ _ _ T399 (mkF m 537 (LA38 p1 p2 p3 p4 rp mp q cc o337 o354) [])
          refine Go.of (fun _ hr => XS.iload X399.here hx rfl (hb hby at_537) rfl  hr) ?_
          show Go p e s below _ _ _ _ T399 (mkF m 539 (LA38 p1 p2 p3 p4 rp mp q cc o337 o354) [(.int (15 : Int32))])
          refine Go.of (fun _ hr => XS.bipush X399.here hx rfl (hb hby at_539) hr) ?_
          show Go p e s below _ _ _ _ T399 (mkF m 541 (LA38 p1 p2 p3 p4 rp mp q cc o337 o354) [(.int (15 : Int32)), (.int (15 : Int32))])
          refine Go.of (fun _ hr => XS.icmpYes X399.here hx rfl (pc0 := 541) (pc' := 560) rfl (hb hby at_541) rfl (flt (by decide : ¬ ((15 : Int32) < (15 : Int32)))).2.2.2 (by decide) (by decide) hr) ?_
          show Go p e s below _ _ _ _ T399 (mkF m 560 (LA38 p1 p2 p3 p4 rp mp q cc o337 o354) [])
          obtain ⟨T400, h400, X400, e400, E400, A400, D400, -, st400⟩ := newO X399 hx hZ hown (hw _ (List.mem_of_getElem? (i := 6) rfl)) (hw _ (List.mem_of_getElem? (i := 7) rfl)) (hw _ (List.mem_of_getElem? (i := 8) rfl)) e399 (g := (mkF m 560 (LA38 p1 p2 p3 p4 rp mp q cc o337 o354) [])) rfl (hb hby at_560) (by decide) (by decide)
          obtain ⟨o400, g400⟩ : ∃ z, z = h399.size := ⟨_, rfl⟩
          rw [← g400] at A400 D400 st400
          have f401 := (f398.other W399 ne_o337_o354)
          have ne_o337_o400 : o337 ≠ o400 := Nat.ne_of_lt (Nat.lt_of_lt_of_le f401.lt (Nat.le_of_eq g400.symm))
          have ne_o354_o400 : o354 ≠ o400 := Nat.ne_of_lt (Nat.lt_of_lt_of_le V399.lt (Nat.le_of_eq g400.symm))
          have lt400 : o400 < h400.size := A400.lt
          have J400 := J399.add E400 g400 lt400
          have B400 := B399.mono E400.1
          have O400 := O399.ext E400
          have sz400 : h0.size ≤ o400 := Nat.le_trans K399.1 (Nat.le_of_eq g400.symm)
          have fr400 : h0.size ≤ o400 := sz400
          have K400 := K399.ext E400
          have F400_coder : Fld Z h400 o400 "java/lang/String" "coder" "B" (.int (0 : Int32)) := D400 (Or.inr (hw _ (List.mem_of_getElem? (i := 32) rfl))) (ty := .byte) (by decide)
          have F400_value : Fld Z h400 o400 "java/lang/String" "value" "[B" .null := D400 (Or.inr (hw _ (List.mem_of_getElem? (i := 34) rfl))) (ty := (.array .byte)) (by decide)
          refine Go.of (fun _ hr => st400 _ hr) ?_
          show Go p e s below _ _ _ _ T400 (mkF m 563 (LA38 p1 p2 p3 p4 rp mp q cc o337 o354) [(.ref o400)])
          refine Go.of (fun _ hr => XS.dup X400.here hx rfl (hb hby at_563) rfl rfl hr) ?_
          show Go p e s below _ _ _ _ T400 (mkF m 564 (LA38 p1 p2 p3 p4 rp mp q cc o337 o354) [(.ref o400), (.ref o400)])
          refine Go.of (fun _ hr => XS.aload X400.here hx rfl (hb hby at_564) rfl rfl hr) ?_
          show Go p e s below _ _ _ _ T400 (mkF m 566 (LA38 p1 p2 p3 p4 rp mp q cc o337 o354) [(.ref o354), (.ref o400), (.ref o400)])
          have f403 := (V399.ext E400)
          obtain ⟨_, b402, T402, h402, L402, e402, Cc402, X402, B402, J402, g402, hQ402, st402⟩ := own_callI Cc397 B400 J400 X400 rfl (hw _ (List.mem_of_getElem? (i := 9) rfl)) (hw _ (List.mem_of_getElem? (i := 10) rfl)) (hw _ (List.mem_of_getElem? (i := 8) rfl)) (hw _ (List.mem_of_getElem? (i := 11) rfl)) (by decide) (rm2 l Z a0 hw [] o400 o354 _ (outL bR 15 q cc) _ _ zc _ h400 n0 O400 h0.size (own_ole O0) K400.1 fr400 (List.mem_cons_self ..) (by rw [outL_len]; decide) (outL_rng bR_rng (by decide) (by decide) hq_cc) (by rw [outL_len]; decide) f403 ne_o354_o400 A400 F400_value F400_coder S_C hzc) e400 (g := (mkF m 566 (LA38 p1 p2 p3 p4 rp mp q cc o337 o354) [(.ref o354), (.ref o400), (.ref o400)])) rfl (by rw [hml]; rfl) (argsL := [(.ref o354)]) (rest := [(.ref o400)]) (lenOf pd8 rfl) rfl (W := 1) (by show 2 * 0 + _ ≤ _; exact Nat.le_of_eq rfl) (hb hby at_566) (by decide) (by decide) (by decide) (by decide)
          obtain ⟨rfl, Nq402, Kq402, t402, kt402, nt402, Fv402, Fc402, Vt402⟩ := hQ402
          have N402 := Fr.app N399 Nq402
          obtain ⟨hx, hZ, hown, hby, hml, hnm, hret, hlk⟩ := id Cc402
          have K402 := K400.trans Kq402 (allS (Or.inr sz400) all0)
          have O402 := O400.keep Kq402 (allS (Nat.le_trans (own_ole O0) fr400) all0)
          refine Go.of st402 ?_
          have nx_t402_o400 : t402 ≠ o400 := fun q => nt402 (by rw [q]; exact (List.mem_cons_self ..))
          have nx_t402_o354 : t402 ≠ o354 := fun q => nt402 (by rw [q]; exact (List.mem_cons_of_mem _ (List.mem_cons_self ..)))
          have nx_t402_o337 : t402 ≠ o337 := fun q => nt402 (by rw [q]; exact (List.mem_cons_of_mem _ (List.mem_cons_of_mem _ (List.mem_cons_self ..))))
          show Go p e s below _ _ _ _ T402 (mkF m 569 (LA38 p1 p2 p3 p4 rp mp q cc o337 o354) [(.ref o400)])
          refine Go.of (fun _ hr => XS.astore X402.here hx rfl (hb hby at_569) rfl rfl (l' := (LA39 p1 p2 p3 p4 rp mp q cc o337 o354 o400)) rfl hr) ?_
          show Go p e s below _ _ _ _ T402 (mkF m 571 (LA39 p1 p2 p3 p4 rp mp q cc o337 o354 o400) [])
          obtain ⟨T404, h404, X404, e404, E404, A404, D404, -, st404⟩ := newO X402 hx hZ hown (hw _ (List.mem_of_getElem? (i := 35) rfl)) (hw _ (List.mem_of_getElem? (i := 36) rfl)) (hw _ (List.mem_of_getElem? (i := 37) rfl)) e402 (g := (mkF m 571 (LA39 p1 p2 p3 p4 rp mp q cc o337 o354 o400) [])) rfl (hb hby at_571) (by decide) (by decide)
          obtain ⟨o404, g404⟩ : ∃ z, z = h402.size := ⟨_, rfl⟩
          rw [← g404] at A404 D404 st404
          have f405 := ((f401.ext E400).keep Kq402 (ninS ne_o337_o400 nin0))
          have ne_o337_o404 : o337 ≠ o404 := Nat.ne_of_lt (Nat.lt_of_lt_of_le f405.lt (Nat.le_of_eq g404.symm))
          have f406 := (f403.keep Kq402 (ninS ne_o354_o400 nin0))
          have ne_o354_o404 : o354 ≠ o404 := Nat.ne_of_lt (Nat.lt_of_lt_of_le f406.lt (Nat.le_of_eq g404.symm))
          have f407 := (A400.keep Kq402)
          have ne_o400_o404 : o400 ≠ o404 := Nat.ne_of_lt (Nat.lt_of_lt_of_le f407.lt (Nat.le_of_eq g404.symm))
          have ne_t402_o404 : t402 ≠ o404 := Nat.ne_of_lt (Nat.lt_of_lt_of_le Vt402.lt (Nat.le_of_eq g404.symm))
          have lt404 : o404 < h404.size := A404.lt
          have J404 := J402.add E404 g404 lt404
          have B404 := B402.mono E404.1
          have O404 := O402.ext E404
          have sz404 : h0.size ≤ o404 := Nat.le_trans K402.1 (Nat.le_of_eq g404.symm)
          have fr404 : h0.size ≤ o404 := sz404
          have K404 := K402.ext E404
          have F404_name : Fld Z h404 o404 "com/example/mthd/mthd/model/ApiMessage$Field" "name" "Ljava/lang/String;" .null := D404 (Or.inr (hw _ (List.mem_of_getElem? (i := 51) rfl))) (ty := (.object "java/lang/String")) (by decide)
          have F404_type : Fld Z h404 o404 "com/example/mthd/mthd/model/ApiMessage$Field" "type" "Ljava/lang/String;" .null := D404 (Or.inr (hw _ (List.mem_of_getElem? (i := 53) rfl))) (ty := (.object "java/lang/String")) (by decide)
          have F404_repeated : Fld Z h404 o404 "com/example/mthd/mthd/model/ApiMessage$Field" "repeated" "Z" (.int (0 : Int32)) := D404 (Or.inr (hw _ (List.mem_of_getElem? (i := 55) rfl))) (ty := .boolean) (by decide)
          have F404_map : Fld Z h404 o404 "com/example/mthd/mthd/model/ApiMessage$Field" "map" "Z" (.int (0 : Int32)) := D404 (Or.inr (hw _ (List.mem_of_getElem? (i := 57) rfl))) (ty := .boolean) (by decide)
          have F404_message : Fld Z h404 o404 "com/example/mthd/mthd/model/ApiMessage$Field" "message" "Ljava/util/Optional;" .null := D404 (Or.inr (hw _ (List.mem_of_getElem? (i := 59) rfl))) (ty := (.object "java/util/Optional")) (by decide)
          have F404_resource : Fld Z h404 o404 "com/example/mthd/mthd/model/ApiMessage$Field" "resource" "Ljava/util/Optional;" .null := D404 (Or.inr (hw _ (List.mem_of_getElem? (i := 61) rfl))) (ty := (.object "java/util/Optional")) (by decide)
          refine Go.of (fun _ hr => st404 _ hr) ?_
          show Go p e s below _ _ _ _ T404 (mkF m 574 (LA39 p1 p2 p3 p4 rp mp q cc o337 o354 o400) [(.ref o404)])
          refine Go.of (fun _ hr => XS.dup X404.here hx rfl (hb hby at_574) rfl rfl hr) ?_
          show Go p e s below _ _ _ _ T404 (mkF m 575 (LA39 p1 p2 p3 p4 rp mp q cc o337 o354 o400) [(.ref o404), (.ref o404)])
          obtain ⟨o408, t408, k408, b408, T408, h408, e408, Cc408, X408, B408, J408, E408, Sy408, na408, nt408, lt408, st408⟩ := own_ldcV Cc402 B404 J404 X404 lit0_in lit0_one (hw _ (List.mem_of_getElem? (i := 38) rfl)) (own_wS Z a0 hw) lit0_lat lit0_len (by rw [eb]; exact N402) (by rw [eb]; exact O0.2) e404 (g := (mkF m 575 (LA39 p1 p2 p3 p4 rp mp q cc o337 o354 o400) [(.ref o404), (.ref o404)])) rfl (hb hby at_575) (n := 4) lit0_sz (by decide) (by decide) (by decide)
          obtain ⟨hx, hZ, hown, hby, hml, hnm, hret, hlk⟩ := id Cc408
          have K408 := K404.ext E408
          have O408 := O404.ext E408
          have nx_o408_o404 : o408 ≠ o404 := fun q => na408 (by rw [q]; exact (List.mem_cons_self ..))
          have nx_o408_o400 : o408 ≠ o400 := fun q => na408 (by rw [q]; exact (List.mem_cons_of_mem _ (List.mem_cons_self ..)))
          have nx_o408_o354 : o408 ≠ o354 := fun q => na408 (by rw [q]; exact (List.mem_cons_of_mem _ (List.mem_cons_of_mem _ (List.mem_cons_self ..))))
          have nx_o408_o337 : o408 ≠ o337 := fun q => na408 (by rw [q]; exact (List.mem_cons_of_mem _ (List.mem_cons_of_mem _ (List.mem_cons_of_mem _ (List.mem_cons_self ..)))))
          have nx_t408_o404 : t408 ≠ o404 := fun q => nt408 (by rw [q]; exact (List.mem_cons_self ..))
          have nx_t408_o400 : t408 ≠ o400 := fun q => nt408 (by rw [q]; exact (List.mem_cons_of_mem _ (List.mem_cons_self ..)))
          have nx_t408_o354 : t408 ≠ o354 := fun q => nt408 (by rw [q]; exact (List.mem_cons_of_mem _ (List.mem_cons_of_mem _ (List.mem_cons_self ..))))
          have nx_t408_o337 : t408 ≠ o337 := fun q => nt408 (by rw [q]; exact (List.mem_cons_of_mem _ (List.mem_cons_of_mem _ (List.mem_cons_of_mem _ (List.mem_cons_self ..)))))
          refine Go.of (fun _ hr => st408 _ hr) ?_
          show Go p e s below _ _ _ _ T408 (mkF m 577 (LA39 p1 p2 p3 p4 rp mp q cc o337 o354 o400) [(.ref o408), (.ref o404), (.ref o404)])
          refine Go.of (fun _ hr => XS.aload X408.here hx rfl (hb hby at_577) rfl rfl hr) ?_
          show Go p e s below _ _ _ _ T408 (mkF m 579 (LA39 p1 p2 p3 p4 rp mp q cc o337 o354 o400) [(.ref o400), (.ref o408), (.ref o404), (.ref o404)])
          refine Go.of (fun _ hr => XS.iload X408.here hx rfl (hb hby at_579) rfl  hr) ?_
          show Go p e s below _ _ _ _ T408 (mkF m 581 (LA39 p1 p2 p3 p4 rp mp q cc o337 o354 o400) [(.int rp), (.ref o400), (.ref o408), (.ref o404), (.ref o404)])
          refine Go.of (fun _ hr => XS.iload X408.here hx rfl (hb hby at_581) rfl  hr) ?_
          show Go p e s below _ _ _ _ T408 (mkF m 583 (LA39 p1 p2 p3 p4 rp mp q cc o337 o354 o400) [(.int mp), (.int rp), (.ref o400), (.ref o408), (.ref o404), (.ref o404)])
          refine Go.of (fun _ hr => XS.aconstNull X408.here hx rfl (hb hby at_583) hr) ?_
          show Go p e s below _ _ _ _ T408 (mkF m 584 (LA39 p1 p2 p3 p4 rp mp q cc o337 o354 o400) [.null, (.int mp), (.int rp), (.ref o400), (.ref o408), (.ref o404), (.ref o404)])
          refine Go.of (fun _ hr => XS.aconstNull X408.here hx rfl (hb hby at_584) hr) ?_
          show Go p e s below _ _ _ _ T408 (mkF m 585 (LA39 p1 p2 p3 p4 rp mp q cc o337 o354 o400) [.null, .null, (.int mp), (.int rp), (.ref o400), (.ref o408), (.ref o404), (.ref o404)])
          have f410 := (A404.ext E408)
          have f411 := (F404_name.ext E408)
          have f412 := (F404_type.ext E408)
          have f413 := (F404_repeated.ext E408)
          have f414 := (F404_map.ext E408)
          have f415 := (F404_message.ext E408)
          have f416 := (F404_resource.ext E408)
          obtain ⟨_, b409, T409, h409, L409, e409, Cc409, X409, B409, J409, g409, hQ409, st409⟩ := own_callI Cc408 B408 J408 X408 rfl (hw _ (List.mem_of_getElem? (i := 41) rfl)) (hw _ (List.mem_of_getElem? (i := 42) rfl)) (hw _ (List.mem_of_getElem? (i := 37) rfl)) (hw _ (List.mem_of_getElem? (i := 43) rfl)) (by decide) (rm8 l Z a0 hw [] o404 _ o408 _ o400 _ rp _ mp _ _ _ h408 n0 O408 h0.size (own_ole O0) K408.1 fr404 (List.mem_cons_self ..) f410 f411 f412 f413 hz_rp f414 hz_mp f415 f416) e408 (g := (mkF m 585 (LA39 p1 p2 p3 p4 rp mp q cc o337 o354 o400) [.null, .null, (.int mp), (.int rp), (.ref o400), (.ref o408), (.ref o404), (.ref o404)])) rfl (by rw [hml]; rfl) (argsL := [(.ref o408), (.ref o400), (.int rp), (.int mp), .null, .null]) (rest := [(.ref o404)]) (lenOf pd9 rfl) rfl (W := 1) (by show 2 * 0 + _ ≤ _; exact Nat.le_of_eq rfl) (hb hby at_585) (by decide) (by decide) (by decide) (by decide)
          obtain ⟨rfl, Nq409, Kq409, Fs0_409, Fs1_409, Fs2_409, Fs3_409, Fs4_409, Fs5_409⟩ := hQ409
          have N409 := Fr.app N402 Nq409
          obtain ⟨hx, hZ, hown, hby, hml, hnm, hret, hlk⟩ := id Cc409
          have K409 := K408.trans Kq409 (allS (Or.inr sz404) all0)
          have O409 := O408.keep Kq409 (allS (Nat.le_trans (own_ole O0) fr404) all0)
          refine Go.of st409 ?_
          show Go p e s below _ _ _ _ T409 (mkF m 588 (LA39 p1 p2 p3 p4 rp mp q cc o337 o354 o400) [(.ref o404)])
          refine Go.of (fun _ hr => XS.astore X409.here hx rfl (hb hby at_588) rfl rfl (l' := #[.val (.int p1), .val (.int p2), .val (.int p3), .val (.int p4), .val (.int rp), .val (.int mp), .val (.int (1 : Int32)), .val (.int (0 : Int32)), .val (.int q), .val (.int cc), .val (.ref o337), .val (.int (15 : Int32)), .val (.ref o354), .val (.ref o400), .val (.ref o404), .unset, .unset]) rfl hr) ?_
          show Go p e s below _ _ _ _ T409 (mkF m 590 #[.val (.int p1), .val (.int p2), .val (.int p3), .val (.int p4), .val (.int rp), .val (.int mp), .val (.int (1 : Int32)), .val (.int (0 : Int32)), .val (.int q), .val (.int cc), .val (.ref o337), .val (.int (15 : Int32)), .val (.ref o354), .val (.ref o400), .val (.ref o404), .unset, .unset] [])
          have f417 := (f410.keep Kq409)
          have f418 := (((f407.ext E404).ext E408).keep Kq409)
          have f419 := (((Fv402.ext E404).ext E408).keep Kq409 (ninS ne_o400_o404 nin0))
          have f420 := (((Fc402.ext E404).ext E408).keep Kq409 (ninS ne_o400_o404 nin0))
          have f421 := (((Vt402.ext E404).ext E408).keep Kq409 (ninS ne_t402_o404 nin0))
          have f422 := (((f405.ext E404).ext E408).keep Kq409 (ninS ne_o337_o404 nin0))
          exact law_tail l Z a0 hw (by decide) (by decide) p1 p2 p3 p4 rp mp (1 : Int32) (0 : Int32) q cc o337 (15 : Int32) o354 o400 o404 t402 _ _ bR (outL bR 15 q cc) zc h409 n0 O409 nb hb0 (Nat.le_trans hnb K409.1) f417 Fs1_409 Fs2_409 f418 f419 f420 f421 f422 hq_q.1 (by rw [outL_len]; decide) (fin_R6 hz_rp hq_cc hq_q.1) S_C hzc Cc409 X409 e409 (fun y hy => Nat.le_trans hnb (N409 y hy)) (J409.sub (own_sub1 (List.mem_cons_of_mem _ (List.mem_cons_self ..)) (fun x hx => (List.mem_cons_of_mem _ (List.mem_cons_of_mem _ (List.mem_cons_of_mem _ (List.mem_cons_of_mem _ hx))))))) B409
        · rw [hd]
          show Go p e s below _ _ _ _ s₁ (mkF m 46 (LA25 p1 p2 p3 p4 rp mp) [(.int (1 : Int32))])
          refine Go.of (fun _ hr => XS.istore X0.here hx rfl (hb hby at_46) rfl (l' := (LA40 p1 p2 p3 p4 rp mp)) rfl hr) ?_
          show Go p e s below _ _ _ _ s₁ (mkF m 48 (LA40 p1 p2 p3 p4 rp mp) [])
          refine Go.of (fun _ hr => XS.iloadN X0.here hx rfl (hb hby at_48) rfl  hr) ?_
          show Go p e s below _ _ _ _ s₁ (mkF m 49 (LA40 p1 p2 p3 p4 rp mp) [(.int p2)])
          refine Go.of (fun _ hr => X0.ldcInt hx hown (mvT hZ (hw _ (List.mem_of_getElem? (i := 0) rfl))) (g := (mkF m 49 (LA40 p1 p2 p3 p4 rp mp) [(.int p2)])) rfl (hb hby at_49) _ hr) ?_
          show Go p e s below _ _ _ _ s₁ (mkF m 51 (LA40 p1 p2 p3 p4 rp mp) [(.int (2147483647 : Int32)), (.int p2)])
          refine Go.of (fun _ hr => XS.iand X0.here hx rfl (hb hby at_51) rfl hr) ?_
          show Go p e s below _ _ _ _ s₁ (mkF m 52 (LA40 p1 p2 p3 p4 rp mp) [(.int (p2 &&& (2147483647 : Int32)))])
          refine Go.of (fun _ hr => XS.bipush X0.here hx rfl (hb hby at_52) hr) ?_
          show Go p e s below _ _ _ _ s₁ (mkF m 54 (LA40 p1 p2 p3 p4 rp mp) [(.int (16 : Int32)), (.int (p2 &&& (2147483647 : Int32)))])
          refine Go.of (fun _ hr => iremM X0 hx rfl (hb hby at_54) rfl (by decide) hr) ?_
          show Go p e s below _ _ _ _ s₁ (mkF m 55 (LA40 p1 p2 p3 p4 rp mp) [(.int ((p2 &&& (2147483647 : Int32)) % (16 : Int32)))])
          have hq_q := rem16 p2
          generalize ((p2 &&& (2147483647 : Int32)) % (16 : Int32)) = q at hq_q ⊢
          show Go p e s below _ _ _ _ s₁ (mkF m 55 (LA40 p1 p2 p3 p4 rp mp) [(.int q)])
          refine Go.of (fun _ hr => XS.istore X0.here hx rfl (hb hby at_55) rfl (l' := (LA41 p1 p2 p3 p4 rp mp q)) rfl hr) ?_
          show Go p e s below _ _ _ _ s₁ (mkF m 57 (LA41 p1 p2 p3 p4 rp mp q) [])
          refine Go.of (fun _ hr => XS.iloadN X0.here hx rfl (hb hby at_57) rfl  hr) ?_
          show Go p e s below _ _ _ _ s₁ (mkF m 58 (LA41 p1 p2 p3 p4 rp mp q) [(.int p3)])
          refine Go.of (fun _ hr => XS.sipush X0.here hx rfl (hb hby at_58) hr) ?_
          show Go p e s below _ _ _ _ s₁ (mkF m 61 (LA41 p1 p2 p3 p4 rp mp q) [(.int (255 : Int32)), (.int p3)])
          refine Go.of (fun _ hr => XS.iand X0.here hx rfl (hb hby at_61) rfl hr) ?_
          show Go p e s below _ _ _ _ s₁ (mkF m 62 (LA41 p1 p2 p3 p4 rp mp q) [(.int (p3 &&& (255 : Int32)))])
          refine Go.of (fun _ hr => XS.i2c X0.here hx rfl (hb hby at_62) rfl hr) ?_
          show Go p e s below _ _ _ _ s₁ (mkF m 63 (LA41 p1 p2 p3 p4 rp mp q) [(.int ((p3 &&& (255 : Int32)).toUInt32.toUInt16.toUInt32.toInt32))])
          have hq_cc := chr8 p3
          generalize ((p3 &&& (255 : Int32)).toUInt32.toUInt16.toUInt32.toInt32) = cc at hq_cc ⊢
          show Go p e s below _ _ _ _ s₁ (mkF m 63 (LA41 p1 p2 p3 p4 rp mp q) [(.int cc)])
          refine Go.of (fun _ hr => XS.istore X0.here hx rfl (hb hby at_63) rfl (l' := (LA42 p1 p2 p3 p4 rp mp q cc)) rfl hr) ?_
          show Go p e s below _ _ _ _ s₁ (mkF m 65 (LA42 p1 p2 p3 p4 rp mp q cc) [])
          refine Go.of (fun _ hr => XS.iload X0.here hx rfl (hb hby at_65) rfl  hr) ?_
          show Go p e s below _ _ _ _ s₁ (mkF m 67 (LA42 p1 p2 p3 p4 rp mp q cc) [(.int (1 : Int32))])
          refine Go.of (fun _ hr => XS.ifNo X0.here hx rfl (hb hby at_67) rfl ((if0 _ _).trans (feq (by decide : ¬ ((1 : Int32) = (0 : Int32)))).1) hr) ?_
          show Go p e s below _ _ _ _ s₁ (mkF m 70 (LA42 p1 p2 p3 p4 rp mp q cc) [])
          refine Go.of (fun _ hr => XS.bipush X0.here hx rfl (hb hby at_70) hr) ?_
          show Go p e s below _ _ _ _ s₁ (mkF m 72 (LA42 p1 p2 p3 p4 rp mp q cc) [(.int (15 : Int32))])
          obtain ⟨T423, h423, k423, X423, e423, E423, A423, st423⟩ := newP X0 hx hZ (hw _ (List.mem_of_getElem? (i := 1) rfl)) e0 (g := (mkF m 72 (LA42 p1 p2 p3 p4 rp mp q cc) [(.int (15 : Int32))])) rfl (hb hby at_72) rfl (by decide) (cap := 15) (by decide) (by decide) (by decide) (by decide)
          obtain ⟨o423, g423⟩ : ∃ z, z = h0.size := ⟨_, rfl⟩
          rw [← g423] at A423 st423
          have V423 : Arv Z h423 o423 k423 .char (15 : Int32) [(.int (0 : Int32)), (.int (0 : Int32)), (.int (0 : Int32)), (.int (0 : Int32)), (.int (0 : Int32)), (.int (0 : Int32)), (.int (0 : Int32)), (.int (0 : Int32)), (.int (0 : Int32)), (.int (0 : Int32)), (.int (0 : Int32)), (.int (0 : Int32)), (.int (0 : Int32)), (.int (0 : Int32)), (.int (0 : Int32))] (.int (0 : Int32)) := (Arv.new A423 (by decide)).pad (pad_rep [] (.int (0 : Int32)) 15)
          have lt423 : o423 < h423.size := A423.lt
          have J423 := J0.add E423 g423 lt423
          have B423 := B0.mono E423.1
          have O423 := O0.ext E423
          have sz423 : h0.size ≤ o423 := Nat.le_trans K0.1 (Nat.le_of_eq g423.symm)
          have fr423 : h0.size ≤ o423 := sz423
          have K423 := K0.ext E423
          refine Go.of (fun _ hr => st423 _ hr) ?_
          show Go p e s below _ _ _ _ T423 (mkF m 74 (LA42 p1 p2 p3 p4 rp mp q cc) [(.ref o423)])
          refine Go.of (fun _ hr => XS.dup X423.here hx rfl (hb hby at_74) rfl rfl hr) ?_
          show Go p e s below _ _ _ _ T423 (mkF m 75 (LA42 p1 p2 p3 p4 rp mp q cc) [(.ref o423), (.ref o423)])
          refine Go.of (fun _ hr => XS.iconst X423.here hx rfl (hb hby at_75) hr) ?_
          show Go p e s below _ _ _ _ T423 (mkF m 76 (LA42 p1 p2 p3 p4 rp mp q cc) [(.int (0 : Int32)), (.ref o423), (.ref o423)])
          refine Go.of (fun _ hr => XS.bipush X423.here hx rfl (hb hby at_76) hr) ?_
          show Go p e s below _ _ _ _ T423 (mkF m 78 (LA42 p1 p2 p3 p4 rp mp q cc) [(.int (114 : Int32)), (.int (0 : Int32)), (.ref o423), (.ref o423)])
          obtain ⟨cl424, Ar424, q424, S424, N424_, H424, G424⟩ := id V423
          have hin424 : ¬ ((0 : Int32) < 0 ∨ cl424.slots.size ≤ ((0 : Int32)).toNatClampNeg) := inb_of S424 ⟨by decide, by decide⟩
          obtain ⟨T424, h424, X424, e424, W424, st424⟩ := stC X423 hx hZ e423 Ar424 (j := (0 : Int32)) hin424 (g := (mkF m 78 (LA42 p1 p2 p3 p4 rp mp q cc) [(.int (114 : Int32)), (.int (0 : Int32)), (.ref o423), (.ref o423)])) rfl rfl (hb hby at_78)
          have W424' := W424
          rw [show nar .char (114 : Int32) = (114 : Int32) from rfl] at W424'
          have V424 : Arv Z h424 o423 k423 .char (15 : Int32) [(.int (114 : Int32)), (.int (0 : Int32)), (.int (0 : Int32)), (.int (0 : Int32)), (.int (0 : Int32)), (.int (0 : Int32)), (.int (0 : Int32)), (.int (0 : Int32)), (.int (0 : Int32)), (.int (0 : Int32)), (.int (0 : Int32)), (.int (0 : Int32)), (.int (0 : Int32)), (.int (0 : Int32)), (.int (0 : Int32))] (.int (0 : Int32)) := Arv.set Ar424 q424 S424 N424_ H424 G424 rfl W424' 0 rfl (by simp)
          have N424 := Fr.snoc X424 N0 fr423
          have J424 := J423.wr W424 (List.mem_cons_self ..)
          have B424 := B423.mono (Nat.le_of_eq W424.size.symm)
          have O424 := O423.wr W424 (Nat.le_trans (own_ole O0) fr423)
          have K424 := K423.wr W424 (Or.inr sz423)
          refine Go.of (fun _ hr => st424 _ hr) ?_
          show Go p e s below _ _ _ _ T424 (mkF m 79 (LA42 p1 p2 p3 p4 rp mp q cc) [(.ref o423)])
          refine Go.of (fun _ hr => XS.dup X424.here hx rfl (hb hby at_79) rfl rfl hr) ?_
          show Go p e s below _ _ _ _ T424 (mkF m 80 (LA42 p1 p2 p3 p4 rp mp q cc) [(.ref o423), (.ref o423)])
          refine Go.of (fun _ hr => XS.iconst X424.here hx rfl (hb hby at_80) hr) ?_
          show Go p e s below _ _ _ _ T424 (mkF m 81 (LA42 p1 p2 p3 p4 rp mp q cc) [(.int (1 : Int32)), (.ref o423), (.ref o423)])
          refine Go.of (fun _ hr => XS.bipush X424.here hx rfl (hb hby at_81) hr) ?_
          show Go p e s below _ _ _ _ T424 (mkF m 83 (LA42 p1 p2 p3 p4 rp mp q cc) [(.int (101 : Int32)), (.int (1 : Int32)), (.ref o423), (.ref o423)])
          obtain ⟨cl425, Ar425, q425, S425, N425_, H425, G425⟩ := id V424
          have hin425 : ¬ ((1 : Int32) < 0 ∨ cl425.slots.size ≤ ((1 : Int32)).toNatClampNeg) := inb_of S425 ⟨by decide, by decide⟩
          obtain ⟨T425, h425, X425, e425, W425, st425⟩ := stC X424 hx hZ e424 Ar425 (j := (1 : Int32)) hin425 (g := (mkF m 83 (LA42 p1 p2 p3 p4 rp mp q cc) [(.int (101 : Int32)), (.int (1 : Int32)), (.ref o423), (.ref o423)])) rfl rfl (hb hby at_83)
          have W425' := W425
          rw [show nar .char (101 : Int32) = (101 : Int32) from rfl] at W425'
          have V425 : Arv Z h425 o423 k423 .char (15 : Int32) [(.int (114 : Int32)), (.int (101 : Int32)), (.int (0 : Int32)), (.int (0 : Int32)), (.int (0 : Int32)), (.int (0 : Int32)), (.int (0 : Int32)), (.int (0 : Int32)), (.int (0 : Int32)), (.int (0 : Int32)), (.int (0 : Int32)), (.int (0 : Int32)), (.int (0 : Int32)), (.int (0 : Int32)), (.int (0 : Int32))] (.int (0 : Int32)) := Arv.set Ar425 q425 S425 N425_ H425 G425 rfl W425' 1 rfl (by simp)
          have N425 := Fr.snoc X425 N424 fr423
          have J425 := J424.wr W425 (List.mem_cons_self ..)
          have B425 := B424.mono (Nat.le_of_eq W425.size.symm)
          have O425 := O424.wr W425 (Nat.le_trans (own_ole O0) fr423)
          have K425 := K424.wr W425 (Or.inr sz423)
          refine Go.of (fun _ hr => st425 _ hr) ?_
          show Go p e s below _ _ _ _ T425 (mkF m 84 (LA42 p1 p2 p3 p4 rp mp q cc) [(.ref o423)])
          refine Go.of (fun _ hr => XS.dup X425.here hx rfl (hb hby at_84) rfl rfl hr) ?_
          show Go p e s below _ _ _ _ T425 (mkF m 85 (LA42 p1 p2 p3 p4 rp mp q cc) [(.ref o423), (.ref o423)])
          refine Go.of (fun _ hr => XS.iconst X425.here hx rfl (hb hby at_85) hr) ?_
          show Go p e s below _ _ _ _ T425 (mkF m 86 (LA42 p1 p2 p3 p4 rp mp q cc) [(.int (2 : Int32)), (.ref o423), (.ref o423)])
          refine Go.of (fun _ hr => XS.bipush X425.here hx rfl (hb hby at_86) hr) ?_
          show Go p e s below _ _ _ _ T425 (mkF m 88 (LA42 p1 p2 p3 p4 rp mp q cc) [(.int (112 : Int32)), (.int (2 : Int32)), (.ref o423), (.ref o423)])
          obtain ⟨cl426, Ar426, q426, S426, N426_, H426, G426⟩ := id V425
          have hin426 : ¬ ((2 : Int32) < 0 ∨ cl426.slots.size ≤ ((2 : Int32)).toNatClampNeg) := inb_of S426 ⟨by decide, by decide⟩
          obtain ⟨T426, h426, X426, e426, W426, st426⟩ := stC X425 hx hZ e425 Ar426 (j := (2 : Int32)) hin426 (g := (mkF m 88 (LA42 p1 p2 p3 p4 rp mp q cc) [(.int (112 : Int32)), (.int (2 : Int32)), (.ref o423), (.ref o423)])) rfl rfl (hb hby at_88)
          have W426' := W426
          rw [show nar .char (112 : Int32) = (112 : Int32) from rfl] at W426'
          have V426 : Arv Z h426 o423 k423 .char (15 : Int32) [(.int (114 : Int32)), (.int (101 : Int32)), (.int (112 : Int32)), (.int (0 : Int32)), (.int (0 : Int32)), (.int (0 : Int32)), (.int (0 : Int32)), (.int (0 : Int32)), (.int (0 : Int32)), (.int (0 : Int32)), (.int (0 : Int32)), (.int (0 : Int32)), (.int (0 : Int32)), (.int (0 : Int32)), (.int (0 : Int32))] (.int (0 : Int32)) := Arv.set Ar426 q426 S426 N426_ H426 G426 rfl W426' 2 rfl (by simp)
          have N426 := Fr.snoc X426 N425 fr423
          have J426 := J425.wr W426 (List.mem_cons_self ..)
          have B426 := B425.mono (Nat.le_of_eq W426.size.symm)
          have O426 := O425.wr W426 (Nat.le_trans (own_ole O0) fr423)
          have K426 := K425.wr W426 (Or.inr sz423)
          refine Go.of (fun _ hr => st426 _ hr) ?_
          show Go p e s below _ _ _ _ T426 (mkF m 89 (LA42 p1 p2 p3 p4 rp mp q cc) [(.ref o423)])
          refine Go.of (fun _ hr => XS.dup X426.here hx rfl (hb hby at_89) rfl rfl hr) ?_
          show Go p e s below _ _ _ _ T426 (mkF m 90 (LA42 p1 p2 p3 p4 rp mp q cc) [(.ref o423), (.ref o423)])
          refine Go.of (fun _ hr => XS.iconst X426.here hx rfl (hb hby at_90) hr) ?_
          show Go p e s below _ _ _ _ T426 (mkF m 91 (LA42 p1 p2 p3 p4 rp mp q cc) [(.int (3 : Int32)), (.ref o423), (.ref o423)])
          refine Go.of (fun _ hr => XS.bipush X426.here hx rfl (hb hby at_91) hr) ?_
          show Go p e s below _ _ _ _ T426 (mkF m 93 (LA42 p1 p2 p3 p4 rp mp q cc) [(.int (101 : Int32)), (.int (3 : Int32)), (.ref o423), (.ref o423)])
          obtain ⟨cl427, Ar427, q427, S427, N427_, H427, G427⟩ := id V426
          have hin427 : ¬ ((3 : Int32) < 0 ∨ cl427.slots.size ≤ ((3 : Int32)).toNatClampNeg) := inb_of S427 ⟨by decide, by decide⟩
          obtain ⟨T427, h427, X427, e427, W427, st427⟩ := stC X426 hx hZ e426 Ar427 (j := (3 : Int32)) hin427 (g := (mkF m 93 (LA42 p1 p2 p3 p4 rp mp q cc) [(.int (101 : Int32)), (.int (3 : Int32)), (.ref o423), (.ref o423)])) rfl rfl (hb hby at_93)
          have W427' := W427
          rw [show nar .char (101 : Int32) = (101 : Int32) from rfl] at W427'
          have V427 : Arv Z h427 o423 k423 .char (15 : Int32) [(.int (114 : Int32)), (.int (101 : Int32)), (.int (112 : Int32)), (.int (101 : Int32)), (.int (0 : Int32)), (.int (0 : Int32)), (.int (0 : Int32)), (.int (0 : Int32)), (.int (0 : Int32)), (.int (0 : Int32)), (.int (0 : Int32)), (.int (0 : Int32)), (.int (0 : Int32)), (.int (0 : Int32)), (.int (0 : Int32))] (.int (0 : Int32)) := Arv.set Ar427 q427 S427 N427_ H427 G427 rfl W427' 3 rfl (by simp)
          have N427 := Fr.snoc X427 N426 fr423
          have J427 := J426.wr W427 (List.mem_cons_self ..)
          have B427 := B426.mono (Nat.le_of_eq W427.size.symm)
          have O427 := O426.wr W427 (Nat.le_trans (own_ole O0) fr423)
          have K427 := K426.wr W427 (Or.inr sz423)
          refine Go.of (fun _ hr => st427 _ hr) ?_
          show Go p e s below _ _ _ _ T427 (mkF m 94 (LA42 p1 p2 p3 p4 rp mp q cc) [(.ref o423)])
          refine Go.of (fun _ hr => XS.dup X427.here hx rfl (hb hby at_94) rfl rfl hr) ?_
          show Go p e s below _ _ _ _ T427 (mkF m 95 (LA42 p1 p2 p3 p4 rp mp q cc) [(.ref o423), (.ref o423)])
          refine Go.of (fun _ hr => XS.iconst X427.here hx rfl (hb hby at_95) hr) ?_
          show Go p e s below _ _ _ _ T427 (mkF m 96 (LA42 p1 p2 p3 p4 rp mp q cc) [(.int (4 : Int32)), (.ref o423), (.ref o423)])
          refine Go.of (fun _ hr => XS.bipush X427.here hx rfl (hb hby at_96) hr) ?_
          show Go p e s below _ _ _ _ T427 (mkF m 98 (LA42 p1 p2 p3 p4 rp mp q cc) [(.int (97 : Int32)), (.int (4 : Int32)), (.ref o423), (.ref o423)])
          obtain ⟨cl428, Ar428, q428, S428, N428_, H428, G428⟩ := id V427
          have hin428 : ¬ ((4 : Int32) < 0 ∨ cl428.slots.size ≤ ((4 : Int32)).toNatClampNeg) := inb_of S428 ⟨by decide, by decide⟩
          obtain ⟨T428, h428, X428, e428, W428, st428⟩ := stC X427 hx hZ e427 Ar428 (j := (4 : Int32)) hin428 (g := (mkF m 98 (LA42 p1 p2 p3 p4 rp mp q cc) [(.int (97 : Int32)), (.int (4 : Int32)), (.ref o423), (.ref o423)])) rfl rfl (hb hby at_98)
          have W428' := W428
          rw [show nar .char (97 : Int32) = (97 : Int32) from rfl] at W428'
          have V428 : Arv Z h428 o423 k423 .char (15 : Int32) [(.int (114 : Int32)), (.int (101 : Int32)), (.int (112 : Int32)), (.int (101 : Int32)), (.int (97 : Int32)), (.int (0 : Int32)), (.int (0 : Int32)), (.int (0 : Int32)), (.int (0 : Int32)), (.int (0 : Int32)), (.int (0 : Int32)), (.int (0 : Int32)), (.int (0 : Int32)), (.int (0 : Int32)), (.int (0 : Int32))] (.int (0 : Int32)) := Arv.set Ar428 q428 S428 N428_ H428 G428 rfl W428' 4 rfl (by simp)
          have N428 := Fr.snoc X428 N427 fr423
          have J428 := J427.wr W428 (List.mem_cons_self ..)
          have B428 := B427.mono (Nat.le_of_eq W428.size.symm)
          have O428 := O427.wr W428 (Nat.le_trans (own_ole O0) fr423)
          have K428 := K427.wr W428 (Or.inr sz423)
          refine Go.of (fun _ hr => st428 _ hr) ?_
          show Go p e s below _ _ _ _ T428 (mkF m 99 (LA42 p1 p2 p3 p4 rp mp q cc) [(.ref o423)])
          refine Go.of (fun _ hr => XS.dup X428.here hx rfl (hb hby at_99) rfl rfl hr) ?_
          show Go p e s below _ _ _ _ T428 (mkF m 100 (LA42 p1 p2 p3 p4 rp mp q cc) [(.ref o423), (.ref o423)])
          refine Go.of (fun _ hr => XS.iconst X428.here hx rfl (hb hby at_100) hr) ?_
          show Go p e s below _ _ _ _ T428 (mkF m 101 (LA42 p1 p2 p3 p4 rp mp q cc) [(.int (5 : Int32)), (.ref o423), (.ref o423)])
          refine Go.of (fun _ hr => XS.bipush X428.here hx rfl (hb hby at_101) hr) ?_
          show Go p e s below _ _ _ _ T428 (mkF m 103 (LA42 p1 p2 p3 p4 rp mp q cc) [(.int (116 : Int32)), (.int (5 : Int32)), (.ref o423), (.ref o423)])
          obtain ⟨cl429, Ar429, q429, S429, N429_, H429, G429⟩ := id V428
          have hin429 : ¬ ((5 : Int32) < 0 ∨ cl429.slots.size ≤ ((5 : Int32)).toNatClampNeg) := inb_of S429 ⟨by decide, by decide⟩
          obtain ⟨T429, h429, X429, e429, W429, st429⟩ := stC X428 hx hZ e428 Ar429 (j := (5 : Int32)) hin429 (g := (mkF m 103 (LA42 p1 p2 p3 p4 rp mp q cc) [(.int (116 : Int32)), (.int (5 : Int32)), (.ref o423), (.ref o423)])) rfl rfl (hb hby at_103)
          have W429' := W429
          rw [show nar .char (116 : Int32) = (116 : Int32) from rfl] at W429'
          have V429 : Arv Z h429 o423 k423 .char (15 : Int32) [(.int (114 : Int32)), (.int (101 : Int32)), (.int (112 : Int32)), (.int (101 : Int32)), (.int (97 : Int32)), (.int (116 : Int32)), (.int (0 : Int32)), (.int (0 : Int32)), (.int (0 : Int32)), (.int (0 : Int32)), (.int (0 : Int32)), (.int (0 : Int32)), (.int (0 : Int32)), (.int (0 : Int32)), (.int (0 : Int32))] (.int (0 : Int32)) := Arv.set Ar429 q429 S429 N429_ H429 G429 rfl W429' 5 rfl (by simp)
          have N429 := Fr.snoc X429 N428 fr423
          have J429 := J428.wr W429 (List.mem_cons_self ..)
          have B429 := B428.mono (Nat.le_of_eq W429.size.symm)
          have O429 := O428.wr W429 (Nat.le_trans (own_ole O0) fr423)
          have K429 := K428.wr W429 (Or.inr sz423)
          refine Go.of (fun _ hr => st429 _ hr) ?_
          show Go p e s below _ _ _ _ T429 (mkF m 104 (LA42 p1 p2 p3 p4 rp mp q cc) [(.ref o423)])
          refine Go.of (fun _ hr => XS.dup X429.here hx rfl (hb hby at_104) rfl rfl hr) ?_
          show Go p e s below _ _ _ _ T429 (mkF m 105 (LA42 p1 p2 p3 p4 rp mp q cc) [(.ref o423), (.ref o423)])
          refine Go.of (fun _ hr => XS.bipush X429.here hx rfl (hb hby at_105) hr) ?_
          show Go p e s below _ _ _ _ T429 (mkF m 107 (LA42 p1 p2 p3 p4 rp mp q cc) [(.int (6 : Int32)), (.ref o423), (.ref o423)])
          refine Go.of (fun _ hr => XS.bipush X429.here hx rfl (hb hby at_107) hr) ?_
          show Go p e s below _ _ _ _ T429 (mkF m 109 (LA42 p1 p2 p3 p4 rp mp q cc) [(.int (101 : Int32)), (.int (6 : Int32)), (.ref o423), (.ref o423)])
          obtain ⟨cl430, Ar430, q430, S430, N430_, H430, G430⟩ := id V429
          have hin430 : ¬ ((6 : Int32) < 0 ∨ cl430.slots.size ≤ ((6 : Int32)).toNatClampNeg) := inb_of S430 ⟨by decide, by decide⟩
          obtain ⟨T430, h430, X430, e430, W430, st430⟩ := stC X429 hx hZ e429 Ar430 (j := (6 : Int32)) hin430 (g := (mkF m 109 (LA42 p1 p2 p3 p4 rp mp q cc) [(.int (101 : Int32)), (.int (6 : Int32)), (.ref o423), (.ref o423)])) rfl rfl (hb hby at_109)
          have W430' := W430
          rw [show nar .char (101 : Int32) = (101 : Int32) from rfl] at W430'
          have V430 : Arv Z h430 o423 k423 .char (15 : Int32) [(.int (114 : Int32)), (.int (101 : Int32)), (.int (112 : Int32)), (.int (101 : Int32)), (.int (97 : Int32)), (.int (116 : Int32)), (.int (101 : Int32)), (.int (0 : Int32)), (.int (0 : Int32)), (.int (0 : Int32)), (.int (0 : Int32)), (.int (0 : Int32)), (.int (0 : Int32)), (.int (0 : Int32)), (.int (0 : Int32))] (.int (0 : Int32)) := Arv.set Ar430 q430 S430 N430_ H430 G430 rfl W430' 6 rfl (by simp)
          have N430 := Fr.snoc X430 N429 fr423
          have J430 := J429.wr W430 (List.mem_cons_self ..)
          have B430 := B429.mono (Nat.le_of_eq W430.size.symm)
          have O430 := O429.wr W430 (Nat.le_trans (own_ole O0) fr423)
          have K430 := K429.wr W430 (Or.inr sz423)
          refine Go.of (fun _ hr => st430 _ hr) ?_
          show Go p e s below _ _ _ _ T430 (mkF m 110 (LA42 p1 p2 p3 p4 rp mp q cc) [(.ref o423)])
          refine Go.of (fun _ hr => XS.dup X430.here hx rfl (hb hby at_110) rfl rfl hr) ?_
          show Go p e s below _ _ _ _ T430 (mkF m 111 (LA42 p1 p2 p3 p4 rp mp q cc) [(.ref o423), (.ref o423)])
          refine Go.of (fun _ hr => XS.bipush X430.here hx rfl (hb hby at_111) hr) ?_
          show Go p e s below _ _ _ _ T430 (mkF m 113 (LA42 p1 p2 p3 p4 rp mp q cc) [(.int (7 : Int32)), (.ref o423), (.ref o423)])
          refine Go.of (fun _ hr => XS.bipush X430.here hx rfl (hb hby at_113) hr) ?_
          show Go p e s below _ _ _ _ T430 (mkF m 115 (LA42 p1 p2 p3 p4 rp mp q cc) [(.int (100 : Int32)), (.int (7 : Int32)), (.ref o423), (.ref o423)])
          obtain ⟨cl431, Ar431, q431, S431, N431_, H431, G431⟩ := id V430
          have hin431 : ¬ ((7 : Int32) < 0 ∨ cl431.slots.size ≤ ((7 : Int32)).toNatClampNeg) := inb_of S431 ⟨by decide, by decide⟩
          obtain ⟨T431, h431, X431, e431, W431, st431⟩ := stC X430 hx hZ e430 Ar431 (j := (7 : Int32)) hin431 (g := (mkF m 115 (LA42 p1 p2 p3 p4 rp mp q cc) [(.int (100 : Int32)), (.int (7 : Int32)), (.ref o423), (.ref o423)])) rfl rfl (hb hby at_115)
          have W431' := W431
          rw [show nar .char (100 : Int32) = (100 : Int32) from rfl] at W431'
          have V431 : Arv Z h431 o423 k423 .char (15 : Int32) [(.int (114 : Int32)), (.int (101 : Int32)), (.int (112 : Int32)), (.int (101 : Int32)), (.int (97 : Int32)), (.int (116 : Int32)), (.int (101 : Int32)), (.int (100 : Int32)), (.int (0 : Int32)), (.int (0 : Int32)), (.int (0 : Int32)), (.int (0 : Int32)), (.int (0 : Int32)), (.int (0 : Int32)), (.int (0 : Int32))] (.int (0 : Int32)) := Arv.set Ar431 q431 S431 N431_ H431 G431 rfl W431' 7 rfl (by simp)
          have N431 := Fr.snoc X431 N430 fr423
          have J431 := J430.wr W431 (List.mem_cons_self ..)
          have B431 := B430.mono (Nat.le_of_eq W431.size.symm)
          have O431 := O430.wr W431 (Nat.le_trans (own_ole O0) fr423)
          have K431 := K430.wr W431 (Or.inr sz423)
          refine Go.of (fun _ hr => st431 _ hr) ?_
          show Go p e s below _ _ _ _ T431 (mkF m 116 (LA42 p1 p2 p3 p4 rp mp q cc) [(.ref o423)])
          refine Go.of (fun _ hr => XS.dup X431.here hx rfl (hb hby at_116) rfl rfl hr) ?_
          show Go p e s below _ _ _ _ T431 (mkF m 117 (LA42 p1 p2 p3 p4 rp mp q cc) [(.ref o423), (.ref o423)])
          refine Go.of (fun _ hr => XS.bipush X431.here hx rfl (hb hby at_117) hr) ?_
          show Go p e s below _ _ _ _ T431 (mkF m 119 (LA42 p1 p2 p3 p4 rp mp q cc) [(.int (8 : Int32)), (.ref o423), (.ref o423)])
          refine Go.of (fun _ hr => XS.bipush X431.here hx rfl (hb hby at_119) hr) ?_
          show Go p e s below _ _ _ _ T431 (mkF m 121 (LA42 p1 p2 p3 p4 rp mp q cc) [(.int (32 : Int32)), (.int (8 : Int32)), (.ref o423), (.ref o423)])
          obtain ⟨cl432, Ar432, q432, S432, N432_, H432, G432⟩ := id V431
          have hin432 : ¬ ((8 : Int32) < 0 ∨ cl432.slots.size ≤ ((8 : Int32)).toNatClampNeg) := inb_of S432 ⟨by decide, by decide⟩
          obtain ⟨T432, h432, X432, e432, W432, st432⟩ := stC X431 hx hZ e431 Ar432 (j := (8 : Int32)) hin432 (g := (mkF m 121 (LA42 p1 p2 p3 p4 rp mp q cc) [(.int (32 : Int32)), (.int (8 : Int32)), (.ref o423), (.ref o423)])) rfl rfl (hb hby at_121)
          have W432' := W432
          rw [show nar .char (32 : Int32) = (32 : Int32) from rfl] at W432'
          have V432 : Arv Z h432 o423 k423 .char (15 : Int32) [(.int (114 : Int32)), (.int (101 : Int32)), (.int (112 : Int32)), (.int (101 : Int32)), (.int (97 : Int32)), (.int (116 : Int32)), (.int (101 : Int32)), (.int (100 : Int32)), (.int (32 : Int32)), (.int (0 : Int32)), (.int (0 : Int32)), (.int (0 : Int32)), (.int (0 : Int32)), (.int (0 : Int32)), (.int (0 : Int32))] (.int (0 : Int32)) := Arv.set Ar432 q432 S432 N432_ H432 G432 rfl W432' 8 rfl (by simp)
          have N432 := Fr.snoc X432 N431 fr423
          have J432 := J431.wr W432 (List.mem_cons_self ..)
          have B432 := B431.mono (Nat.le_of_eq W432.size.symm)
          have O432 := O431.wr W432 (Nat.le_trans (own_ole O0) fr423)
          have K432 := K431.wr W432 (Or.inr sz423)
          refine Go.of (fun _ hr => st432 _ hr) ?_
          show Go p e s below _ _ _ _ T432 (mkF m 122 (LA42 p1 p2 p3 p4 rp mp q cc) [(.ref o423)])
          refine Go.of (fun _ hr => XS.dup X432.here hx rfl (hb hby at_122) rfl rfl hr) ?_
          show Go p e s below _ _ _ _ T432 (mkF m 123 (LA42 p1 p2 p3 p4 rp mp q cc) [(.ref o423), (.ref o423)])
          refine Go.of (fun _ hr => XS.bipush X432.here hx rfl (hb hby at_123) hr) ?_
          show Go p e s below _ _ _ _ T432 (mkF m 125 (LA42 p1 p2 p3 p4 rp mp q cc) [(.int (9 : Int32)), (.ref o423), (.ref o423)])
          refine Go.of (fun _ hr => XS.bipush X432.here hx rfl (hb hby at_125) hr) ?_
          show Go p e s below _ _ _ _ T432 (mkF m 127 (LA42 p1 p2 p3 p4 rp mp q cc) [(.int (115 : Int32)), (.int (9 : Int32)), (.ref o423), (.ref o423)])
          obtain ⟨cl433, Ar433, q433, S433, N433_, H433, G433⟩ := id V432
          have hin433 : ¬ ((9 : Int32) < 0 ∨ cl433.slots.size ≤ ((9 : Int32)).toNatClampNeg) := inb_of S433 ⟨by decide, by decide⟩
          obtain ⟨T433, h433, X433, e433, W433, st433⟩ := stC X432 hx hZ e432 Ar433 (j := (9 : Int32)) hin433 (g := (mkF m 127 (LA42 p1 p2 p3 p4 rp mp q cc) [(.int (115 : Int32)), (.int (9 : Int32)), (.ref o423), (.ref o423)])) rfl rfl (hb hby at_127)
          have W433' := W433
          rw [show nar .char (115 : Int32) = (115 : Int32) from rfl] at W433'
          have V433 : Arv Z h433 o423 k423 .char (15 : Int32) [(.int (114 : Int32)), (.int (101 : Int32)), (.int (112 : Int32)), (.int (101 : Int32)), (.int (97 : Int32)), (.int (116 : Int32)), (.int (101 : Int32)), (.int (100 : Int32)), (.int (32 : Int32)), (.int (115 : Int32)), (.int (0 : Int32)), (.int (0 : Int32)), (.int (0 : Int32)), (.int (0 : Int32)), (.int (0 : Int32))] (.int (0 : Int32)) := Arv.set Ar433 q433 S433 N433_ H433 G433 rfl W433' 9 rfl (by simp)
          have N433 := Fr.snoc X433 N432 fr423
          have J433 := J432.wr W433 (List.mem_cons_self ..)
          have B433 := B432.mono (Nat.le_of_eq W433.size.symm)
          have O433 := O432.wr W433 (Nat.le_trans (own_ole O0) fr423)
          have K433 := K432.wr W433 (Or.inr sz423)
          refine Go.of (fun _ hr => st433 _ hr) ?_
          show Go p e s below _ _ _ _ T433 (mkF m 128 (LA42 p1 p2 p3 p4 rp mp q cc) [(.ref o423)])
          refine Go.of (fun _ hr => XS.dup X433.here hx rfl (hb hby at_128) rfl rfl hr) ?_
          show Go p e s below _ _ _ _ T433 (mkF m 129 (LA42 p1 p2 p3 p4 rp mp q cc) [(.ref o423), (.ref o423)])
          refine Go.of (fun _ hr => XS.bipush X433.here hx rfl (hb hby at_129) hr) ?_
          show Go p e s below _ _ _ _ T433 (mkF m 131 (LA42 p1 p2 p3 p4 rp mp q cc) [(.int (10 : Int32)), (.ref o423), (.ref o423)])
          refine Go.of (fun _ hr => XS.bipush X433.here hx rfl (hb hby at_131) hr) ?_
          show Go p e s below _ _ _ _ T433 (mkF m 133 (LA42 p1 p2 p3 p4 rp mp q cc) [(.int (116 : Int32)), (.int (10 : Int32)), (.ref o423), (.ref o423)])
          obtain ⟨cl434, Ar434, q434, S434, N434_, H434, G434⟩ := id V433
          have hin434 : ¬ ((10 : Int32) < 0 ∨ cl434.slots.size ≤ ((10 : Int32)).toNatClampNeg) := inb_of S434 ⟨by decide, by decide⟩
          obtain ⟨T434, h434, X434, e434, W434, st434⟩ := stC X433 hx hZ e433 Ar434 (j := (10 : Int32)) hin434 (g := (mkF m 133 (LA42 p1 p2 p3 p4 rp mp q cc) [(.int (116 : Int32)), (.int (10 : Int32)), (.ref o423), (.ref o423)])) rfl rfl (hb hby at_133)
          have W434' := W434
          rw [show nar .char (116 : Int32) = (116 : Int32) from rfl] at W434'
          have V434 : Arv Z h434 o423 k423 .char (15 : Int32) [(.int (114 : Int32)), (.int (101 : Int32)), (.int (112 : Int32)), (.int (101 : Int32)), (.int (97 : Int32)), (.int (116 : Int32)), (.int (101 : Int32)), (.int (100 : Int32)), (.int (32 : Int32)), (.int (115 : Int32)), (.int (116 : Int32)), (.int (0 : Int32)), (.int (0 : Int32)), (.int (0 : Int32)), (.int (0 : Int32))] (.int (0 : Int32)) := Arv.set Ar434 q434 S434 N434_ H434 G434 rfl W434' 10 rfl (by simp)
          have N434 := Fr.snoc X434 N433 fr423
          have J434 := J433.wr W434 (List.mem_cons_self ..)
          have B434 := B433.mono (Nat.le_of_eq W434.size.symm)
          have O434 := O433.wr W434 (Nat.le_trans (own_ole O0) fr423)
          have K434 := K433.wr W434 (Or.inr sz423)
          refine Go.of (fun _ hr => st434 _ hr) ?_
          show Go p e s below _ _ _ _ T434 (mkF m 134 (LA42 p1 p2 p3 p4 rp mp q cc) [(.ref o423)])
          refine Go.of (fun _ hr => XS.dup X434.here hx rfl (hb hby at_134) rfl rfl hr) ?_
          show Go p e s below _ _ _ _ T434 (mkF m 135 (LA42 p1 p2 p3 p4 rp mp q cc) [(.ref o423), (.ref o423)])
          refine Go.of (fun _ hr => XS.bipush X434.here hx rfl (hb hby at_135) hr) ?_
          show Go p e s below _ _ _ _ T434 (mkF m 137 (LA42 p1 p2 p3 p4 rp mp q cc) [(.int (11 : Int32)), (.ref o423), (.ref o423)])
          refine Go.of (fun _ hr => XS.bipush X434.here hx rfl (hb hby at_137) hr) ?_
          show Go p e s below _ _ _ _ T434 (mkF m 139 (LA42 p1 p2 p3 p4 rp mp q cc) [(.int (114 : Int32)), (.int (11 : Int32)), (.ref o423), (.ref o423)])
          obtain ⟨cl435, Ar435, q435, S435, N435_, H435, G435⟩ := id V434
          have hin435 : ¬ ((11 : Int32) < 0 ∨ cl435.slots.size ≤ ((11 : Int32)).toNatClampNeg) := inb_of S435 ⟨by decide, by decide⟩
          obtain ⟨T435, h435, X435, e435, W435, st435⟩ := stC X434 hx hZ e434 Ar435 (j := (11 : Int32)) hin435 (g := (mkF m 139 (LA42 p1 p2 p3 p4 rp mp q cc) [(.int (114 : Int32)), (.int (11 : Int32)), (.ref o423), (.ref o423)])) rfl rfl (hb hby at_139)
          have W435' := W435
          rw [show nar .char (114 : Int32) = (114 : Int32) from rfl] at W435'
          have V435 : Arv Z h435 o423 k423 .char (15 : Int32) [(.int (114 : Int32)), (.int (101 : Int32)), (.int (112 : Int32)), (.int (101 : Int32)), (.int (97 : Int32)), (.int (116 : Int32)), (.int (101 : Int32)), (.int (100 : Int32)), (.int (32 : Int32)), (.int (115 : Int32)), (.int (116 : Int32)), (.int (114 : Int32)), (.int (0 : Int32)), (.int (0 : Int32)), (.int (0 : Int32))] (.int (0 : Int32)) := Arv.set Ar435 q435 S435 N435_ H435 G435 rfl W435' 11 rfl (by simp)
          have N435 := Fr.snoc X435 N434 fr423
          have J435 := J434.wr W435 (List.mem_cons_self ..)
          have B435 := B434.mono (Nat.le_of_eq W435.size.symm)
          have O435 := O434.wr W435 (Nat.le_trans (own_ole O0) fr423)
          have K435 := K434.wr W435 (Or.inr sz423)
          refine Go.of (fun _ hr => st435 _ hr) ?_
          show Go p e s below _ _ _ _ T435 (mkF m 140 (LA42 p1 p2 p3 p4 rp mp q cc) [(.ref o423)])
          refine Go.of (fun _ hr => XS.dup X435.here hx rfl (hb hby at_140) rfl rfl hr) ?_
          show Go p e s below _ _ _ _ T435 (mkF m 141 (LA42 p1 p2 p3 p4 rp mp q cc) [(.ref o423), (.ref o423)])
          refine Go.of (fun _ hr => XS.bipush X435.here hx rfl (hb hby at_141) hr) ?_
          show Go p e s below _ _ _ _ T435 (mkF m 143 (LA42 p1 p2 p3 p4 rp mp q cc) [(.int (12 : Int32)), (.ref o423), (.ref o423)])
          refine Go.of (fun _ hr => XS.bipush X435.here hx rfl (hb hby at_143) hr) ?_
          show Go p e s below _ _ _ _ T435 (mkF m 145 (LA42 p1 p2 p3 p4 rp mp q cc) [(.int (105 : Int32)), (.int (12 : Int32)), (.ref o423), (.ref o423)])
          obtain ⟨cl436, Ar436, q436, S436, N436_, H436, G436⟩ := id V435
          have hin436 : ¬ ((12 : Int32) < 0 ∨ cl436.slots.size ≤ ((12 : Int32)).toNatClampNeg) := inb_of S436 ⟨by decide, by decide⟩
          obtain ⟨T436, h436, X436, e436, W436, st436⟩ := stC X435 hx hZ e435 Ar436 (j := (12 : Int32)) hin436 (g := (mkF m 145 (LA42 p1 p2 p3 p4 rp mp q cc) [(.int (105 : Int32)), (.int (12 : Int32)), (.ref o423), (.ref o423)])) rfl rfl (hb hby at_145)
          have W436' := W436
          rw [show nar .char (105 : Int32) = (105 : Int32) from rfl] at W436'
          have V436 : Arv Z h436 o423 k423 .char (15 : Int32) [(.int (114 : Int32)), (.int (101 : Int32)), (.int (112 : Int32)), (.int (101 : Int32)), (.int (97 : Int32)), (.int (116 : Int32)), (.int (101 : Int32)), (.int (100 : Int32)), (.int (32 : Int32)), (.int (115 : Int32)), (.int (116 : Int32)), (.int (114 : Int32)), (.int (105 : Int32)), (.int (0 : Int32)), (.int (0 : Int32))] (.int (0 : Int32)) := Arv.set Ar436 q436 S436 N436_ H436 G436 rfl W436' 12 rfl (by simp)
          have N436 := Fr.snoc X436 N435 fr423
          have J436 := J435.wr W436 (List.mem_cons_self ..)
          have B436 := B435.mono (Nat.le_of_eq W436.size.symm)
          have O436 := O435.wr W436 (Nat.le_trans (own_ole O0) fr423)
          have K436 := K435.wr W436 (Or.inr sz423)
          refine Go.of (fun _ hr => st436 _ hr) ?_
          show Go p e s below _ _ _ _ T436 (mkF m 146 (LA42 p1 p2 p3 p4 rp mp q cc) [(.ref o423)])
          refine Go.of (fun _ hr => XS.dup X436.here hx rfl (hb hby at_146) rfl rfl hr) ?_
          show Go p e s below _ _ _ _ T436 (mkF m 147 (LA42 p1 p2 p3 p4 rp mp q cc) [(.ref o423), (.ref o423)])
          refine Go.of (fun _ hr => XS.bipush X436.here hx rfl (hb hby at_147) hr) ?_
          show Go p e s below _ _ _ _ T436 (mkF m 149 (LA42 p1 p2 p3 p4 rp mp q cc) [(.int (13 : Int32)), (.ref o423), (.ref o423)])
          refine Go.of (fun _ hr => XS.bipush X436.here hx rfl (hb hby at_149) hr) ?_
          show Go p e s below _ _ _ _ T436 (mkF m 151 (LA42 p1 p2 p3 p4 rp mp q cc) [(.int (110 : Int32)), (.int (13 : Int32)), (.ref o423), (.ref o423)])
          obtain ⟨cl437, Ar437, q437, S437, N437_, H437, G437⟩ := id V436
          have hin437 : ¬ ((13 : Int32) < 0 ∨ cl437.slots.size ≤ ((13 : Int32)).toNatClampNeg) := inb_of S437 ⟨by decide, by decide⟩
          obtain ⟨T437, h437, X437, e437, W437, st437⟩ := stC X436 hx hZ e436 Ar437 (j := (13 : Int32)) hin437 (g := (mkF m 151 (LA42 p1 p2 p3 p4 rp mp q cc) [(.int (110 : Int32)), (.int (13 : Int32)), (.ref o423), (.ref o423)])) rfl rfl (hb hby at_151)
          have W437' := W437
          rw [show nar .char (110 : Int32) = (110 : Int32) from rfl] at W437'
          have V437 : Arv Z h437 o423 k423 .char (15 : Int32) [(.int (114 : Int32)), (.int (101 : Int32)), (.int (112 : Int32)), (.int (101 : Int32)), (.int (97 : Int32)), (.int (116 : Int32)), (.int (101 : Int32)), (.int (100 : Int32)), (.int (32 : Int32)), (.int (115 : Int32)), (.int (116 : Int32)), (.int (114 : Int32)), (.int (105 : Int32)), (.int (110 : Int32)), (.int (0 : Int32))] (.int (0 : Int32)) := Arv.set Ar437 q437 S437 N437_ H437 G437 rfl W437' 13 rfl (by simp)
          have N437 := Fr.snoc X437 N436 fr423
          have J437 := J436.wr W437 (List.mem_cons_self ..)
          have B437 := B436.mono (Nat.le_of_eq W437.size.symm)
          have O437 := O436.wr W437 (Nat.le_trans (own_ole O0) fr423)
          have K437 := K436.wr W437 (Or.inr sz423)
          refine Go.of (fun _ hr => st437 _ hr) ?_
          show Go p e s below _ _ _ _ T437 (mkF m 152 (LA42 p1 p2 p3 p4 rp mp q cc) [(.ref o423)])
          refine Go.of (fun _ hr => XS.dup X437.here hx rfl (hb hby at_152) rfl rfl hr) ?_
          show Go p e s below _ _ _ _ T437 (mkF m 153 (LA42 p1 p2 p3 p4 rp mp q cc) [(.ref o423), (.ref o423)])
          refine Go.of (fun _ hr => XS.bipush X437.here hx rfl (hb hby at_153) hr) ?_
          show Go p e s below _ _ _ _ T437 (mkF m 155 (LA42 p1 p2 p3 p4 rp mp q cc) [(.int (14 : Int32)), (.ref o423), (.ref o423)])
          refine Go.of (fun _ hr => XS.bipush X437.here hx rfl (hb hby at_155) hr) ?_
          show Go p e s below _ _ _ _ T437 (mkF m 157 (LA42 p1 p2 p3 p4 rp mp q cc) [(.int (103 : Int32)), (.int (14 : Int32)), (.ref o423), (.ref o423)])
          obtain ⟨cl438, Ar438, q438, S438, N438_, H438, G438⟩ := id V437
          have hin438 : ¬ ((14 : Int32) < 0 ∨ cl438.slots.size ≤ ((14 : Int32)).toNatClampNeg) := inb_of S438 ⟨by decide, by decide⟩
          obtain ⟨T438, h438, X438, e438, W438, st438⟩ := stC X437 hx hZ e437 Ar438 (j := (14 : Int32)) hin438 (g := (mkF m 157 (LA42 p1 p2 p3 p4 rp mp q cc) [(.int (103 : Int32)), (.int (14 : Int32)), (.ref o423), (.ref o423)])) rfl rfl (hb hby at_157)
          have W438' := W438
          rw [show nar .char (103 : Int32) = (103 : Int32) from rfl] at W438'
          have V438 : Arv Z h438 o423 k423 .char (15 : Int32) [(.int (114 : Int32)), (.int (101 : Int32)), (.int (112 : Int32)), (.int (101 : Int32)), (.int (97 : Int32)), (.int (116 : Int32)), (.int (101 : Int32)), (.int (100 : Int32)), (.int (32 : Int32)), (.int (115 : Int32)), (.int (116 : Int32)), (.int (114 : Int32)), (.int (105 : Int32)), (.int (110 : Int32)), (.int (103 : Int32))] (.int (0 : Int32)) := Arv.set Ar438 q438 S438 N438_ H438 G438 rfl W438' 14 rfl (by simp)
          have N438 := Fr.snoc X438 N437 fr423
          have J438 := J437.wr W438 (List.mem_cons_self ..)
          have B438 := B437.mono (Nat.le_of_eq W438.size.symm)
          have O438 := O437.wr W438 (Nat.le_trans (own_ole O0) fr423)
          have K438 := K437.wr W438 (Or.inr sz423)
          refine Go.of (fun _ hr => st438 _ hr) ?_
          show Go p e s below _ _ _ _ T438 (mkF m 158 (LA42 p1 p2 p3 p4 rp mp q cc) [(.ref o423)])
          refine Go.of (fun _ hr => XS.goto X438.here hx rfl (pc0 := 158) (pc' := 195) rfl (hb hby at_158) (by decide) (by decide) hr) ?_
          show Go p e s below _ _ _ _ T438 (mkF m 195 (LA42 p1 p2 p3 p4 rp mp q cc) [(.ref o423)])
          refine Go.of (fun _ hr => XS.astore X438.here hx rfl (hb hby at_195) rfl rfl (l' := (LA43 p1 p2 p3 p4 rp mp q cc o423)) rfl hr) ?_
          show Go p e s below _ _ _ _ T438 (mkF m 197 (LA43 p1 p2 p3 p4 rp mp q cc o423) [])
          refine Go.of (fun _ hr => XS.aload X438.here hx rfl (hb hby at_197) rfl rfl hr) ?_
          show Go p e s below _ _ _ _ T438 (mkF m 199 (LA43 p1 p2 p3 p4 rp mp q cc o423) [(.ref o423)])
          obtain ⟨cl439, Ar439, q439, S439, N439_, H439, G439⟩ := id V438
          refine Go.of (fun _ hr => X438.arraylength hx (by rw [e438]; exact Ar439.1) (State.isArrayOf_alike hZ.alike Ar439.2.1) (g := (mkF m 199 (LA43 p1 p2 p3 p4 rp mp q cc o423) [(.ref o423)])) rfl rfl (hb hby at_199) _ hr) ?_
          rw [len_of S439 N439_]
          show Go p e s below _ _ _ _ T438 (mkF m 200 (LA43 p1 p2 p3 p4 rp mp q cc o423) [(.int (15 : Int32))])
          refine Go.of (fun _ hr => XS.iload X438.here hx rfl (hb hby at_200) rfl  hr) ?_
          show Go p e s below _ _ _ _ T438 (mkF m 202 (LA43 p1 p2 p3 p4 rp mp q cc o423) [(.int (1 : Int32)), (.int (15 : Int32))])
          refine Go.of (fun _ hr => XS.iadd X438.here hx rfl (hb hby at_202) rfl hr) ?_
          show Go p e s below _ _ _ _ T438 (mkF m 203 (LA43 p1 p2 p3 p4 rp mp q cc o423) [(.int (16 : Int32))])
          refine Go.of (fun _ hr => XS.istore X438.here hx rfl (hb hby at_203) rfl (l' := (LA44 p1 p2 p3 p4 rp mp q cc o423)) rfl hr) ?_
          show Go p e s below _ _ _ _ T438 (mkF m 205 (LA44 p1 p2 p3 p4 rp mp q cc o423) [])
          refine Go.of (fun _ hr => XS.iload X438.here hx rfl (hb hby at_205) rfl  hr) ?_
          show Go p e s below _ _ _ _ T438 (mkF m 207 (LA44 p1 p2 p3 p4 rp mp q cc o423) [(.int (16 : Int32))])
          obtain ⟨T440, h440, k440, X440, e440, E440, A440, st440⟩ := newP X438 hx hZ (hw _ (List.mem_of_getElem? (i := 1) rfl)) e438 (g := (mkF m 207 (LA44 p1 p2 p3 p4 rp mp q cc o423) [(.int (16 : Int32))])) rfl (hb hby at_207) rfl (by decide) (cap := 16) (by decide) (by decide) (by decide) (by decide)
          obtain ⟨o440, g440⟩ : ∃ z, z = h438.size := ⟨_, rfl⟩
          rw [← g440] at A440 st440
          have ne_o423_o440 : o423 ≠ o440 := Nat.ne_of_lt (Nat.lt_of_lt_of_le V438.lt (Nat.le_of_eq g440.symm))
          have V440 : Arv Z h440 o440 k440 .char (16 : Int32) [(.int (0 : Int32)), (.int (0 : Int32)), (.int (0 : Int32)), (.int (0 : Int32)), (.int (0 : Int32)), (.int (0 : Int32)), (.int (0 : Int32)), (.int (0 : Int32)), (.int (0 : Int32)), (.int (0 : Int32)), (.int (0 : Int32)), (.int (0 : Int32)), (.int (0 : Int32)), (.int (0 : Int32)), (.int (0 : Int32)), (.int (0 : Int32))] (.int (0 : Int32)) := (Arv.new A440 (by decide)).pad (pad_rep [] (.int (0 : Int32)) 16)
          have lt440 : o440 < h440.size := A440.lt
          have J440 := J438.add E440 g440 lt440
          have B440 := B438.mono E440.1
          have O440 := O438.ext E440
          have sz440 : h0.size ≤ o440 := Nat.le_trans K438.1 (Nat.le_of_eq g440.symm)
          have fr440 : h0.size ≤ o440 := sz440
          have K440 := K438.ext E440
          refine Go.of (fun _ hr => st440 _ hr) ?_
          show Go p e s below _ _ _ _ T440 (mkF m 209 (LA44 p1 p2 p3 p4 rp mp q cc o423) [(.ref o440)])
          refine Go.of (fun _ hr => XS.astore X440.here hx rfl (hb hby at_209) rfl rfl (l' := (LA45 p1 p2 p3 p4 rp mp q cc o423 o440)) rfl hr) ?_
          show Go p e s below _ _ _ _ T440 (mkF m 211 (LA45 p1 p2 p3 p4 rp mp q cc o423 o440) [])
          refine Go.of (fun _ hr => XS.iload X440.here hx rfl (hb hby at_211) rfl  hr) ?_
          show Go p e s below _ _ _ _ T440 (mkF m 213 (LA45 p1 p2 p3 p4 rp mp q cc o423 o440) [(.int (16 : Int32))])
          refine Go.of (fun _ hr => XS.ifNo X440.here hx rfl (hb hby at_213) rfl ((if0 _ _).trans (tlt (by decide : ((0 : Int32) < (16 : Int32)))).2.2.2) hr) ?_
          show Go p e s below _ _ _ _ T440 (mkF m 216 (LA45 p1 p2 p3 p4 rp mp q cc o423 o440) [])
          refine Go.of (fun _ hr => XS.aload X440.here hx rfl (hb hby at_216) rfl rfl hr) ?_
          show Go p e s below _ _ _ _ T440 (mkF m 218 (LA45 p1 p2 p3 p4 rp mp q cc o423 o440) [(.ref o440)])
          refine Go.of (fun _ hr => XS.iconst X440.here hx rfl (hb hby at_218) hr) ?_
          show Go p e s below _ _ _ _ T440 (mkF m 219 (LA45 p1 p2 p3 p4 rp mp q cc o423 o440) [(.int (0 : Int32)), (.ref o440)])
          refine Go.of (fun _ hr => XS.aload X440.here hx rfl (hb hby at_219) rfl rfl hr) ?_
          show Go p e s below _ _ _ _ T440 (mkF m 221 (LA45 p1 p2 p3 p4 rp mp q cc o423 o440) [(.ref o423), (.int (0 : Int32)), (.ref o440)])
          refine Go.of (fun _ hr => XS.iconst X440.here hx rfl (hb hby at_221) hr) ?_
          show Go p e s below _ _ _ _ T440 (mkF m 222 (LA45 p1 p2 p3 p4 rp mp q cc o423 o440) [(.int (0 : Int32)), (.ref o423), (.int (0 : Int32)), (.ref o440)])
          refine Go.of (fun _ hr => XS.iload X440.here hx rfl (hb hby at_222) rfl  hr) ?_
          show Go p e s below _ _ _ _ T440 (mkF m 224 (LA45 p1 p2 p3 p4 rp mp q cc o423 o440) [(.int q), (.int (0 : Int32)), (.ref o423), (.int (0 : Int32)), (.ref o440)])
          refine Go.of (fun _ hr => XS.iload X440.here hx rfl (hb hby at_224) rfl  hr) ?_
          show Go p e s below _ _ _ _ T440 (mkF m 226 (LA45 p1 p2 p3 p4 rp mp q cc o423 o440) [(.int cc), (.int q), (.int (0 : Int32)), (.ref o423), (.int (0 : Int32)), (.ref o440)])
          have f442 := (V438.ext E440)
          obtain ⟨_, b441, T441, h441, L441, e441, Cc441, X441, B441, J441, g441, hQ441, st441⟩ := own_callS Cc B440 J440 X440 (hw _ (List.mem_of_getElem? (i := 2) rfl)) (hw _ (List.mem_of_getElem? (i := 3) rfl)) (hw _ (List.mem_of_getElem? (i := 4) rfl)) (hw _ (List.mem_of_getElem? (i := 5) rfl)) (by decide) (rm1 l Z a0 hw [] o423 _ (0 : Int32) q cc bR _ h440 n0 O440 h0.size (own_ole O0) K440.1 bR_rng (by decide) (by decide) hq_cc f442) e440 (g := (mkF m 226 (LA45 p1 p2 p3 p4 rp mp q cc o423 o440) [(.int cc), (.int q), (.int (0 : Int32)), (.ref o423), (.int (0 : Int32)), (.ref o440)])) rfl (by rw [hml]; rfl) (argsL := [(.ref o423), (.int (0 : Int32)), (.int q), (.int cc)]) (rest := [(.int (0 : Int32)), (.ref o440)]) (lenOf pd7 rfl) rfl (W := 2) (by show 2 * 0 + _ ≤ _; exact Nat.le_of_eq rfl) (hb hby at_226) (by decide) (by decide) (by decide) (by decide)
          obtain ⟨rfl, Nq441, hh441⟩ := hQ441
          have N441 := Fr.app N438 Nq441
          obtain ⟨hx, hZ, hown, hby, hml, hnm, hret, hlk⟩ := id Cc441
          rw [hh441] at e441 B441 J441
          refine Go.of st441 ?_
          show Go p e s below _ _ _ _ T441 (mkF m 229 (LA45 p1 p2 p3 p4 rp mp q cc o423 o440) [(.int (atV bR (0 : Int32) q cc)), (.int (0 : Int32)), (.ref o440)])
          have Vz : Arv Z h440 o440 k440 .char (16 : Int32) ((outL bR 0 q cc).map Value.int) (.int 0) := Arv.fill0 V440
          obtain ⟨cl443, Ar443, q443, S443, N443_, H443, G443⟩ := id Vz
          have hin443 : ¬ ((0 : Int32) < 0 ∨ cl443.slots.size ≤ ((0 : Int32)).toNatClampNeg) := inb_of S443 ⟨by decide, by decide⟩
          obtain ⟨T443, h443, X443, e443, W443, st443⟩ := stC X441 hx hZ e441 Ar443 (j := (0 : Int32)) hin443 (g := (mkF m 229 (LA45 p1 p2 p3 p4 rp mp q cc o423 o440) [(.int (atV bR (0 : Int32) q cc)), (.int (0 : Int32)), (.ref o440)])) rfl rfl (hb hby at_229)
          rw [nar_c (atV_rng bR_rng (by decide) (by decide) hq_cc).1 (le255 (atV_rng bR_rng (by decide) (by decide) hq_cc).2)] at W443
          have V443 : Arv Z h443 o440 k440 .char (16 : Int32) ((outL bR 1 q cc).map Value.int) (.int 0) := outL_push bR 0 q cc ▸ own_push Vz W443 (by rw [List.length_map, outL_len]; decide) (fits_c (atV_rng bR_rng (by decide) (by decide) hq_cc).1 (le255 (atV_rng bR_rng (by decide) (by decide) hq_cc).2))
          have N443 := Fr.snoc X443 N441 fr440
          have J443 := J441.wr W443 (List.mem_cons_self ..)
          have B443 := B441.mono (Nat.le_of_eq W443.size.symm)
          have O443 := O440.wr W443 (Nat.le_trans (own_ole O0) fr440)
          have K443 := K440.wr W443 (Or.inr sz440)
          refine Go.of (fun _ hr => st443 _ hr) ?_
          show Go p e s below _ _ _ _ T443 (mkF m 230 (LA45 p1 p2 p3 p4 rp mp q cc o423 o440) [])
          refine Go.of (fun _ hr => XS.iload X443.here hx rfl (hb hby at_230) rfl  hr) ?_
          show Go p e s below _ _ _ _ T443 (mkF m 232 (LA45 p1 p2 p3 p4 rp mp q cc o423 o440) [(.int (16 : Int32))])
          refine Go.of (fun _ hr => XS.iconst X443.here hx rfl (hb hby at_232) hr) ?_
          show Go p e s below _ _ _ _ T443 (mkF m 233 (LA45 p1 p2 p3 p4 rp mp q cc o423 o440) [(.int (1 : Int32)), (.int (16 : Int32))])
          refine Go.of (fun _ hr => XS.icmpNo X443.here hx rfl (hb hby at_233) rfl (tlt (by decide : ((1 : Int32) < (16 : Int32)))).2.2.2 hr) ?_
          show Go p e s below _ _ _ _ T443 (mkF m 236 (LA45 p1 p2 p3 p4 rp mp q cc o423 o440) [])
          refine Go.of (fun _ hr => XS.aload X443.here hx rfl (hb hby at_236) rfl rfl hr) ?_
          show Go p e s below _ _ _ _ T443 (mkF m 238 (LA45 p1 p2 p3 p4 rp mp q cc o423 o440) [(.ref o440)])
          refine Go.of (fun _ hr => XS.iconst X443.here hx rfl (hb hby at_238) hr) ?_
          show Go p e s below _ _ _ _ T443 (mkF m 239 (LA45 p1 p2 p3 p4 rp mp q cc o423 o440) [(.int (1 : Int32)), (.ref o440)])
          refine Go.of (fun _ hr => XS.aload X443.here hx rfl (hb hby at_239) rfl rfl hr) ?_
          show Go p e s below _ _ _ _ T443 (mkF m 241 (LA45 p1 p2 p3 p4 rp mp q cc o423 o440) [(.ref o423), (.int (1 : Int32)), (.ref o440)])
          refine Go.of (fun _ hr => XS.iconst X443.here hx rfl (hb hby at_241) hr) ?_
          show Go p e s below _ _ _ _ T443 (mkF m 242 (LA45 p1 p2 p3 p4 rp mp q cc o423 o440) [(.int (1 : Int32)), (.ref o423), (.int (1 : Int32)), (.ref o440)])
          refine Go.of (fun _ hr => XS.iload X443.here hx rfl (hb hby at_242) rfl  hr) ?_
          show Go p e s below _ _ _ _ T443 (mkF m 244 (LA45 p1 p2 p3 p4 rp mp q cc o423 o440) [(.int q), (.int (1 : Int32)), (.ref o423), (.int (1 : Int32)), (.ref o440)])
          refine Go.of (fun _ hr => XS.iload X443.here hx rfl (hb hby at_244) rfl  hr) ?_
          show Go p e s below _ _ _ _ T443 (mkF m 246 (LA45 p1 p2 p3 p4 rp mp q cc o423 o440) [(.int cc), (.int q), (.int (1 : Int32)), (.ref o423), (.int (1 : Int32)), (.ref o440)])
          have f445 := (f442.other W443 ne_o423_o440)
          obtain ⟨_, b444, T444, h444, L444, e444, Cc444, X444, B444, J444, g444, hQ444, st444⟩ := own_callS Cc441 B443 J443 X443 (hw _ (List.mem_of_getElem? (i := 2) rfl)) (hw _ (List.mem_of_getElem? (i := 3) rfl)) (hw _ (List.mem_of_getElem? (i := 4) rfl)) (hw _ (List.mem_of_getElem? (i := 5) rfl)) (by decide) (rm1 l Z a0 hw [] o423 _ (1 : Int32) q cc bR _ h443 n0 O443 h0.size (own_ole O0) K443.1 bR_rng (by decide) (by decide) hq_cc f445) e443 (g := (mkF m 246 (LA45 p1 p2 p3 p4 rp mp q cc o423 o440) [(.int cc), (.int q), (.int (1 : Int32)), (.ref o423), (.int (1 : Int32)), (.ref o440)])) rfl (by rw [hml]; rfl) (argsL := [(.ref o423), (.int (1 : Int32)), (.int q), (.int cc)]) (rest := [(.int (1 : Int32)), (.ref o440)]) (lenOf pd7 rfl) rfl (W := 2) (by show 2 * 0 + _ ≤ _; exact Nat.le_of_eq rfl) (hb hby at_246) (by decide) (by decide) (by decide) (by decide)
          obtain ⟨rfl, Nq444, hh444⟩ := hQ444
          have N444 := Fr.app N443 Nq444
          obtain ⟨hx, hZ, hown, hby, hml, hnm, hret, hlk⟩ := id Cc444
          rw [hh444] at e444 B444 J444
          refine Go.of st444 ?_
          show Go p e s below _ _ _ _ T444 (mkF m 249 (LA45 p1 p2 p3 p4 rp mp q cc o423 o440) [(.int (atV bR (1 : Int32) q cc)), (.int (1 : Int32)), (.ref o440)])
          obtain ⟨cl446, Ar446, q446, S446, N446_, H446, G446⟩ := id V443
          have hin446 : ¬ ((1 : Int32) < 0 ∨ cl446.slots.size ≤ ((1 : Int32)).toNatClampNeg) := inb_of S446 ⟨by decide, by decide⟩
          obtain ⟨T446, h446, X446, e446, W446, st446⟩ := stC X444 hx hZ e444 Ar446 (j := (1 : Int32)) hin446 (g := (mkF m 249 (LA45 p1 p2 p3 p4 rp mp q cc o423 o440) [(.int (atV bR (1 : Int32) q cc)), (.int (1 : Int32)), (.ref o440)])) rfl rfl (hb hby at_249)
          rw [nar_c (atV_rng bR_rng (by decide) (by decide) hq_cc).1 (le255 (atV_rng bR_rng (by decide) (by decide) hq_cc).2)] at W446
          have V446 : Arv Z h446 o440 k440 .char (16 : Int32) ((outL bR 2 q cc).map Value.int) (.int 0) := outL_push bR 1 q cc ▸ own_push V443 W446 (by rw [List.length_map, outL_len]; decide) (fits_c (atV_rng bR_rng (by decide) (by decide) hq_cc).1 (le255 (atV_rng bR_rng (by decide) (by decide) hq_cc).2))
          have N446 := Fr.snoc X446 N444 fr440
          have J446 := J444.wr W446 (List.mem_cons_self ..)
          have B446 := B444.mono (Nat.le_of_eq W446.size.symm)
          have O446 := O443.wr W446 (Nat.le_trans (own_ole O0) fr440)
          have K446 := K443.wr W446 (Or.inr sz440)
          refine Go.of (fun _ hr => st446 _ hr) ?_
          show Go p e s below _ _ _ _ T446 (mkF m 250 (LA45 p1 p2 p3 p4 rp mp q cc o423 o440) [])
          refine Go.of (fun _ hr => XS.iload X446.here hx rfl (hb hby at_250) rfl  hr) ?_
          show Go p e s below _ _ _ _ T446 (mkF m 252 (LA45 p1 p2 p3 p4 rp mp q cc o423 o440) [(.int (16 : Int32))])
          refine Go.of (fun _ hr => XS.iconst X446.here hx rfl (hb hby at_252) hr) ?_
          show Go p e s below _ _ _ _ T446 (mkF m 253 (LA45 p1 p2 p3 p4 rp mp q cc o423 o440) [(.int (2 : Int32)), (.int (16 : Int32))])
          refine Go.of (fun _ hr => XS.icmpNo X446.here hx rfl (hb hby at_253) rfl (tlt (by decide : ((2 : Int32) < (16 : Int32)))).2.2.2 hr) ?_
          show Go p e s below _ _ _ _ T446 (mkF m 256 (LA45 p1 p2 p3 p4 rp mp q cc o423 o440) [])
          refine Go.of (fun _ hr => XS.aload X446.here hx rfl (hb hby at_256) rfl rfl hr) ?_
          show Go p e s below _ _ _ _ T446 (mkF m 258 (LA45 p1 p2 p3 p4 rp mp q cc o423 o440) [(.ref o440)])
          refine Go.of (fun _ hr => XS.iconst X446.here hx rfl (hb hby at_258) hr) ?_
          show Go p e s below _ _ _ _ T446 (mkF m 259 (LA45 p1 p2 p3 p4 rp mp q cc o423 o440) [(.int (2 : Int32)), (.ref o440)])
          refine Go.of (fun _ hr => XS.aload X446.here hx rfl (hb hby at_259) rfl rfl hr) ?_
          show Go p e s below _ _ _ _ T446 (mkF m 261 (LA45 p1 p2 p3 p4 rp mp q cc o423 o440) [(.ref o423), (.int (2 : Int32)), (.ref o440)])
          refine Go.of (fun _ hr => XS.iconst X446.here hx rfl (hb hby at_261) hr) ?_
          show Go p e s below _ _ _ _ T446 (mkF m 262 (LA45 p1 p2 p3 p4 rp mp q cc o423 o440) [(.int (2 : Int32)), (.ref o423), (.int (2 : Int32)), (.ref o440)])
          refine Go.of (fun _ hr => XS.iload X446.here hx rfl (hb hby at_262) rfl  hr) ?_
          show Go p e s below _ _ _ _ T446 (mkF m 264 (LA45 p1 p2 p3 p4 rp mp q cc o423 o440) [(.int q), (.int (2 : Int32)), (.ref o423), (.int (2 : Int32)), (.ref o440)])
          refine Go.of (fun _ hr => XS.iload X446.here hx rfl (hb hby at_264) rfl  hr) ?_
          show Go p e s below _ _ _ _ T446 (mkF m 266 (LA45 p1 p2 p3 p4 rp mp q cc o423 o440) [(.int cc), (.int q), (.int (2 : Int32)), (.ref o423), (.int (2 : Int32)), (.ref o440)])
          have f448 := (f445.other W446 ne_o423_o440)
          obtain ⟨_, b447, T447, h447, L447, e447, Cc447, X447, B447, J447, g447, hQ447, st447⟩ := own_callS Cc444 B446 J446 X446 (hw _ (List.mem_of_getElem? (i := 2) rfl)) (hw _ (List.mem_of_getElem? (i := 3) rfl)) (hw _ (List.mem_of_getElem? (i := 4) rfl)) (hw _ (List.mem_of_getElem? (i := 5) rfl)) (by decide) (rm1 l Z a0 hw [] o423 _ (2 : Int32) q cc bR _ h446 n0 O446 h0.size (own_ole O0) K446.1 bR_rng (by decide) (by decide) hq_cc f448) e446 (g := (mkF m 266 (LA45 p1 p2 p3 p4 rp mp q cc o423 o440) [(.int cc), (.int q), (.int (2 : Int32)), (.ref o423), (.int (2 : Int32)), (.ref o440)])) rfl (by rw [hml]; rfl) (argsL := [(.ref o423), (.int (2 : Int32)), (.int q), (.int cc)]) (rest := [(.int (2 : Int32)), (.ref o440)]) (lenOf pd7 rfl) rfl (W := 2) (by show 2 * 0 + _ ≤ _; exact Nat.le_of_eq rfl) (hb hby at_266) (by decide) (by decide) (by decide) (by decide)
          obtain ⟨rfl, Nq447, hh447⟩ := hQ447
          have N447 := Fr.app N446 Nq447
          obtain ⟨hx, hZ, hown, hby, hml, hnm, hret, hlk⟩ := id Cc447
          rw [hh447] at e447 B447 J447
          refine Go.of st447 ?_
          show Go p e s below _ _ _ _ T447 (mkF m 269 (LA45 p1 p2 p3 p4 rp mp q cc o423 o440) [(.int (atV bR (2 : Int32) q cc)), (.int (2 : Int32)), (.ref o440)])
          obtain ⟨cl449, Ar449, q449, S449, N449_, H449, G449⟩ := id V446
          have hin449 : ¬ ((2 : Int32) < 0 ∨ cl449.slots.size ≤ ((2 : Int32)).toNatClampNeg) := inb_of S449 ⟨by decide, by decide⟩
          obtain ⟨T449, h449, X449, e449, W449, st449⟩ := stC X447 hx hZ e447 Ar449 (j := (2 : Int32)) hin449 (g := (mkF m 269 (LA45 p1 p2 p3 p4 rp mp q cc o423 o440) [(.int (atV bR (2 : Int32) q cc)), (.int (2 : Int32)), (.ref o440)])) rfl rfl (hb hby at_269)
          rw [nar_c (atV_rng bR_rng (by decide) (by decide) hq_cc).1 (le255 (atV_rng bR_rng (by decide) (by decide) hq_cc).2)] at W449
          have V449 : Arv Z h449 o440 k440 .char (16 : Int32) ((outL bR 3 q cc).map Value.int) (.int 0) := outL_push bR 2 q cc ▸ own_push V446 W449 (by rw [List.length_map, outL_len]; decide) (fits_c (atV_rng bR_rng (by decide) (by decide) hq_cc).1 (le255 (atV_rng bR_rng (by decide) (by decide) hq_cc).2))
          have N449 := Fr.snoc X449 N447 fr440
          have J449 := J447.wr W449 (List.mem_cons_self ..)
          have B449 := B447.mono (Nat.le_of_eq W449.size.symm)
          have O449 := O446.wr W449 (Nat.le_trans (own_ole O0) fr440)
          have K449 := K446.wr W449 (Or.inr sz440)
          refine Go.of (fun _ hr => st449 _ hr) ?_
          show Go p e s below _ _ _ _ T449 (mkF m 270 (LA45 p1 p2 p3 p4 rp mp q cc o423 o440) [])
          refine Go.of (fun _ hr => XS.iload X449.here hx rfl (hb hby at_270) rfl  hr) ?_
          show Go p e s below _ _ _ _ T449 (mkF m 272 (LA45 p1 p2 p3 p4 rp mp q cc o423 o440) [(.int (16 : Int32))])
          refine Go.of (fun _ hr => XS.iconst X449.here hx rfl (hb hby at_272) hr) ?_
          show Go p e s below _ _ _ _ T449 (mkF m 273 (LA45 p1 p2 p3 p4 rp mp q cc o423 o440) [(.int (3 : Int32)), (.int (16 : Int32))])
          refine Go.of (fun _ hr => XS.icmpNo X449.here hx rfl (hb hby at_273) rfl (tlt (by decide : ((3 : Int32) < (16 : Int32)))).2.2.2 hr) ?_
          show Go p e s below _ _ _ _ T449 (mkF m 276 (LA45 p1 p2 p3 p4 rp mp q cc o423 o440) [])
          refine Go.of (fun _ hr => XS.aload X449.here hx rfl (hb hby at_276) rfl rfl hr) ?_
          show Go p e s below _ _ _ _ T449 (mkF m 278 (LA45 p1 p2 p3 p4 rp mp q cc o423 o440) [(.ref o440)])
          refine Go.of (fun _ hr => XS.iconst X449.here hx rfl (hb hby at_278) hr) ?_
          show Go p e s below _ _ _ _ T449 (mkF m 279 (LA45 p1 p2 p3 p4 rp mp q cc o423 o440) [(.int (3 : Int32)), (.ref o440)])
          refine Go.of (fun _ hr => XS.aload X449.here hx rfl (hb hby at_279) rfl rfl hr) ?_
          show Go p e s below _ _ _ _ T449 (mkF m 281 (LA45 p1 p2 p3 p4 rp mp q cc o423 o440) [(.ref o423), (.int (3 : Int32)), (.ref o440)])
          refine Go.of (fun _ hr => XS.iconst X449.here hx rfl (hb hby at_281) hr) ?_
          show Go p e s below _ _ _ _ T449 (mkF m 282 (LA45 p1 p2 p3 p4 rp mp q cc o423 o440) [(.int (3 : Int32)), (.ref o423), (.int (3 : Int32)), (.ref o440)])
          refine Go.of (fun _ hr => XS.iload X449.here hx rfl (hb hby at_282) rfl  hr) ?_
          show Go p e s below _ _ _ _ T449 (mkF m 284 (LA45 p1 p2 p3 p4 rp mp q cc o423 o440) [(.int q), (.int (3 : Int32)), (.ref o423), (.int (3 : Int32)), (.ref o440)])
          refine Go.of (fun _ hr => XS.iload X449.here hx rfl (hb hby at_284) rfl  hr) ?_
          show Go p e s below _ _ _ _ T449 (mkF m 286 (LA45 p1 p2 p3 p4 rp mp q cc o423 o440) [(.int cc), (.int q), (.int (3 : Int32)), (.ref o423), (.int (3 : Int32)), (.ref o440)])
          have f451 := (f448.other W449 ne_o423_o440)
          obtain ⟨_, b450, T450, h450, L450, e450, Cc450, X450, B450, J450, g450, hQ450, st450⟩ := own_callS Cc447 B449 J449 X449 (hw _ (List.mem_of_getElem? (i := 2) rfl)) (hw _ (List.mem_of_getElem? (i := 3) rfl)) (hw _ (List.mem_of_getElem? (i := 4) rfl)) (hw _ (List.mem_of_getElem? (i := 5) rfl)) (by decide) (rm1 l Z a0 hw [] o423 _ (3 : Int32) q cc bR _ h449 n0 O449 h0.size (own_ole O0) K449.1 bR_rng (by decide) (by decide) hq_cc f451) e449 (g := (mkF m 286 (LA45 p1 p2 p3 p4 rp mp q cc o423 o440) [(.int cc), (.int q), (.int (3 : Int32)), (.ref o423), (.int (3 : Int32)), (.ref o440)])) rfl (by rw [hml]; rfl) (argsL := [(.ref o423), (.int (3 : Int32)), (.int q), (.int cc)]) (rest := [(.int (3 : Int32)), (.ref o440)]) (lenOf pd7 rfl) rfl (W := 2) (by show 2 * 0 + _ ≤ _; exact Nat.le_of_eq rfl) (hb hby at_286) (by decide) (by decide) (by decide) (by decide)
          obtain ⟨rfl, Nq450, hh450⟩ := hQ450
          have N450 := Fr.app N449 Nq450
          obtain ⟨hx, hZ, hown, hby, hml, hnm, hret, hlk⟩ := id Cc450
          rw [hh450] at e450 B450 J450
          refine Go.of st450 ?_
          show Go p e s below _ _ _ _ T450 (mkF m 289 (LA45 p1 p2 p3 p4 rp mp q cc o423 o440) [(.int (atV bR (3 : Int32) q cc)), (.int (3 : Int32)), (.ref o440)])
          obtain ⟨cl452, Ar452, q452, S452, N452_, H452, G452⟩ := id V449
          have hin452 : ¬ ((3 : Int32) < 0 ∨ cl452.slots.size ≤ ((3 : Int32)).toNatClampNeg) := inb_of S452 ⟨by decide, by decide⟩
          obtain ⟨T452, h452, X452, e452, W452, st452⟩ := stC X450 hx hZ e450 Ar452 (j := (3 : Int32)) hin452 (g := (mkF m 289 (LA45 p1 p2 p3 p4 rp mp q cc o423 o440) [(.int (atV bR (3 : Int32) q cc)), (.int (3 : Int32)), (.ref o440)])) rfl rfl (hb hby at_289)
          rw [nar_c (atV_rng bR_rng (by decide) (by decide) hq_cc).1 (le255 (atV_rng bR_rng (by decide) (by decide) hq_cc).2)] at W452
          have V452 : Arv Z h452 o440 k440 .char (16 : Int32) ((outL bR 4 q cc).map Value.int) (.int 0) := outL_push bR 3 q cc ▸ own_push V449 W452 (by rw [List.length_map, outL_len]; decide) (fits_c (atV_rng bR_rng (by decide) (by decide) hq_cc).1 (le255 (atV_rng bR_rng (by decide) (by decide) hq_cc).2))
          have N452 := Fr.snoc X452 N450 fr440
          have J452 := J450.wr W452 (List.mem_cons_self ..)
          have B452 := B450.mono (Nat.le_of_eq W452.size.symm)
          have O452 := O449.wr W452 (Nat.le_trans (own_ole O0) fr440)
          have K452 := K449.wr W452 (Or.inr sz440)
          refine Go.of (fun _ hr => st452 _ hr) ?_
          show Go p e s below _ _ _ _ T452 (mkF m 290 (LA45 p1 p2 p3 p4 rp mp q cc o423 o440) [])
          refine Go.of (fun _ hr => XS.iload X452.here hx rfl (hb hby at_290) rfl  hr) ?_
          show Go p e s below _ _ _ _ T452 (mkF m 292 (LA45 p1 p2 p3 p4 rp mp q cc o423 o440) [(.int (16 : Int32))])
          refine Go.of (fun _ hr => XS.iconst X452.here hx rfl (hb hby at_292) hr) ?_
          show Go p e s below _ _ _ _ T452 (mkF m 293 (LA45 p1 p2 p3 p4 rp mp q cc o423 o440) [(.int (4 : Int32)), (.int (16 : Int32))])
          refine Go.of (fun _ hr => XS.icmpNo X452.here hx rfl (hb hby at_293) rfl (tlt (by decide : ((4 : Int32) < (16 : Int32)))).2.2.2 hr) ?_
          show Go p e s below _ _ _ _ T452 (mkF m 296 (LA45 p1 p2 p3 p4 rp mp q cc o423 o440) [])
          refine Go.of (fun _ hr => XS.aload X452.here hx rfl (hb hby at_296) rfl rfl hr) ?_
          show Go p e s below _ _ _ _ T452 (mkF m 298 (LA45 p1 p2 p3 p4 rp mp q cc o423 o440) [(.ref o440)])
          refine Go.of (fun _ hr => XS.iconst X452.here hx rfl (hb hby at_298) hr) ?_
          show Go p e s below _ _ _ _ T452 (mkF m 299 (LA45 p1 p2 p3 p4 rp mp q cc o423 o440) [(.int (4 : Int32)), (.ref o440)])
          refine Go.of (fun _ hr => XS.aload X452.here hx rfl (hb hby at_299) rfl rfl hr) ?_
          show Go p e s below _ _ _ _ T452 (mkF m 301 (LA45 p1 p2 p3 p4 rp mp q cc o423 o440) [(.ref o423), (.int (4 : Int32)), (.ref o440)])
          refine Go.of (fun _ hr => XS.iconst X452.here hx rfl (hb hby at_301) hr) ?_
          show Go p e s below _ _ _ _ T452 (mkF m 302 (LA45 p1 p2 p3 p4 rp mp q cc o423 o440) [(.int (4 : Int32)), (.ref o423), (.int (4 : Int32)), (.ref o440)])
          refine Go.of (fun _ hr => XS.iload X452.here hx rfl (hb hby at_302) rfl  hr) ?_
          show Go p e s below _ _ _ _ T452 (mkF m 304 (LA45 p1 p2 p3 p4 rp mp q cc o423 o440) [(.int q), (.int (4 : Int32)), (.ref o423), (.int (4 : Int32)), (.ref o440)])
          refine Go.of (fun _ hr => XS.iload X452.here hx rfl (hb hby at_304) rfl  hr) ?_
          show Go p e s below _ _ _ _ T452 (mkF m 306 (LA45 p1 p2 p3 p4 rp mp q cc o423 o440) [(.int cc), (.int q), (.int (4 : Int32)), (.ref o423), (.int (4 : Int32)), (.ref o440)])
          have f454 := (f451.other W452 ne_o423_o440)
          obtain ⟨_, b453, T453, h453, L453, e453, Cc453, X453, B453, J453, g453, hQ453, st453⟩ := own_callS Cc450 B452 J452 X452 (hw _ (List.mem_of_getElem? (i := 2) rfl)) (hw _ (List.mem_of_getElem? (i := 3) rfl)) (hw _ (List.mem_of_getElem? (i := 4) rfl)) (hw _ (List.mem_of_getElem? (i := 5) rfl)) (by decide) (rm1 l Z a0 hw [] o423 _ (4 : Int32) q cc bR _ h452 n0 O452 h0.size (own_ole O0) K452.1 bR_rng (by decide) (by decide) hq_cc f454) e452 (g := (mkF m 306 (LA45 p1 p2 p3 p4 rp mp q cc o423 o440) [(.int cc), (.int q), (.int (4 : Int32)), (.ref o423), (.int (4 : Int32)), (.ref o440)])) rfl (by rw [hml]; rfl) (argsL := [(.ref o423), (.int (4 : Int32)), (.int q), (.int cc)]) (rest := [(.int (4 : Int32)), (.ref o440)]) (lenOf pd7 rfl) rfl (W := 2) (by show 2 * 0 + _ ≤ _; exact Nat.le_of_eq rfl) (hb hby at_306) (by decide) (by decide) (by decide) (by decide)
          obtain ⟨rfl, Nq453, hh453⟩ := hQ453
          have N453 := Fr.app N452 Nq453
          obtain ⟨hx, hZ, hown, hby, hml, hnm, hret, hlk⟩ := id Cc453
          rw [hh453] at e453 B453 J453
          refine Go.of st453 ?_
          show Go p e s below _ _ _ _ T453 (mkF m 309 (LA45 p1 p2 p3 p4 rp mp q cc o423 o440) [(.int (atV bR (4 : Int32) q cc)), (.int (4 : Int32)), (.ref o440)])
          obtain ⟨cl455, Ar455, q455, S455, N455_, H455, G455⟩ := id V452
          have hin455 : ¬ ((4 : Int32) < 0 ∨ cl455.slots.size ≤ ((4 : Int32)).toNatClampNeg) := inb_of S455 ⟨by decide, by decide⟩
          obtain ⟨T455, h455, X455, e455, W455, st455⟩ := stC X453 hx hZ e453 Ar455 (j := (4 : Int32)) hin455 (g := (mkF m 309 (LA45 p1 p2 p3 p4 rp mp q cc o423 o440) [(.int (atV bR (4 : Int32) q cc)), (.int (4 : Int32)), (.ref o440)])) rfl rfl (hb hby at_309)
          rw [nar_c (atV_rng bR_rng (by decide) (by decide) hq_cc).1 (le255 (atV_rng bR_rng (by decide) (by decide) hq_cc).2)] at W455
          have V455 : Arv Z h455 o440 k440 .char (16 : Int32) ((outL bR 5 q cc).map Value.int) (.int 0) := outL_push bR 4 q cc ▸ own_push V452 W455 (by rw [List.length_map, outL_len]; decide) (fits_c (atV_rng bR_rng (by decide) (by decide) hq_cc).1 (le255 (atV_rng bR_rng (by decide) (by decide) hq_cc).2))
          have N455 := Fr.snoc X455 N453 fr440
          have J455 := J453.wr W455 (List.mem_cons_self ..)
          have B455 := B453.mono (Nat.le_of_eq W455.size.symm)
          have O455 := O452.wr W455 (Nat.le_trans (own_ole O0) fr440)
          have K455 := K452.wr W455 (Or.inr sz440)
          refine Go.of (fun _ hr => st455 _ hr) ?_
          show Go p e s below _ _ _ _ T455 (mkF m 310 (LA45 p1 p2 p3 p4 rp mp q cc o423 o440) [])
          refine Go.of (fun _ hr => XS.iload X455.here hx rfl (hb hby at_310) rfl  hr) ?_
          show Go p e s below _ _ _ _ T455 (mkF m 312 (LA45 p1 p2 p3 p4 rp mp q cc o423 o440) [(.int (16 : Int32))])
          refine Go.of (fun _ hr => XS.iconst X455.here hx rfl (hb hby at_312) hr) ?_
          show Go p e s below _ _ _ _ T455 (mkF m 313 (LA45 p1 p2 p3 p4 rp mp q cc o423 o440) [(.int (5 : Int32)), (.int (16 : Int32))])
          refine Go.of (fun _ hr => XS.icmpNo X455.here hx rfl (hb hby at_313) rfl (tlt (by decide : ((5 : Int32) < (16 : Int32)))).2.2.2 hr) ?_
          show Go p e s below _ _ _ _ T455 (mkF m 316 (LA45 p1 p2 p3 p4 rp mp q cc o423 o440) [])
          refine Go.of (fun _ hr => XS.aload X455.here hx rfl (hb hby at_316) rfl rfl hr) ?_
          show Go p e s below _ _ _ _ T455 (mkF m 318 (LA45 p1 p2 p3 p4 rp mp q cc o423 o440) [(.ref o440)])
          refine Go.of (fun _ hr => XS.iconst X455.here hx rfl (hb hby at_318) hr) ?_
          show Go p e s below _ _ _ _ T455 (mkF m 319 (LA45 p1 p2 p3 p4 rp mp q cc o423 o440) [(.int (5 : Int32)), (.ref o440)])
          refine Go.of (fun _ hr => XS.aload X455.here hx rfl (hb hby at_319) rfl rfl hr) ?_
          show Go p e s below _ _ _ _ T455 (mkF m 321 (LA45 p1 p2 p3 p4 rp mp q cc o423 o440) [(.ref o423), (.int (5 : Int32)), (.ref o440)])
          refine Go.of (fun _ hr => XS.iconst X455.here hx rfl (hb hby at_321) hr) ?_
          show Go p e s below _ _ _ _ T455 (mkF m 322 (LA45 p1 p2 p3 p4 rp mp q cc o423 o440) [(.int (5 : Int32)), (.ref o423), (.int (5 : Int32)), (.ref o440)])
          refine Go.of (fun _ hr => XS.iload X455.here hx rfl (hb hby at_322) rfl  hr) ?_
          show Go p e s below _ _ _ _ T455 (mkF m 324 (LA45 p1 p2 p3 p4 rp mp q cc o423 o440) [(.int q), (.int (5 : Int32)), (.ref o423), (.int (5 : Int32)), (.ref o440)])
          refine Go.of (fun _ hr => XS.iload X455.here hx rfl (hb hby at_324) rfl  hr) ?_
          show Go p e s below _ _ _ _ T455 (mkF m 326 (LA45 p1 p2 p3 p4 rp mp q cc o423 o440) [(.int cc), (.int q), (.int (5 : Int32)), (.ref o423), (.int (5 : Int32)), (.ref o440)])
          have f457 := (f454.other W455 ne_o423_o440)
          obtain ⟨_, b456, T456, h456, L456, e456, Cc456, X456, B456, J456, g456, hQ456, st456⟩ := own_callS Cc453 B455 J455 X455 (hw _ (List.mem_of_getElem? (i := 2) rfl)) (hw _ (List.mem_of_getElem? (i := 3) rfl)) (hw _ (List.mem_of_getElem? (i := 4) rfl)) (hw _ (List.mem_of_getElem? (i := 5) rfl)) (by decide) (rm1 l Z a0 hw [] o423 _ (5 : Int32) q cc bR _ h455 n0 O455 h0.size (own_ole O0) K455.1 bR_rng (by decide) (by decide) hq_cc f457) e455 (g := (mkF m 326 (LA45 p1 p2 p3 p4 rp mp q cc o423 o440) [(.int cc), (.int q), (.int (5 : Int32)), (.ref o423), (.int (5 : Int32)), (.ref o440)])) rfl (by rw [hml]; rfl) (argsL := [(.ref o423), (.int (5 : Int32)), (.int q), (.int cc)]) (rest := [(.int (5 : Int32)), (.ref o440)]) (lenOf pd7 rfl) rfl (W := 2) (by show 2 * 0 + _ ≤ _; exact Nat.le_of_eq rfl) (hb hby at_326) (by decide) (by decide) (by decide) (by decide)
          obtain ⟨rfl, Nq456, hh456⟩ := hQ456
          have N456 := Fr.app N455 Nq456
          obtain ⟨hx, hZ, hown, hby, hml, hnm, hret, hlk⟩ := id Cc456
          rw [hh456] at e456 B456 J456
          refine Go.of st456 ?_
          show Go p e s below _ _ _ _ T456 (mkF m 329 (LA45 p1 p2 p3 p4 rp mp q cc o423 o440) [(.int (atV bR (5 : Int32) q cc)), (.int (5 : Int32)), (.ref o440)])
          obtain ⟨cl458, Ar458, q458, S458, N458_, H458, G458⟩ := id V455
          have hin458 : ¬ ((5 : Int32) < 0 ∨ cl458.slots.size ≤ ((5 : Int32)).toNatClampNeg) := inb_of S458 ⟨by decide, by decide⟩
          obtain ⟨T458, h458, X458, e458, W458, st458⟩ := stC X456 hx hZ e456 Ar458 (j := (5 : Int32)) hin458 (g := (mkF m 329 (LA45 p1 p2 p3 p4 rp mp q cc o423 o440) [(.int (atV bR (5 : Int32) q cc)), (.int (5 : Int32)), (.ref o440)])) rfl rfl (hb hby at_329)
          rw [nar_c (atV_rng bR_rng (by decide) (by decide) hq_cc).1 (le255 (atV_rng bR_rng (by decide) (by decide) hq_cc).2)] at W458
          have V458 : Arv Z h458 o440 k440 .char (16 : Int32) ((outL bR 6 q cc).map Value.int) (.int 0) := outL_push bR 5 q cc ▸ own_push V455 W458 (by rw [List.length_map, outL_len]; decide) (fits_c (atV_rng bR_rng (by decide) (by decide) hq_cc).1 (le255 (atV_rng bR_rng (by decide) (by decide) hq_cc).2))
          have N458 := Fr.snoc X458 N456 fr440
          have J458 := J456.wr W458 (List.mem_cons_self ..)
          have B458 := B456.mono (Nat.le_of_eq W458.size.symm)
          have O458 := O455.wr W458 (Nat.le_trans (own_ole O0) fr440)
          have K458 := K455.wr W458 (Or.inr sz440)
          refine Go.of (fun _ hr => st458 _ hr) ?_
          show Go p e s below _ _ _ _ T458 (mkF m 330 (LA45 p1 p2 p3 p4 rp mp q cc o423 o440) [])
          refine Go.of (fun _ hr => XS.iload X458.here hx rfl (hb hby at_330) rfl  hr) ?_
          show Go p e s below _ _ _ _ T458 (mkF m 332 (LA45 p1 p2 p3 p4 rp mp q cc o423 o440) [(.int (16 : Int32))])
          refine Go.of (fun _ hr => XS.bipush X458.here hx rfl (hb hby at_332) hr) ?_
          show Go p e s below _ _ _ _ T458 (mkF m 334 (LA45 p1 p2 p3 p4 rp mp q cc o423 o440) [(.int (6 : Int32)), (.int (16 : Int32))])
          refine Go.of (fun _ hr => XS.icmpNo X458.here hx rfl (hb hby at_334) rfl (tlt (by decide : ((6 : Int32) < (16 : Int32)))).2.2.2 hr) ?_
          show Go p e s below _ _ _ _ T458 (mkF m 337 (LA45 p1 p2 p3 p4 rp mp q cc o423 o440) [])
          refine Go.of (fun _ hr => XS.aload X458.here hx rfl (hb hby at_337) rfl rfl hr) ?_
          show Go p e s below _ _ _ _ T458 (mkF m 339 (LA45 p1 p2 p3 p4 rp mp q cc o423 o440) [(.ref o440)])
          refine Go.of (fun _ hr => XS.bipush X458.here hx rfl (hb hby at_339) hr) ?_
          show Go p e s below _ _ _ _ T458 (mkF m 341 (LA45 p1 p2 p3 p4 rp mp q cc o423 o440) [(.int (6 : Int32)), (.ref o440)])
          refine Go.of (fun _ hr => XS.aload X458.here hx rfl (hb hby at_341) rfl rfl hr) ?_
          show Go p e s below _ _ _ _ T458 (mkF m 343 (LA45 p1 p2 p3 p4 rp mp q cc o423 o440) [(.ref o423), (.int (6 : Int32)), (.ref o440)])
          refine Go.of (fun _ hr => XS.bipush X458.here hx rfl (hb hby at_343) hr) ?_
          show Go p e s below _ _ _ _ T458 (mkF m 345 (LA45 p1 p2 p3 p4 rp mp q cc o423 o440) [(.int (6 : Int32)), (.ref o423), (.int (6 : Int32)), (.ref o440)])
          refine Go.of (fun _ hr => XS.iload X458.here hx rfl (hb hby at_345) rfl  hr) ?_
          show Go p e s below _ _ _ _ T458 (mkF m 347 (LA45 p1 p2 p3 p4 rp mp q cc o423 o440) [(.int q), (.int (6 : Int32)), (.ref o423), (.int (6 : Int32)), (.ref o440)])
          refine Go.of (fun _ hr => XS.iload X458.here hx rfl (hb hby at_347) rfl  hr) ?_
          show Go p e s below _ _ _ _ T458 (mkF m 349 (LA45 p1 p2 p3 p4 rp mp q cc o423 o440) [(.int cc), (.int q), (.int (6 : Int32)), (.ref o423), (.int (6 : Int32)), (.ref o440)])
          have f460 := (f457.other W458 ne_o423_o440)
          obtain ⟨_, b459, T459, h459, L459, e459, Cc459, X459, B459, J459, g459, hQ459, st459⟩ := own_callS Cc456 B458 J458 X458 (hw _ (List.mem_of_getElem? (i := 2) rfl)) (hw _ (List.mem_of_getElem? (i := 3) rfl)) (hw _ (List.mem_of_getElem? (i := 4) rfl)) (hw _ (List.mem_of_getElem? (i := 5) rfl)) (by decide) (rm1 l Z a0 hw [] o423 _ (6 : Int32) q cc bR _ h458 n0 O458 h0.size (own_ole O0) K458.1 bR_rng (by decide) (by decide) hq_cc f460) e458 (g := (mkF m 349 (LA45 p1 p2 p3 p4 rp mp q cc o423 o440) [(.int cc), (.int q), (.int (6 : Int32)), (.ref o423), (.int (6 : Int32)), (.ref o440)])) rfl (by rw [hml]; rfl) (argsL := [(.ref o423), (.int (6 : Int32)), (.int q), (.int cc)]) (rest := [(.int (6 : Int32)), (.ref o440)]) (lenOf pd7 rfl) rfl (W := 2) (by show 2 * 0 + _ ≤ _; exact Nat.le_of_eq rfl) (hb hby at_349) (by decide) (by decide) (by decide) (by decide)
          obtain ⟨rfl, Nq459, hh459⟩ := hQ459
          have N459 := Fr.app N458 Nq459
          obtain ⟨hx, hZ, hown, hby, hml, hnm, hret, hlk⟩ := id Cc459
          rw [hh459] at e459 B459 J459
          refine Go.of st459 ?_
          show Go p e s below _ _ _ _ T459 (mkF m 352 (LA45 p1 p2 p3 p4 rp mp q cc o423 o440) [(.int (atV bR (6 : Int32) q cc)), (.int (6 : Int32)), (.ref o440)])
          obtain ⟨cl461, Ar461, q461, S461, N461_, H461, G461⟩ := id V458
          have hin461 : ¬ ((6 : Int32) < 0 ∨ cl461.slots.size ≤ ((6 : Int32)).toNatClampNeg) := inb_of S461 ⟨by decide, by decide⟩
          obtain ⟨T461, h461, X461, e461, W461, st461⟩ := stC X459 hx hZ e459 Ar461 (j := (6 : Int32)) hin461 (g := (mkF m 352 (LA45 p1 p2 p3 p4 rp mp q cc o423 o440) [(.int (atV bR (6 : Int32) q cc)), (.int (6 : Int32)), (.ref o440)])) rfl rfl (hb hby at_352)
          rw [nar_c (atV_rng bR_rng (by decide) (by decide) hq_cc).1 (le255 (atV_rng bR_rng (by decide) (by decide) hq_cc).2)] at W461
          have V461 : Arv Z h461 o440 k440 .char (16 : Int32) ((outL bR 7 q cc).map Value.int) (.int 0) := outL_push bR 6 q cc ▸ own_push V458 W461 (by rw [List.length_map, outL_len]; decide) (fits_c (atV_rng bR_rng (by decide) (by decide) hq_cc).1 (le255 (atV_rng bR_rng (by decide) (by decide) hq_cc).2))
          have N461 := Fr.snoc X461 N459 fr440
          have J461 := J459.wr W461 (List.mem_cons_self ..)
          have B461 := B459.mono (Nat.le_of_eq W461.size.symm)
          have O461 := O458.wr W461 (Nat.le_trans (own_ole O0) fr440)
          have K461 := K458.wr W461 (Or.inr sz440)
          refine Go.of (fun _ hr => st461 _ hr) ?_
          show Go p e s below _ _ _ _ T461 (mkF m 353 (LA45 p1 p2 p3 p4 rp mp q cc o423 o440) [])
          refine Go.of (fun _ hr => XS.iload X461.here hx rfl (hb hby at_353) rfl  hr) ?_
          show Go p e s below _ _ _ _ T461 (mkF m 355 (LA45 p1 p2 p3 p4 rp mp q cc o423 o440) [(.int (16 : Int32))])
          refine Go.of (fun _ hr => XS.bipush X461.here hx rfl (hb hby at_355) hr) ?_
          show Go p e s below _ _ _ _ T461 (mkF m 357 (LA45 p1 p2 p3 p4 rp mp q cc o423 o440) [(.int (7 : Int32)), (.int (16 : Int32))])
          refine Go.of (fun _ hr => XS.icmpNo X461.here hx rfl (hb hby at_357) rfl (tlt (by decide : ((7 : Int32) < (16 : Int32)))).2.2.2 hr) ?_
          show Go p e s below _ _ _ _ T461 (mkF m 360 (LA45 p1 p2 p3 p4 rp mp q cc o423 o440) [])
          refine Go.of (fun _ hr => XS.aload X461.here hx rfl (hb hby at_360) rfl rfl hr) ?_
          show Go p e s below _ _ _ _ T461 (mkF m 362 (LA45 p1 p2 p3 p4 rp mp q cc o423 o440) [(.ref o440)])
          refine Go.of (fun _ hr => XS.bipush X461.here hx rfl (hb hby at_362) hr) ?_
          show Go p e s below _ _ _ _ T461 (mkF m 364 (LA45 p1 p2 p3 p4 rp mp q cc o423 o440) [(.int (7 : Int32)), (.ref o440)])
          refine Go.of (fun _ hr => XS.aload X461.here hx rfl (hb hby at_364) rfl rfl hr) ?_
          show Go p e s below _ _ _ _ T461 (mkF m 366 (LA45 p1 p2 p3 p4 rp mp q cc o423 o440) [(.ref o423), (.int (7 : Int32)), (.ref o440)])
          refine Go.of (fun _ hr => XS.bipush X461.here hx rfl (hb hby at_366) hr) ?_
          show Go p e s below _ _ _ _ T461 (mkF m 368 (LA45 p1 p2 p3 p4 rp mp q cc o423 o440) [(.int (7 : Int32)), (.ref o423), (.int (7 : Int32)), (.ref o440)])
          refine Go.of (fun _ hr => XS.iload X461.here hx rfl (hb hby at_368) rfl  hr) ?_
          show Go p e s below _ _ _ _ T461 (mkF m 370 (LA45 p1 p2 p3 p4 rp mp q cc o423 o440) [(.int q), (.int (7 : Int32)), (.ref o423), (.int (7 : Int32)), (.ref o440)])
          refine Go.of (fun _ hr => XS.iload X461.here hx rfl (hb hby at_370) rfl  hr) ?_
          show Go p e s below _ _ _ _ T461 (mkF m 372 (LA45 p1 p2 p3 p4 rp mp q cc o423 o440) [(.int cc), (.int q), (.int (7 : Int32)), (.ref o423), (.int (7 : Int32)), (.ref o440)])
          have f463 := (f460.other W461 ne_o423_o440)
          obtain ⟨_, b462, T462, h462, L462, e462, Cc462, X462, B462, J462, g462, hQ462, st462⟩ := own_callS Cc459 B461 J461 X461 (hw _ (List.mem_of_getElem? (i := 2) rfl)) (hw _ (List.mem_of_getElem? (i := 3) rfl)) (hw _ (List.mem_of_getElem? (i := 4) rfl)) (hw _ (List.mem_of_getElem? (i := 5) rfl)) (by decide) (rm1 l Z a0 hw [] o423 _ (7 : Int32) q cc bR _ h461 n0 O461 h0.size (own_ole O0) K461.1 bR_rng (by decide) (by decide) hq_cc f463) e461 (g := (mkF m 372 (LA45 p1 p2 p3 p4 rp mp q cc o423 o440) [(.int cc), (.int q), (.int (7 : Int32)), (.ref o423), (.int (7 : Int32)), (.ref o440)])) rfl (by rw [hml]; rfl) (argsL := [(.ref o423), (.int (7 : Int32)), (.int q), (.int cc)]) (rest := [(.int (7 : Int32)), (.ref o440)]) (lenOf pd7 rfl) rfl (W := 2) (by show 2 * 0 + _ ≤ _; exact Nat.le_of_eq rfl) (hb hby at_372) (by decide) (by decide) (by decide) (by decide)
          obtain ⟨rfl, Nq462, hh462⟩ := hQ462
          have N462 := Fr.app N461 Nq462
          obtain ⟨hx, hZ, hown, hby, hml, hnm, hret, hlk⟩ := id Cc462
          rw [hh462] at e462 B462 J462
          refine Go.of st462 ?_
          show Go p e s below _ _ _ _ T462 (mkF m 375 (LA45 p1 p2 p3 p4 rp mp q cc o423 o440) [(.int (atV bR (7 : Int32) q cc)), (.int (7 : Int32)), (.ref o440)])
          obtain ⟨cl464, Ar464, q464, S464, N464_, H464, G464⟩ := id V461
          have hin464 : ¬ ((7 : Int32) < 0 ∨ cl464.slots.size ≤ ((7 : Int32)).toNatClampNeg) := inb_of S464 ⟨by decide, by decide⟩
          obtain ⟨T464, h464, X464, e464, W464, st464⟩ := stC X462 hx hZ e462 Ar464 (j := (7 : Int32)) hin464 (g := (mkF m 375 (LA45 p1 p2 p3 p4 rp mp q cc o423 o440) [(.int (atV bR (7 : Int32) q cc)), (.int (7 : Int32)), (.ref o440)])) rfl rfl (hb hby at_375)
          rw [nar_c (atV_rng bR_rng (by decide) (by decide) hq_cc).1 (le255 (atV_rng bR_rng (by decide) (by decide) hq_cc).2)] at W464
          have V464 : Arv Z h464 o440 k440 .char (16 : Int32) ((outL bR 8 q cc).map Value.int) (.int 0) := outL_push bR 7 q cc ▸ own_push V461 W464 (by rw [List.length_map, outL_len]; decide) (fits_c (atV_rng bR_rng (by decide) (by decide) hq_cc).1 (le255 (atV_rng bR_rng (by decide) (by decide) hq_cc).2))
          have N464 := Fr.snoc X464 N462 fr440
          have J464 := J462.wr W464 (List.mem_cons_self ..)
          have B464 := B462.mono (Nat.le_of_eq W464.size.symm)
          have O464 := O461.wr W464 (Nat.le_trans (own_ole O0) fr440)
          have K464 := K461.wr W464 (Or.inr sz440)
          refine Go.of (fun _ hr => st464 _ hr) ?_
          show Go p e s below _ _ _ _ T464 (mkF m 376 (LA45 p1 p2 p3 p4 rp mp q cc o423 o440) [])
          refine Go.of (fun _ hr => XS.iload X464.here hx rfl (hb hby at_376) rfl  hr) ?_
          show Go p e s below _ _ _ _ T464 (mkF m 378 (LA45 p1 p2 p3 p4 rp mp q cc o423 o440) [(.int (16 : Int32))])
          refine Go.of (fun _ hr => XS.bipush X464.here hx rfl (hb hby at_378) hr) ?_
          show Go p e s below _ _ _ _ T464 (mkF m 380 (LA45 p1 p2 p3 p4 rp mp q cc o423 o440) [(.int (8 : Int32)), (.int (16 : Int32))])
          refine Go.of (fun _ hr => XS.icmpNo X464.here hx rfl (hb hby at_380) rfl (tlt (by decide : ((8 : Int32) < (16 : Int32)))).2.2.2 hr) ?_
          show Go p e s below _ _ _ _ T464 (mkF m 383 (LA45 p1 p2 p3 p4 rp mp q cc o423 o440) [])
          refine Go.of (fun _ hr => XS.aload X464.here hx rfl (hb hby at_383) rfl rfl hr) ?_
          show Go p e s below _ _ _ _ T464 (mkF m 385 (LA45 p1 p2 p3 p4 rp mp q cc o423 o440) [(.ref o440)])
          refine Go.of (fun _ hr => XS.bipush X464.here hx rfl (hb hby at_385) hr) ?_
          show Go p e s below _ _ _ _ T464 (mkF m 387 (LA45 p1 p2 p3 p4 rp mp q cc o423 o440) [(.int (8 : Int32)), (.ref o440)])
          refine Go.of (fun _ hr => XS.aload X464.here hx rfl (hb hby at_387) rfl rfl hr) ?_
          show Go p e s below _ _ _ _ T464 (mkF m 389 (LA45 p1 p2 p3 p4 rp mp q cc o423 o440) [(.ref o423), (.int (8 : Int32)), (.ref o440)])
          refine Go.of (fun _ hr => XS.bipush X464.here hx rfl (hb hby at_389) hr) ?_
          show Go p e s below _ _ _ _ T464 (mkF m 391 (LA45 p1 p2 p3 p4 rp mp q cc o423 o440) [(.int (8 : Int32)), (.ref o423), (.int (8 : Int32)), (.ref o440)])
          refine Go.of (fun _ hr => XS.iload X464.here hx rfl (hb hby at_391) rfl  hr) ?_
          show Go p e s below _ _ _ _ T464 (mkF m 393 (LA45 p1 p2 p3 p4 rp mp q cc o423 o440) [(.int q), (.int (8 : Int32)), (.ref o423), (.int (8 : Int32)), (.ref o440)])
          refine Go.of (fun _ hr => XS.iload X464.here hx rfl (hb hby at_393) rfl  hr) ?_
          show Go p e s below _ _ _ _ T464 (mkF m 395 (LA45 p1 p2 p3 p4 rp mp q cc o423 o440) [(.int cc), (.int q), (.int (8 : Int32)), (.ref o423), (.int (8 : Int32)), (.ref o440)])
          have f466 := (f463.other W464 ne_o423_o440)
          obtain ⟨_, b465, T465, h465, L465, e465, Cc465, X465, B465, J465, g465, hQ465, st465⟩ := own_callS Cc462 B464 J464 X464 (hw _ (List.mem_of_getElem? (i := 2) rfl)) (hw _ (List.mem_of_getElem? (i := 3) rfl)) (hw _ (List.mem_of_getElem? (i := 4) rfl)) (hw _ (List.mem_of_getElem? (i := 5) rfl)) (by decide) (rm1 l Z a0 hw [] o423 _ (8 : Int32) q cc bR _ h464 n0 O464 h0.size (own_ole O0) K464.1 bR_rng (by decide) (by decide) hq_cc f466) e464 (g := (mkF m 395 (LA45 p1 p2 p3 p4 rp mp q cc o423 o440) [(.int cc), (.int q), (.int (8 : Int32)), (.ref o423), (.int (8 : Int32)), (.ref o440)])) rfl (by rw [hml]; rfl) (argsL := [(.ref o423), (.int (8 : Int32)), (.int q), (.int cc)]) (rest := [(.int (8 : Int32)), (.ref o440)]) (lenOf pd7 rfl) rfl (W := 2) (by show 2 * 0 + _ ≤ _; exact Nat.le_of_eq rfl) (hb hby at_395) (by decide) (by decide) (by decide) (by decide)
          obtain ⟨rfl, Nq465, hh465⟩ := hQ465
          have N465 := Fr.app N464 Nq465
          obtain ⟨hx, hZ, hown, hby, hml, hnm, hret, hlk⟩ := id Cc465
          rw [hh465] at e465 B465 J465
          refine Go.of st465 ?_
          show Go p e s below _ _ _ _ T465 (mkF m 398 (LA45 p1 p2 p3 p4 rp mp q cc o423 o440) [(.int (atV bR (8 : Int32) q cc)), (.int (8 : Int32)), (.ref o440)])
          obtain ⟨cl467, Ar467, q467, S467, N467_, H467, G467⟩ := id V464
          have hin467 : ¬ ((8 : Int32) < 0 ∨ cl467.slots.size ≤ ((8 : Int32)).toNatClampNeg) := inb_of S467 ⟨by decide, by decide⟩
          obtain ⟨T467, h467, X467, e467, W467, st467⟩ := stC X465 hx hZ e465 Ar467 (j := (8 : Int32)) hin467 (g := (mkF m 398 (LA45 p1 p2 p3 p4 rp mp q cc o423 o440) [(.int (atV bR (8 : Int32) q cc)), (.int (8 : Int32)), (.ref o440)])) rfl rfl (hb hby at_398)
          rw [nar_c (atV_rng bR_rng (by decide) (by decide) hq_cc).1 (le255 (atV_rng bR_rng (by decide) (by decide) hq_cc).2)] at W467
          have V467 : Arv Z h467 o440 k440 .char (16 : Int32) ((outL bR 9 q cc).map Value.int) (.int 0) := outL_push bR 8 q cc ▸ own_push V464 W467 (by rw [List.length_map, outL_len]; decide) (fits_c (atV_rng bR_rng (by decide) (by decide) hq_cc).1 (le255 (atV_rng bR_rng (by decide) (by decide) hq_cc).2))
          have N467 := Fr.snoc X467 N465 fr440
          have J467 := J465.wr W467 (List.mem_cons_self ..)
          have B467 := B465.mono (Nat.le_of_eq W467.size.symm)
          have O467 := O464.wr W467 (Nat.le_trans (own_ole O0) fr440)
          have K467 := K464.wr W467 (Or.inr sz440)
          refine Go.of (fun _ hr => st467 _ hr) ?_
          show Go p e s below _ _ _ _ T467 (mkF m 399 (LA45 p1 p2 p3 p4 rp mp q cc o423 o440) [])
          refine Go.of (fun _ hr => XS.iload X467.here hx rfl (hb hby at_399) rfl  hr) ?_
          show Go p e s below _ _ _ _ T467 (mkF m 401 (LA45 p1 p2 p3 p4 rp mp q cc o423 o440) [(.int (16 : Int32))])
          refine Go.of (fun _ hr => XS.bipush X467.here hx rfl (hb hby at_401) hr) ?_
          show Go p e s below _ _ _ _ T467 (mkF m 403 (LA45 p1 p2 p3 p4 rp mp q cc o423 o440) [(.int (9 : Int32)), (.int (16 : Int32))])
          refine Go.of (fun _ hr => XS.icmpNo X467.here hx rfl (hb hby at_403) rfl (tlt (by decide : ((9 : Int32) < (16 : Int32)))).2.2.2 hr) ?_
          show Go p e s below _ _ _ _ T467 (mkF m 406 (LA45 p1 p2 p3 p4 rp mp q cc o423 o440) [])
          refine Go.of (fun _ hr => XS.aload X467.here hx rfl (hb hby at_406) rfl rfl hr) ?_
          show Go p e s below _ _ _ _ T467 (mkF m 408 (LA45 p1 p2 p3 p4 rp mp q cc o423 o440) [(.ref o440)])
          refine Go.of (fun _ hr => XS.bipush X467.here hx rfl (hb hby at_408) hr) ?_
          show Go p e s below _ _ _ _ T467 (mkF m 410 (LA45 p1 p2 p3 p4 rp mp q cc o423 o440) [(.int (9 : Int32)), (.ref o440)])
          refine Go.of (fun _ hr => XS.aload X467.here hx rfl (hb hby at_410) rfl rfl hr) ?_
          show Go p e s below _ _ _ _ T467 (mkF m 412 (LA45 p1 p2 p3 p4 rp mp q cc o423 o440) [(.ref o423), (.int (9 : Int32)), (.ref o440)])
          refine Go.of (fun _ hr => XS.bipush X467.here hx rfl (hb hby at_412) hr) ?_
          show Go p e s below _ _ _ _ T467 (mkF m 414 (LA45 p1 p2 p3 p4 rp mp q cc o423 o440) [(.int (9 : Int32)), (.ref o423), (.int (9 : Int32)), (.ref o440)])
          refine Go.of (fun _ hr => XS.iload X467.here hx rfl (hb hby at_414) rfl  hr) ?_
          show Go p e s below _ _ _ _ T467 (mkF m 416 (LA45 p1 p2 p3 p4 rp mp q cc o423 o440) [(.int q), (.int (9 : Int32)), (.ref o423), (.int (9 : Int32)), (.ref o440)])
          refine Go.of (fun _ hr => XS.iload X467.here hx rfl (hb hby at_416) rfl  hr) ?_
          show Go p e s below _ _ _ _ T467 (mkF m 418 (LA45 p1 p2 p3 p4 rp mp q cc o423 o440) [(.int cc), (.int q), (.int (9 : Int32)), (.ref o423), (.int (9 : Int32)), (.ref o440)])
          have f469 := (f466.other W467 ne_o423_o440)
          obtain ⟨_, b468, T468, h468, L468, e468, Cc468, X468, B468, J468, g468, hQ468, st468⟩ := own_callS Cc465 B467 J467 X467 (hw _ (List.mem_of_getElem? (i := 2) rfl)) (hw _ (List.mem_of_getElem? (i := 3) rfl)) (hw _ (List.mem_of_getElem? (i := 4) rfl)) (hw _ (List.mem_of_getElem? (i := 5) rfl)) (by decide) (rm1 l Z a0 hw [] o423 _ (9 : Int32) q cc bR _ h467 n0 O467 h0.size (own_ole O0) K467.1 bR_rng (by decide) (by decide) hq_cc f469) e467 (g := (mkF m 418 (LA45 p1 p2 p3 p4 rp mp q cc o423 o440) [(.int cc), (.int q), (.int (9 : Int32)), (.ref o423), (.int (9 : Int32)), (.ref o440)])) rfl (by rw [hml]; rfl) (argsL := [(.ref o423), (.int (9 : Int32)), (.int q), (.int cc)]) (rest := [(.int (9 : Int32)), (.ref o440)]) (lenOf pd7 rfl) rfl (W := 2) (by show 2 * 0 + _ ≤ _; exact Nat.le_of_eq rfl) (hb hby at_418) (by decide) (by decide) (by decide) (by decide)
          obtain ⟨rfl, Nq468, hh468⟩ := hQ468
          have N468 := Fr.app N467 Nq468
          obtain ⟨hx, hZ, hown, hby, hml, hnm, hret, hlk⟩ := id Cc468
          rw [hh468] at e468 B468 J468
          refine Go.of st468 ?_
          show Go p e s below _ _ _ _ T468 (mkF m 421 (LA45 p1 p2 p3 p4 rp mp q cc o423 o440) [(.int (atV bR (9 : Int32) q cc)), (.int (9 : Int32)), (.ref o440)])
          obtain ⟨cl470, Ar470, q470, S470, N470_, H470, G470⟩ := id V467
          have hin470 : ¬ ((9 : Int32) < 0 ∨ cl470.slots.size ≤ ((9 : Int32)).toNatClampNeg) := inb_of S470 ⟨by decide, by decide⟩
          obtain ⟨T470, h470, X470, e470, W470, st470⟩ := stC X468 hx hZ e468 Ar470 (j := (9 : Int32)) hin470 (g := (mkF m 421 (LA45 p1 p2 p3 p4 rp mp q cc o423 o440) [(.int (atV bR (9 : Int32) q cc)), (.int (9 : Int32)), (.ref o440)])) rfl rfl (hb hby at_421)
          rw [nar_c (atV_rng bR_rng (by decide) (by decide) hq_cc).1 (le255 (atV_rng bR_rng (by decide) (by decide) hq_cc).2)] at W470
          have V470 : Arv Z h470 o440 k440 .char (16 : Int32) ((outL bR 10 q cc).map Value.int) (.int 0) := outL_push bR 9 q cc ▸ own_push V467 W470 (by rw [List.length_map, outL_len]; decide) (fits_c (atV_rng bR_rng (by decide) (by decide) hq_cc).1 (le255 (atV_rng bR_rng (by decide) (by decide) hq_cc).2))
          have N470 := Fr.snoc X470 N468 fr440
          have J470 := J468.wr W470 (List.mem_cons_self ..)
          have B470 := B468.mono (Nat.le_of_eq W470.size.symm)
          have O470 := O467.wr W470 (Nat.le_trans (own_ole O0) fr440)
          have K470 := K467.wr W470 (Or.inr sz440)
          refine Go.of (fun _ hr => st470 _ hr) ?_
          show Go p e s below _ _ _ _ T470 (mkF m 422 (LA45 p1 p2 p3 p4 rp mp q cc o423 o440) [])
          refine Go.of (fun _ hr => XS.iload X470.here hx rfl (hb hby at_422) rfl  hr) ?_
          show Go p e s below _ _ _ _ T470 (mkF m 424 (LA45 p1 p2 p3 p4 rp mp q cc o423 o440) [(.int (16 : Int32))])
          refine Go.of (fun _ hr => XS.bipush X470.here hx rfl (hb hby at_424) hr) ?_
          show Go p e s below _ _ _ _ T470 (mkF m 426 (LA45 p1 p2 p3 p4 rp mp q cc o423 o440) [(.int (10 : Int32)), (.int (16 : Int32))])
          refine Go.of (fun _ hr => XS.icmpNo X470.here hx rfl (hb hby at_426) rfl (tlt (by decide : ((10 : Int32) < (16 : Int32)))).2.2.2 hr) ?_
          show Go p e s below _ _ _ _ T470 (mkF m 429 (LA45 p1 p2 p3 p4 rp mp q cc o423 o440) [])
          refine Go.of (fun _ hr => XS.aload X470.here hx rfl (hb hby at_429) rfl rfl hr) ?_
          show Go p e s below _ _ _ _ T470 (mkF m 431 (LA45 p1 p2 p3 p4 rp mp q cc o423 o440) [(.ref o440)])
          refine Go.of (fun _ hr => XS.bipush X470.here hx rfl (hb hby at_431) hr) ?_
          show Go p e s below _ _ _ _ T470 (mkF m 433 (LA45 p1 p2 p3 p4 rp mp q cc o423 o440) [(.int (10 : Int32)), (.ref o440)])
          refine Go.of (fun _ hr => XS.aload X470.here hx rfl (hb hby at_433) rfl rfl hr) ?_
          show Go p e s below _ _ _ _ T470 (mkF m 435 (LA45 p1 p2 p3 p4 rp mp q cc o423 o440) [(.ref o423), (.int (10 : Int32)), (.ref o440)])
          refine Go.of (fun _ hr => XS.bipush X470.here hx rfl (hb hby at_435) hr) ?_
          show Go p e s below _ _ _ _ T470 (mkF m 437 (LA45 p1 p2 p3 p4 rp mp q cc o423 o440) [(.int (10 : Int32)), (.ref o423), (.int (10 : Int32)), (.ref o440)])
          refine Go.of (fun _ hr => XS.iload X470.here hx rfl (hb hby at_437) rfl  hr) ?_
          show Go p e s below _ _ _ _ T470 (mkF m 439 (LA45 p1 p2 p3 p4 rp mp q cc o423 o440) [(.int q), (.int (10 : Int32)), (.ref o423), (.int (10 : Int32)), (.ref o440)])
          refine Go.of (fun _ hr => XS.iload X470.here hx rfl (hb hby at_439) rfl  hr) ?_
          show Go p e s below _ _ _ _ T470 (mkF m 441 (LA45 p1 p2 p3 p4 rp mp q cc o423 o440) [(.int cc), (.int q), (.int (10 : Int32)), (.ref o423), (.int (10 : Int32)), (.ref o440)])
          have f472 := (f469.other W470 ne_o423_o440)
          obtain ⟨_, b471, T471, h471, L471, e471, Cc471, X471, B471, J471, g471, hQ471, st471⟩ := own_callS Cc468 B470 J470 X470 (hw _ (List.mem_of_getElem? (i := 2) rfl)) (hw _ (List.mem_of_getElem? (i := 3) rfl)) (hw _ (List.mem_of_getElem? (i := 4) rfl)) (hw _ (List.mem_of_getElem? (i := 5) rfl)) (by decide) (rm1 l Z a0 hw [] o423 _ (10 : Int32) q cc bR _ h470 n0 O470 h0.size (own_ole O0) K470.1 bR_rng (by decide) (by decide) hq_cc f472) e470 (g := (mkF m 441 (LA45 p1 p2 p3 p4 rp mp q cc o423 o440) [(.int cc), (.int q), (.int (10 : Int32)), (.ref o423), (.int (10 : Int32)), (.ref o440)])) rfl (by rw [hml]; rfl) (argsL := [(.ref o423), (.int (10 : Int32)), (.int q), (.int cc)]) (rest := [(.int (10 : Int32)), (.ref o440)]) (lenOf pd7 rfl) rfl (W := 2) (by show 2 * 0 + _ ≤ _; exact Nat.le_of_eq rfl) (hb hby at_441) (by decide) (by decide) (by decide) (by decide)
          obtain ⟨rfl, Nq471, hh471⟩ := hQ471
          have N471 := Fr.app N470 Nq471
          obtain ⟨hx, hZ, hown, hby, hml, hnm, hret, hlk⟩ := id Cc471
          rw [hh471] at e471 B471 J471
          refine Go.of st471 ?_
          show Go p e s below _ _ _ _ T471 (mkF m 444 (LA45 p1 p2 p3 p4 rp mp q cc o423 o440) [(.int (atV bR (10 : Int32) q cc)), (.int (10 : Int32)), (.ref o440)])
          obtain ⟨cl473, Ar473, q473, S473, N473_, H473, G473⟩ := id V470
          have hin473 : ¬ ((10 : Int32) < 0 ∨ cl473.slots.size ≤ ((10 : Int32)).toNatClampNeg) := inb_of S473 ⟨by decide, by decide⟩
          obtain ⟨T473, h473, X473, e473, W473, st473⟩ := stC X471 hx hZ e471 Ar473 (j := (10 : Int32)) hin473 (g := (mkF m 444 (LA45 p1 p2 p3 p4 rp mp q cc o423 o440) [(.int (atV bR (10 : Int32) q cc)), (.int (10 : Int32)), (.ref o440)])) rfl rfl (hb hby at_444)
          rw [nar_c (atV_rng bR_rng (by decide) (by decide) hq_cc).1 (le255 (atV_rng bR_rng (by decide) (by decide) hq_cc).2)] at W473
          have V473 : Arv Z h473 o440 k440 .char (16 : Int32) ((outL bR 11 q cc).map Value.int) (.int 0) := outL_push bR 10 q cc ▸ own_push V470 W473 (by rw [List.length_map, outL_len]; decide) (fits_c (atV_rng bR_rng (by decide) (by decide) hq_cc).1 (le255 (atV_rng bR_rng (by decide) (by decide) hq_cc).2))
          have N473 := Fr.snoc X473 N471 fr440
          have J473 := J471.wr W473 (List.mem_cons_self ..)
          have B473 := B471.mono (Nat.le_of_eq W473.size.symm)
          have O473 := O470.wr W473 (Nat.le_trans (own_ole O0) fr440)
          have K473 := K470.wr W473 (Or.inr sz440)
          refine Go.of (fun _ hr => st473 _ hr) ?_
          show Go p e s below _ _ _ _ T473 (mkF m 445 (LA45 p1 p2 p3 p4 rp mp q cc o423 o440) [])
          refine Go.of (fun _ hr => XS.iload X473.here hx rfl (hb hby at_445) rfl  hr) ?_
          show Go p e s below _ _ _ _ T473 (mkF m 447 (LA45 p1 p2 p3 p4 rp mp q cc o423 o440) [(.int (16 : Int32))])
          refine Go.of (fun _ hr => XS.bipush X473.here hx rfl (hb hby at_447) hr) ?_
          show Go p e s below _ _ _ _ T473 (mkF m 449 (LA45 p1 p2 p3 p4 rp mp q cc o423 o440) [(.int (11 : Int32)), (.int (16 : Int32))])
          refine Go.of (fun _ hr => XS.icmpNo X473.here hx rfl (hb hby at_449) rfl (tlt (by decide : ((11 : Int32) < (16 : Int32)))).2.2.2 hr) ?_
          show Go p e s below _ _ _ _ T473 (mkF m 452 (LA45 p1 p2 p3 p4 rp mp q cc o423 o440) [])
          refine Go.of (fun _ hr => XS.aload X473.here hx rfl (hb hby at_452) rfl rfl hr) ?_
          show Go p e s below _ _ _ _ T473 (mkF m 454 (LA45 p1 p2 p3 p4 rp mp q cc o423 o440) [(.ref o440)])
          refine Go.of (fun _ hr => XS.bipush X473.here hx rfl (hb hby at_454) hr) ?_
          show Go p e s below _ _ _ _ T473 (mkF m 456 (LA45 p1 p2 p3 p4 rp mp q cc o423 o440) [(.int (11 : Int32)), (.ref o440)])
          refine Go.of (fun _ hr => XS.aload X473.here hx rfl (hb hby at_456) rfl rfl hr) ?_
          show Go p e s below _ _ _ _ T473 (mkF m 458 (LA45 p1 p2 p3 p4 rp mp q cc o423 o440) [(.ref o423), (.int (11 : Int32)), (.ref o440)])
          refine Go.of (fun _ hr => XS.bipush X473.here hx rfl (hb hby at_458) hr) ?_
          show Go p e s below _ _ _ _ T473 (mkF m 460 (LA45 p1 p2 p3 p4 rp mp q cc o423 o440) [(.int (11 : Int32)), (.ref o423), (.int (11 : Int32)), (.ref o440)])
          refine Go.of (fun _ hr => XS.iload X473.here hx rfl (hb hby at_460) rfl  hr) ?_
          show Go p e s below _ _ _ _ T473 (mkF m 462 (LA45 p1 p2 p3 p4 rp mp q cc o423 o440) [(.int q), (.int (11 : Int32)), (.ref o423), (.int (11 : Int32)), (.ref o440)])
          refine Go.of (fun _ hr => XS.iload X473.here hx rfl (hb hby at_462) rfl  hr) ?_
          show Go p e s below _ _ _ _ T473 (mkF m 464 (LA45 p1 p2 p3 p4 rp mp q cc o423 o440) [(.int cc), (.int q), (.int (11 : Int32)), (.ref o423), (.int (11 : Int32)), (.ref o440)])
          have f475 := (f472.other W473 ne_o423_o440)
          obtain ⟨_, b474, T474, h474, L474, e474, Cc474, X474, B474, J474, g474, hQ474, st474⟩ := own_callS Cc471 B473 J473 X473 (hw _ (List.mem_of_getElem? (i := 2) rfl)) (hw _ (List.mem_of_getElem? (i := 3) rfl)) (hw _ (List.mem_of_getElem? (i := 4) rfl)) (hw _ (List.mem_of_getElem? (i := 5) rfl)) (by decide) (rm1 l Z a0 hw [] o423 _ (11 : Int32) q cc bR _ h473 n0 O473 h0.size (own_ole O0) K473.1 bR_rng (by decide) (by decide) hq_cc f475) e473 (g := (mkF m 464 (LA45 p1 p2 p3 p4 rp mp q cc o423 o440) [(.int cc), (.int q), (.int (11 : Int32)), (.ref o423), (.int (11 : Int32)), (.ref o440)])) rfl (by rw [hml]; rfl) (argsL := [(.ref o423), (.int (11 : Int32)), (.int q), (.int cc)]) (rest := [(.int (11 : Int32)), (.ref o440)]) (lenOf pd7 rfl) rfl (W := 2) (by show 2 * 0 + _ ≤ _; exact Nat.le_of_eq rfl) (hb hby at_464) (by decide) (by decide) (by decide) (by decide)
          obtain ⟨rfl, Nq474, hh474⟩ := hQ474
          have N474 := Fr.app N473 Nq474
          obtain ⟨hx, hZ, hown, hby, hml, hnm, hret, hlk⟩ := id Cc474
          rw [hh474] at e474 B474 J474
          refine Go.of st474 ?_
          show Go p e s below _ _ _ _ T474 (mkF m 467 (LA45 p1 p2 p3 p4 rp mp q cc o423 o440) [(.int (atV bR (11 : Int32) q cc)), (.int (11 : Int32)), (.ref o440)])
          obtain ⟨cl476, Ar476, q476, S476, N476_, H476, G476⟩ := id V473
          have hin476 : ¬ ((11 : Int32) < 0 ∨ cl476.slots.size ≤ ((11 : Int32)).toNatClampNeg) := inb_of S476 ⟨by decide, by decide⟩
          obtain ⟨T476, h476, X476, e476, W476, st476⟩ := stC X474 hx hZ e474 Ar476 (j := (11 : Int32)) hin476 (g := (mkF m 467 (LA45 p1 p2 p3 p4 rp mp q cc o423 o440) [(.int (atV bR (11 : Int32) q cc)), (.int (11 : Int32)), (.ref o440)])) rfl rfl (hb hby at_467)
          rw [nar_c (atV_rng bR_rng (by decide) (by decide) hq_cc).1 (le255 (atV_rng bR_rng (by decide) (by decide) hq_cc).2)] at W476
          have V476 : Arv Z h476 o440 k440 .char (16 : Int32) ((outL bR 12 q cc).map Value.int) (.int 0) := outL_push bR 11 q cc ▸ own_push V473 W476 (by rw [List.length_map, outL_len]; decide) (fits_c (atV_rng bR_rng (by decide) (by decide) hq_cc).1 (le255 (atV_rng bR_rng (by decide) (by decide) hq_cc).2))
          have N476 := Fr.snoc X476 N474 fr440
          have J476 := J474.wr W476 (List.mem_cons_self ..)
          have B476 := B474.mono (Nat.le_of_eq W476.size.symm)
          have O476 := O473.wr W476 (Nat.le_trans (own_ole O0) fr440)
          have K476 := K473.wr W476 (Or.inr sz440)
          refine Go.of (fun _ hr => st476 _ hr) ?_
          show Go p e s below _ _ _ _ T476 (mkF m 468 (LA45 p1 p2 p3 p4 rp mp q cc o423 o440) [])
          refine Go.of (fun _ hr => XS.iload X476.here hx rfl (hb hby at_468) rfl  hr) ?_
          show Go p e s below _ _ _ _ T476 (mkF m 470 (LA45 p1 p2 p3 p4 rp mp q cc o423 o440) [(.int (16 : Int32))])
          refine Go.of (fun _ hr => XS.bipush X476.here hx rfl (hb hby at_470) hr) ?_
          show Go p e s below _ _ _ _ T476 (mkF m 472 (LA45 p1 p2 p3 p4 rp mp q cc o423 o440) [(.int (12 : Int32)), (.int (16 : Int32))])
          refine Go.of (fun _ hr => XS.icmpNo X476.here hx rfl (hb hby at_472) rfl (tlt (by decide : ((12 : Int32) < (16 : Int32)))).2.2.2 hr) ?_
          show Go p e s below _ _ _ _ T476 (mkF m 475 (LA45 p1 p2 p3 p4 rp mp q cc o423 o440) [])
          refine Go.of (fun _ hr => XS.aload X476.here hx rfl (hb hby at_475) rfl rfl hr) ?_
          show Go p e s below _ _ _ _ T476 (mkF m 477 (LA45 p1 p2 p3 p4 rp mp q cc o423 o440) [(.ref o440)])
          refine Go.of (fun _ hr => XS.bipush X476.here hx rfl (hb hby at_477) hr) ?_
          show Go p e s below _ _ _ _ T476 (mkF m 479 (LA45 p1 p2 p3 p4 rp mp q cc o423 o440) [(.int (12 : Int32)), (.ref o440)])
          refine Go.of (fun _ hr => XS.aload X476.here hx rfl (hb hby at_479) rfl rfl hr) ?_
          show Go p e s below _ _ _ _ T476 (mkF m 481 (LA45 p1 p2 p3 p4 rp mp q cc o423 o440) [(.ref o423), (.int (12 : Int32)), (.ref o440)])
          refine Go.of (fun _ hr => XS.bipush X476.here hx rfl (hb hby at_481) hr) ?_
          show Go p e s below _ _ _ _ T476 (mkF m 483 (LA45 p1 p2 p3 p4 rp mp q cc o423 o440) [(.int (12 : Int32)), (.ref o423), (.int (12 : Int32)), (.ref o440)])
          refine Go.of (fun _ hr => XS.iload X476.here hx rfl (hb hby at_483) rfl  hr) ?_
          show Go p e s below _ _ _ _ T476 (mkF m 485 (LA45 p1 p2 p3 p4 rp mp q cc o423 o440) [(.int q), (.int (12 : Int32)), (.ref o423), (.int (12 : Int32)), (.ref o440)])
          refine Go.of (fun _ hr => XS.iload X476.here hx rfl (hb hby at_485) rfl  hr) ?_
          show Go p e s below _ _ _ _ T476 (mkF m 487 (LA45 p1 p2 p3 p4 rp mp q cc o423 o440) [(.int cc), (.int q), (.int (12 : Int32)), (.ref o423), (.int (12 : Int32)), (.ref o440)])
          have f478 := (f475.other W476 ne_o423_o440)
          obtain ⟨_, b477, T477, h477, L477, e477, Cc477, X477, B477, J477, g477, hQ477, st477⟩ := own_callS Cc474 B476 J476 X476 (hw _ (List.mem_of_getElem? (i := 2) rfl)) (hw _ (List.mem_of_getElem? (i := 3) rfl)) (hw _ (List.mem_of_getElem? (i := 4) rfl)) (hw _ (List.mem_of_getElem? (i := 5) rfl)) (by decide) (rm1 l Z a0 hw [] o423 _ (12 : Int32) q cc bR _ h476 n0 O476 h0.size (own_ole O0) K476.1 bR_rng (by decide) (by decide) hq_cc f478) e476 (g := (mkF m 487 (LA45 p1 p2 p3 p4 rp mp q cc o423 o440) [(.int cc), (.int q), (.int (12 : Int32)), (.ref o423), (.int (12 : Int32)), (.ref o440)])) rfl (by rw [hml]; rfl) (argsL := [(.ref o423), (.int (12 : Int32)), (.int q), (.int cc)]) (rest := [(.int (12 : Int32)), (.ref o440)]) (lenOf pd7 rfl) rfl (W := 2) (by show 2 * 0 + _ ≤ _; exact Nat.le_of_eq rfl) (hb hby at_487) (by decide) (by decide) (by decide) (by decide)
          obtain ⟨rfl, Nq477, hh477⟩ := hQ477
          have N477 := Fr.app N476 Nq477
          obtain ⟨hx, hZ, hown, hby, hml, hnm, hret, hlk⟩ := id Cc477
          rw [hh477] at e477 B477 J477
          refine Go.of st477 ?_
          show Go p e s below _ _ _ _ T477 (mkF m 490 (LA45 p1 p2 p3 p4 rp mp q cc o423 o440) [(.int (atV bR (12 : Int32) q cc)), (.int (12 : Int32)), (.ref o440)])
          obtain ⟨cl479, Ar479, q479, S479, N479_, H479, G479⟩ := id V476
          have hin479 : ¬ ((12 : Int32) < 0 ∨ cl479.slots.size ≤ ((12 : Int32)).toNatClampNeg) := inb_of S479 ⟨by decide, by decide⟩
          obtain ⟨T479, h479, X479, e479, W479, st479⟩ := stC X477 hx hZ e477 Ar479 (j := (12 : Int32)) hin479 (g := (mkF m 490 (LA45 p1 p2 p3 p4 rp mp q cc o423 o440) [(.int (atV bR (12 : Int32) q cc)), (.int (12 : Int32)), (.ref o440)])) rfl rfl (hb hby at_490)
          rw [nar_c (atV_rng bR_rng (by decide) (by decide) hq_cc).1 (le255 (atV_rng bR_rng (by decide) (by decide) hq_cc).2)] at W479
          have V479 : Arv Z h479 o440 k440 .char (16 : Int32) ((outL bR 13 q cc).map Value.int) (.int 0) := outL_push bR 12 q cc ▸ own_push V476 W479 (by rw [List.length_map, outL_len]; decide) (fits_c (atV_rng bR_rng (by decide) (by decide) hq_cc).1 (le255 (atV_rng bR_rng (by decide) (by decide) hq_cc).2))
          have N479 := Fr.snoc X479 N477 fr440
          have J479 := J477.wr W479 (List.mem_cons_self ..)
          have B479 := B477.mono (Nat.le_of_eq W479.size.symm)
          have O479 := O476.wr W479 (Nat.le_trans (own_ole O0) fr440)
          have K479 := K476.wr W479 (Or.inr sz440)
          refine Go.of (fun _ hr => st479 _ hr) ?_
          show Go p e s below _ _ _ _ T479 (mkF m 491 (LA45 p1 p2 p3 p4 rp mp q cc o423 o440) [])
          refine Go.of (fun _ hr => XS.iload X479.here hx rfl (hb hby at_491) rfl  hr) ?_
          show Go p e s below _ _ _ _ T479 (mkF m 493 (LA45 p1 p2 p3 p4 rp mp q cc o423 o440) [(.int (16 : Int32))])
          refine Go.of (fun _ hr => XS.bipush X479.here hx rfl (hb hby at_493) hr) ?_
          show Go p e s below _ _ _ _ T479 (mkF m 495 (LA45 p1 p2 p3 p4 rp mp q cc o423 o440) [(.int (13 : Int32)), (.int (16 : Int32))])
          refine Go.of (fun _ hr => XS.icmpNo X479.here hx rfl (hb hby at_495) rfl (tlt (by decide : ((13 : Int32) < (16 : Int32)))).2.2.2 hr) ?_
          show Go p e s below _ _ _ _ T479 (mkF m 498 (LA45 p1 p2 p3 p4 rp mp q cc o423 o440) [])
          refine Go.of (fun _ hr => XS.aload X479.here hx rfl (hb hby at_498) rfl rfl hr) ?_
          show Go p e s below _ _ _ _ T479 (mkF m 500 (LA45 p1 p2 p3 p4 rp mp q cc o423 o440) [(.ref o440)])
          refine Go.of (fun _ hr => XS.bipush X479.here hx rfl (hb hby at_500) hr) ?_
          show Go p e s below _ _ _ _ T479 (mkF m 502 (LA45 p1 p2 p3 p4 rp mp q cc o423 o440) [(.int (13 : Int32)), (.ref o440)])
          refine Go.of (fun _ hr => XS.aload X479.here hx rfl (hb hby at_502) rfl rfl hr) ?_
          show Go p e s below _ _ _ _ T479 (mkF m 504 (LA45 p1 p2 p3 p4 rp mp q cc o423 o440) [(.ref o423), (.int (13 : Int32)), (.ref o440)])
          refine Go.of (fun _ hr => XS.bipush X479.here hx rfl (hb hby at_504) hr) ?_
          show Go p e s below _ _ _ _ T479 (mkF m 506 (LA45 p1 p2 p3 p4 rp mp q cc o423 o440) [(.int (13 : Int32)), (.ref o423), (.int (13 : Int32)), (.ref o440)])
          refine Go.of (fun _ hr => XS.iload X479.here hx rfl (hb hby at_506) rfl  hr) ?_
          show Go p e s below _ _ _ _ T479 (mkF m 508 (LA45 p1 p2 p3 p4 rp mp q cc o423 o440) [(.int q), (.int (13 : Int32)), (.ref o423), (.int (13 : Int32)), (.ref o440)])
          refine Go.of (fun _ hr => XS.iload X479.here hx rfl (hb hby at_508) rfl  hr) ?_
          show Go p e s below _ _ _ _ T479 (mkF m 510 (LA45 p1 p2 p3 p4 rp mp q cc o423 o440) [(.int cc), (.int q), (.int (13 : Int32)), (.ref o423), (.int (13 : Int32)), (.ref o440)])
          have f481 := (f478.other W479 ne_o423_o440)
          obtain ⟨_, b480, T480, h480, L480, e480, Cc480, X480, B480, J480, g480, hQ480, st480⟩ := own_callS Cc477 B479 J479 X479 (hw _ (List.mem_of_getElem? (i := 2) rfl)) (hw _ (List.mem_of_getElem? (i := 3) rfl)) (hw _ (List.mem_of_getElem? (i := 4) rfl)) (hw _ (List.mem_of_getElem? (i := 5) rfl)) (by decide) (rm1 l Z a0 hw [] o423 _ (13 : Int32) q cc bR _ h479 n0 O479 h0.size (own_ole O0) K479.1 bR_rng (by decide) (by decide) hq_cc f481) e479 (g := (mkF m 510 (LA45 p1 p2 p3 p4 rp mp q cc o423 o440) [(.int cc), (.int q), (.int (13 : Int32)), (.ref o423), (.int (13 : Int32)), (.ref o440)])) rfl (by rw [hml]; rfl) (argsL := [(.ref o423), (.int (13 : Int32)), (.int q), (.int cc)]) (rest := [(.int (13 : Int32)), (.ref o440)]) (lenOf pd7 rfl) rfl (W := 2) (by show 2 * 0 + _ ≤ _; exact Nat.le_of_eq rfl) (hb hby at_510) (by decide) (by decide) (by decide) (by decide)
          obtain ⟨rfl, Nq480, hh480⟩ := hQ480
          have N480 := Fr.app N479 Nq480
          obtain ⟨hx, hZ, hown, hby, hml, hnm, hret, hlk⟩ := id Cc480
          rw [hh480] at e480 B480 J480
          refine Go.of st480 ?_
          show Go p e s below _ _ _ _ T480 (mkF m 513 (LA45 p1 p2 p3 p4 rp mp q cc o423 o440) [(.int (atV bR (13 : Int32) q cc)), (.int (13 : Int32)), (.ref o440)])
          obtain ⟨cl482, Ar482, q482, S482, N482_, H482, G482⟩ := id V479
          have hin482 : ¬ ((13 : Int32) < 0 ∨ cl482.slots.size ≤ ((13 : Int32)).toNatClampNeg) := inb_of S482 ⟨by decide, by decide⟩
          obtain ⟨T482, h482, X482, e482, W482, st482⟩ := stC X480 hx hZ e480 Ar482 (j := (13 : Int32)) hin482 (g := (mkF m 513 (LA45 p1 p2 p3 p4 rp mp q cc o423 o440) [(.int (atV bR (13 : Int32) q cc)), (.int (13 : Int32)), (.ref o440)])) rfl rfl (hb hby at_513)
          rw [nar_c (atV_rng bR_rng (by decide) (by decide) hq_cc).1 (le255 (atV_rng bR_rng (by decide) (by decide) hq_cc).2)] at W482
          have V482 : Arv Z h482 o440 k440 .char (16 : Int32) ((outL bR 14 q cc).map Value.int) (.int 0) := outL_push bR 13 q cc ▸ own_push V479 W482 (by rw [List.length_map, outL_len]; decide) (fits_c (atV_rng bR_rng (by decide) (by decide) hq_cc).1 (le255 (atV_rng bR_rng (by decide) (by decide) hq_cc).2))
          have N482 := Fr.snoc X482 N480 fr440
          have J482 := J480.wr W482 (List.mem_cons_self ..)
          have B482 := B480.mono (Nat.le_of_eq W482.size.symm)
          have O482 := O479.wr W482 (Nat.le_trans (own_ole O0) fr440)
          have K482 := K479.wr W482 (Or.inr sz440)
          refine Go.of (fun _ hr => st482 _ hr) ?_
          show Go p e s below _ _ _ _ T482 (mkF m 514 (LA45 p1 p2 p3 p4 rp mp q cc o423 o440) [])
          refine Go.of (fun _ hr => XS.iload X482.here hx rfl (hb hby at_514) rfl  hr) ?_
          show Go p e s below _ _ _ _ T482 (mkF m 516 (LA45 p1 p2 p3 p4 rp mp q cc o423 o440) [(.int (16 : Int32))])
          refine Go.of (fun _ hr => XS.bipush X482.here hx rfl (hb hby at_516) hr) ?_
          show Go p e s below _ _ _ _ T482 (mkF m 518 (LA45 p1 p2 p3 p4 rp mp q cc o423 o440) [(.int (14 : Int32)), (.int (16 : Int32))])
          refine Go.of (fun _ hr => XS.icmpNo X482.here hx rfl (hb hby at_518) rfl (tlt (by decide : ((14 : Int32) < (16 : Int32)))).2.2.2 hr) ?_
          show Go p e s below _ _ _ _ T482 (mkF m 521 (LA45 p1 p2 p3 p4 rp mp q cc o423 o440) [])
          refine Go.of (fun _ hr => XS.aload X482.here hx rfl (hb hby at_521) rfl rfl hr) ?_
          show Go p e s below _ _ _ _ T482 (mkF m 523 (LA45 p1 p2 p3 p4 rp mp q cc o423 o440) [(.ref o440)])
          refine Go.of (fun _ hr => XS.bipush X482.here hx rfl (hb hby at_523) hr) ?_
          show Go p e s below _ _ _ _ T482 (mkF m 525 (LA45 p1 p2 p3 p4 rp mp q cc o423 o440) [(.int (14 : Int32)), (.ref o440)])
          refine Go.of (fun _ hr => XS.aload X482.here hx rfl (hb hby at_525) rfl rfl hr) ?_
          show Go p e s below _ _ _ _ T482 (mkF m 527 (LA45 p1 p2 p3 p4 rp mp q cc o423 o440) [(.ref o423), (.int (14 : Int32)), (.ref o440)])
          refine Go.of (fun _ hr => XS.bipush X482.here hx rfl (hb hby at_527) hr) ?_
          show Go p e s below _ _ _ _ T482 (mkF m 529 (LA45 p1 p2 p3 p4 rp mp q cc o423 o440) [(.int (14 : Int32)), (.ref o423), (.int (14 : Int32)), (.ref o440)])
          refine Go.of (fun _ hr => XS.iload X482.here hx rfl (hb hby at_529) rfl  hr) ?_
          show Go p e s below _ _ _ _ T482 (mkF m 531 (LA45 p1 p2 p3 p4 rp mp q cc o423 o440) [(.int q), (.int (14 : Int32)), (.ref o423), (.int (14 : Int32)), (.ref o440)])
          refine Go.of (fun _ hr => XS.iload X482.here hx rfl (hb hby at_531) rfl  hr) ?_
          show Go p e s below _ _ _ _ T482 (mkF m 533 (LA45 p1 p2 p3 p4 rp mp q cc o423 o440) [(.int cc), (.int q), (.int (14 : Int32)), (.ref o423), (.int (14 : Int32)), (.ref o440)])
          have f484 := (f481.other W482 ne_o423_o440)
          obtain ⟨_, b483, T483, h483, L483, e483, Cc483, X483, B483, J483, g483, hQ483, st483⟩ := own_callS Cc480 B482 J482 X482 (hw _ (List.mem_of_getElem? (i := 2) rfl)) (hw _ (List.mem_of_getElem? (i := 3) rfl)) (hw _ (List.mem_of_getElem? (i := 4) rfl)) (hw _ (List.mem_of_getElem? (i := 5) rfl)) (by decide) (rm1 l Z a0 hw [] o423 _ (14 : Int32) q cc bR _ h482 n0 O482 h0.size (own_ole O0) K482.1 bR_rng (by decide) (by decide) hq_cc f484) e482 (g := (mkF m 533 (LA45 p1 p2 p3 p4 rp mp q cc o423 o440) [(.int cc), (.int q), (.int (14 : Int32)), (.ref o423), (.int (14 : Int32)), (.ref o440)])) rfl (by rw [hml]; rfl) (argsL := [(.ref o423), (.int (14 : Int32)), (.int q), (.int cc)]) (rest := [(.int (14 : Int32)), (.ref o440)]) (lenOf pd7 rfl) rfl (W := 2) (by show 2 * 0 + _ ≤ _; exact Nat.le_of_eq rfl) (hb hby at_533) (by decide) (by decide) (by decide) (by decide)
          obtain ⟨rfl, Nq483, hh483⟩ := hQ483
          have N483 := Fr.app N482 Nq483
          obtain ⟨hx, hZ, hown, hby, hml, hnm, hret, hlk⟩ := id Cc483
          rw [hh483] at e483 B483 J483
          refine Go.of st483 ?_
          show Go p e s below _ _ _ _ T483 (mkF m 536 (LA45 p1 p2 p3 p4 rp mp q cc o423 o440) [(.int (atV bR (14 : Int32) q cc)), (.int (14 : Int32)), (.ref o440)])
          obtain ⟨cl485, Ar485, q485, S485, N485_, H485, G485⟩ := id V482
          have hin485 : ¬ ((14 : Int32) < 0 ∨ cl485.slots.size ≤ ((14 : Int32)).toNatClampNeg) := inb_of S485 ⟨by decide, by decide⟩
          obtain ⟨T485, h485, X485, e485, W485, st485⟩ := stC X483 hx hZ e483 Ar485 (j := (14 : Int32)) hin485 (g := (mkF m 536 (LA45 p1 p2 p3 p4 rp mp q cc o423 o440) [(.int (atV bR (14 : Int32) q cc)), (.int (14 : Int32)), (.ref o440)])) rfl rfl (hb hby at_536)
          rw [nar_c (atV_rng bR_rng (by decide) (by decide) hq_cc).1 (le255 (atV_rng bR_rng (by decide) (by decide) hq_cc).2)] at W485
          have V485 : Arv Z h485 o440 k440 .char (16 : Int32) ((outL bR 15 q cc).map Value.int) (.int 0) := outL_push bR 14 q cc ▸ own_push V482 W485 (by rw [List.length_map, outL_len]; decide) (fits_c (atV_rng bR_rng (by decide) (by decide) hq_cc).1 (le255 (atV_rng bR_rng (by decide) (by decide) hq_cc).2))
          have N485 := Fr.snoc X485 N483 fr440
          have J485 := J483.wr W485 (List.mem_cons_self ..)
          have B485 := B483.mono (Nat.le_of_eq W485.size.symm)
          have O485 := O482.wr W485 (Nat.le_trans (own_ole O0) fr440)
          have K485 := K482.wr W485 (Or.inr sz440)
          refine Go.of (fun _ hr => st485 _ hr) ?_
          show Go p e s below _ _ _ _ T485 (mkF m 537 (LA45 p1 p2 p3 p4 rp mp q cc o423 o440) [])
          refine Go.of (fun _ hr => XS.iload X485.here hx rfl (hb hby at_537) rfl  hr) ?_
          show Go p e s below _ _ _ _ T485 (mkF m 539 (LA45 p1 p2 p3 p4 rp mp q cc o423 o440) [(.int (16 : Int32))])
          refine Go.of (fun _ hr => XS.bipush X485.here hx rfl (hb hby at_539) hr) ?_
          show Go p e s below _ _ _ _ T485 (mkF m 541 (LA45 p1 p2 p3 p4 rp mp q cc o423 o440) [(.int (15 : Int32)), (.int (16 : Int32))])
          refine Go.of (fun _ hr => XS.icmpNo X485.here hx rfl (hb hby at_541) rfl (tlt (by decide : ((15 : Int32) < (16 : Int32)))).2.2.2 hr) ?_
          show Go p e s below _ _ _ _ T485 (mkF m 544 (LA45 p1 p2 p3 p4 rp mp q cc o423 o440) [])
          refine Go.of (fun _ hr => XS.aload X485.here hx rfl (hb hby at_544) rfl rfl hr) ?_
          show Go p e s below _ _ _ _ T485 (mkF m 546 (LA45 p1 p2 p3 p4 rp mp q cc o423 o440) [(.ref o440)])
          refine Go.of (fun _ hr => XS.bipush X485.here hx rfl (hb hby at_546) hr) ?_
          show Go p e s below _ _ _ _ T485 (mkF m 548 (LA45 p1 p2 p3 p4 rp mp q cc o423 o440) [(.int (15 : Int32)), (.ref o440)])
          refine Go.of (fun _ hr => XS.aload X485.here hx rfl (hb hby at_548) rfl rfl hr) ?_
          show Go p e s below _ _ _ _ T485 (mkF m 550 (LA45 p1 p2 p3 p4 rp mp q cc o423 o440) [(.ref o423), (.int (15 : Int32)), (.ref o440)])
          refine Go.of (fun _ hr => XS.bipush X485.here hx rfl (hb hby at_550) hr) ?_
          show Go p e s below _ _ _ _ T485 (mkF m 552 (LA45 p1 p2 p3 p4 rp mp q cc o423 o440) [(.int (15 : Int32)), (.ref o423), (.int (15 : Int32)), (.ref o440)])
          refine Go.of (fun _ hr => XS.iload X485.here hx rfl (hb hby at_552) rfl  hr) ?_
          show Go p e s below _ _ _ _ T485 (mkF m 554 (LA45 p1 p2 p3 p4 rp mp q cc o423 o440) [(.int q), (.int (15 : Int32)), (.ref o423), (.int (15 : Int32)), (.ref o440)])
          refine Go.of (fun _ hr => XS.iload X485.here hx rfl (hb hby at_554) rfl  hr) ?_
          show Go p e s below _ _ _ _ T485 (mkF m 556 (LA45 p1 p2 p3 p4 rp mp q cc o423 o440) [(.int cc), (.int q), (.int (15 : Int32)), (.ref o423), (.int (15 : Int32)), (.ref o440)])
          have f487 := (f484.other W485 ne_o423_o440)
          obtain ⟨_, b486, T486, h486, L486, e486, Cc486, X486, B486, J486, g486, hQ486, st486⟩ := own_callS Cc483 B485 J485 X485 (hw _ (List.mem_of_getElem? (i := 2) rfl)) (hw _ (List.mem_of_getElem? (i := 3) rfl)) (hw _ (List.mem_of_getElem? (i := 4) rfl)) (hw _ (List.mem_of_getElem? (i := 5) rfl)) (by decide) (rm1 l Z a0 hw [] o423 _ (15 : Int32) q cc bR _ h485 n0 O485 h0.size (own_ole O0) K485.1 bR_rng (by decide) (by decide) hq_cc f487) e485 (g := (mkF m 556 (LA45 p1 p2 p3 p4 rp mp q cc o423 o440) [(.int cc), (.int q), (.int (15 : Int32)), (.ref o423), (.int (15 : Int32)), (.ref o440)])) rfl (by rw [hml]; rfl) (argsL := [(.ref o423), (.int (15 : Int32)), (.int q), (.int cc)]) (rest := [(.int (15 : Int32)), (.ref o440)]) (lenOf pd7 rfl) rfl (W := 2) (by show 2 * 0 + _ ≤ _; exact Nat.le_of_eq rfl) (hb hby at_556) (by decide) (by decide) (by decide) (by decide)
          obtain ⟨rfl, Nq486, hh486⟩ := hQ486
          have N486 := Fr.app N485 Nq486
          obtain ⟨hx, hZ, hown, hby, hml, hnm, hret, hlk⟩ := id Cc486
          rw [hh486] at e486 B486 J486
          refine Go.of st486 ?_
          show Go p e s below _ _ _ _ T486 (mkF m 559 (LA45 p1 p2 p3 p4 rp mp q cc o423 o440) [(.int (atV bR (15 : Int32) q cc)), (.int (15 : Int32)), (.ref o440)])
          obtain ⟨cl488, Ar488, q488, S488, N488_, H488, G488⟩ := id V485
          have hin488 : ¬ ((15 : Int32) < 0 ∨ cl488.slots.size ≤ ((15 : Int32)).toNatClampNeg) := inb_of S488 ⟨by decide, by decide⟩
          obtain ⟨T488, h488, X488, e488, W488, st488⟩ := stC X486 hx hZ e486 Ar488 (j := (15 : Int32)) hin488 (g := (mkF m 559 (LA45 p1 p2 p3 p4 rp mp q cc o423 o440) [(.int (atV bR (15 : Int32) q cc)), (.int (15 : Int32)), (.ref o440)])) rfl rfl (hb hby at_559)
          rw [nar_c (atV_rng bR_rng (by decide) (by decide) hq_cc).1 (le255 (atV_rng bR_rng (by decide) (by decide) hq_cc).2)] at W488
          have V488 : Arv Z h488 o440 k440 .char (16 : Int32) ((outL bR 16 q cc).map Value.int) (.int 0) := outL_push bR 15 q cc ▸ own_push V485 W488 (by rw [List.length_map, outL_len]; decide) (fits_c (atV_rng bR_rng (by decide) (by decide) hq_cc).1 (le255 (atV_rng bR_rng (by decide) (by decide) hq_cc).2))
          have N488 := Fr.snoc X488 N486 fr440
          have J488 := J486.wr W488 (List.mem_cons_self ..)
          have B488 := B486.mono (Nat.le_of_eq W488.size.symm)
          have O488 := O485.wr W488 (Nat.le_trans (own_ole O0) fr440)
          have K488 := K485.wr W488 (Or.inr sz440)
          refine Go.of (fun _ hr => st488 _ hr) ?_
          show Go p e s below _ _ _ _ T488 (mkF m 560 (LA45 p1 p2 p3 p4 rp mp q cc o423 o440) [])
          obtain ⟨T489, h489, X489, e489, E489, A489, D489, -, st489⟩ := newO X488 hx hZ hown (hw _ (List.mem_of_getElem? (i := 6) rfl)) (hw _ (List.mem_of_getElem? (i := 7) rfl)) (hw _ (List.mem_of_getElem? (i := 8) rfl)) e488 (g := (mkF m 560 (LA45 p1 p2 p3 p4 rp mp q cc o423 o440) [])) rfl (hb hby at_560) (by decide) (by decide)
          obtain ⟨o489, g489⟩ : ∃ z, z = h488.size := ⟨_, rfl⟩
          rw [← g489] at A489 D489 st489
          have f490 := (f487.other W488 ne_o423_o440)
          have ne_o423_o489 : o423 ≠ o489 := Nat.ne_of_lt (Nat.lt_of_lt_of_le f490.lt (Nat.le_of_eq g489.symm))
          have ne_o440_o489 : o440 ≠ o489 := Nat.ne_of_lt (Nat.lt_of_lt_of_le V488.lt (Nat.le_of_eq g489.symm))
          have lt489 : o489 < h489.size := A489.lt
          have J489 := J488.add E489 g489 lt489
          have B489 := B488.mono E489.1
          have O489 := O488.ext E489
          have sz489 : h0.size ≤ o489 := Nat.le_trans K488.1 (Nat.le_of_eq g489.symm)
          have fr489 : h0.size ≤ o489 := sz489
          have K489 := K488.ext E489
          have F489_coder : Fld Z h489 o489 "java/lang/String" "coder" "B" (.int (0 : Int32)) := D489 (Or.inr (hw _ (List.mem_of_getElem? (i := 32) rfl))) (ty := .byte) (by decide)
          have F489_value : Fld Z h489 o489 "java/lang/String" "value" "[B" .null := D489 (Or.inr (hw _ (List.mem_of_getElem? (i := 34) rfl))) (ty := (.array .byte)) (by decide)
          refine Go.of (fun _ hr => st489 _ hr) ?_
          show Go p e s below _ _ _ _ T489 (mkF m 563 (LA45 p1 p2 p3 p4 rp mp q cc o423 o440) [(.ref o489)])
          refine Go.of (fun _ hr => XS.dup X489.here hx rfl (hb hby at_563) rfl rfl hr) ?_
          show Go p e s below _ _ _ _ T489 (mkF m 564 (LA45 p1 p2 p3 p4 rp mp q cc o423 o440) [(.ref o489), (.ref o489)])
          refine Go.of (fun _ hr => XS.aload X489.here hx rfl (hb hby at_564) rfl rfl hr) ?_
          show Go p e s below _ _ _ _ T489 (mkF m 566 (LA45 p1 p2 p3 p4 rp mp q cc o423 o440) [(.ref o440), (.ref o489), (.ref o489)])
          have f492 := (V488.ext E489)
          obtain ⟨_, b491, T491, h491, L491, e491, Cc491, X491, B491, J491, g491, hQ491, st491⟩ := own_callI Cc486 B489 J489 X489 rfl (hw _ (List.mem_of_getElem? (i := 9) rfl)) (hw _ (List.mem_of_getElem? (i := 10) rfl)) (hw _ (List.mem_of_getElem? (i := 8) rfl)) (hw _ (List.mem_of_getElem? (i := 11) rfl)) (by decide) (rm2 l Z a0 hw [] o489 o440 _ (outL bR 16 q cc) _ _ zc _ h489 n0 O489 h0.size (own_ole O0) K489.1 fr489 (List.mem_cons_self ..) (by rw [outL_len]; decide) (outL_rng bR_rng (by decide) (by decide) hq_cc) (by rw [outL_len]; decide) f492 ne_o440_o489 A489 F489_value F489_coder S_C hzc) e489 (g := (mkF m 566 (LA45 p1 p2 p3 p4 rp mp q cc o423 o440) [(.ref o440), (.ref o489), (.ref o489)])) rfl (by rw [hml]; rfl) (argsL := [(.ref o440)]) (rest := [(.ref o489)]) (lenOf pd8 rfl) rfl (W := 1) (by show 2 * 0 + _ ≤ _; exact Nat.le_of_eq rfl) (hb hby at_566) (by decide) (by decide) (by decide) (by decide)
          obtain ⟨rfl, Nq491, Kq491, t491, kt491, nt491, Fv491, Fc491, Vt491⟩ := hQ491
          have N491 := Fr.app N488 Nq491
          obtain ⟨hx, hZ, hown, hby, hml, hnm, hret, hlk⟩ := id Cc491
          have K491 := K489.trans Kq491 (allS (Or.inr sz489) all0)
          have O491 := O489.keep Kq491 (allS (Nat.le_trans (own_ole O0) fr489) all0)
          refine Go.of st491 ?_
          have nx_t491_o489 : t491 ≠ o489 := fun q => nt491 (by rw [q]; exact (List.mem_cons_self ..))
          have nx_t491_o440 : t491 ≠ o440 := fun q => nt491 (by rw [q]; exact (List.mem_cons_of_mem _ (List.mem_cons_self ..)))
          have nx_t491_o423 : t491 ≠ o423 := fun q => nt491 (by rw [q]; exact (List.mem_cons_of_mem _ (List.mem_cons_of_mem _ (List.mem_cons_self ..))))
          show Go p e s below _ _ _ _ T491 (mkF m 569 (LA45 p1 p2 p3 p4 rp mp q cc o423 o440) [(.ref o489)])
          refine Go.of (fun _ hr => XS.astore X491.here hx rfl (hb hby at_569) rfl rfl (l' := (LA46 p1 p2 p3 p4 rp mp q cc o423 o440 o489)) rfl hr) ?_
          show Go p e s below _ _ _ _ T491 (mkF m 571 (LA46 p1 p2 p3 p4 rp mp q cc o423 o440 o489) [])
          obtain ⟨T493, h493, X493, e493, E493, A493, D493, -, st493⟩ := newO X491 hx hZ hown (hw _ (List.mem_of_getElem? (i := 35) rfl)) (hw _ (List.mem_of_getElem? (i := 36) rfl)) (hw _ (List.mem_of_getElem? (i := 37) rfl)) e491 (g := (mkF m 571 (LA46 p1 p2 p3 p4 rp mp q cc o423 o440 o489) [])) rfl (hb hby at_571) (by decide) (by decide)
          obtain ⟨o493, g493⟩ : ∃ z, z = h491.size := ⟨_, rfl⟩
          rw [← g493] at A493 D493 st493
          have f494 := ((f490.ext E489).keep Kq491 (ninS ne_o423_o489 nin0))
          have ne_o423_o493 : o423 ≠ o493 := Nat.ne_of_lt (Nat.lt_of_lt_of_le f494.lt (Nat.le_of_eq g493.symm))
          have f495 := (f492.keep Kq491 (ninS ne_o440_o489 nin0))
          have ne_o440_o493 : o440 ≠ o493 := Nat.ne_of_lt (Nat.lt_of_lt_of_le f495.lt (Nat.le_of_eq g493.symm))
          have f496 := (A489.keep Kq491)
          have ne_o489_o493 : o489 ≠ o493 := Nat.ne_of_lt (Nat.lt_of_lt_of_le f496.lt (Nat.le_of_eq g493.symm))
          have ne_t491_o493 : t491 ≠ o493 := Nat.ne_of_lt (Nat.lt_of_lt_of_le Vt491.lt (Nat.le_of_eq g493.symm))
          have lt493 : o493 < h493.size := A493.lt
          have J493 := J491.add E493 g493 lt493
          have B493 := B491.mono E493.1
          have O493 := O491.ext E493
          have sz493 : h0.size ≤ o493 := Nat.le_trans K491.1 (Nat.le_of_eq g493.symm)
          have fr493 : h0.size ≤ o493 := sz493
          have K493 := K491.ext E493
          have F493_name : Fld Z h493 o493 "com/example/mthd/mthd/model/ApiMessage$Field" "name" "Ljava/lang/String;" .null := D493 (Or.inr (hw _ (List.mem_of_getElem? (i := 51) rfl))) (ty := (.object "java/lang/String")) (by decide)
          have F493_type : Fld Z h493 o493 "com/example/mthd/mthd/model/ApiMessage$Field" "type" "Ljava/lang/String;" .null := D493 (Or.inr (hw _ (List.mem_of_getElem? (i := 53) rfl))) (ty := (.object "java/lang/String")) (by decide)
          have F493_repeated : Fld Z h493 o493 "com/example/mthd/mthd/model/ApiMessage$Field" "repeated" "Z" (.int (0 : Int32)) := D493 (Or.inr (hw _ (List.mem_of_getElem? (i := 55) rfl))) (ty := .boolean) (by decide)
          have F493_map : Fld Z h493 o493 "com/example/mthd/mthd/model/ApiMessage$Field" "map" "Z" (.int (0 : Int32)) := D493 (Or.inr (hw _ (List.mem_of_getElem? (i := 57) rfl))) (ty := .boolean) (by decide)
          have F493_message : Fld Z h493 o493 "com/example/mthd/mthd/model/ApiMessage$Field" "message" "Ljava/util/Optional;" .null := D493 (Or.inr (hw _ (List.mem_of_getElem? (i := 59) rfl))) (ty := (.object "java/util/Optional")) (by decide)
          have F493_resource : Fld Z h493 o493 "com/example/mthd/mthd/model/ApiMessage$Field" "resource" "Ljava/util/Optional;" .null := D493 (Or.inr (hw _ (List.mem_of_getElem? (i := 61) rfl))) (ty := (.object "java/util/Optional")) (by decide)
          refine Go.of (fun _ hr => st493 _ hr) ?_
          show Go p e s below _ _ _ _ T493 (mkF m 574 (LA46 p1 p2 p3 p4 rp mp q cc o423 o440 o489) [(.ref o493)])
          refine Go.of (fun _ hr => XS.dup X493.here hx rfl (hb hby at_574) rfl rfl hr) ?_
          show Go p e s below _ _ _ _ T493 (mkF m 575 (LA46 p1 p2 p3 p4 rp mp q cc o423 o440 o489) [(.ref o493), (.ref o493)])
          obtain ⟨o497, t497, k497, b497, T497, h497, e497, Cc497, X497, B497, J497, E497, Sy497, na497, nt497, lt497, st497⟩ := own_ldcV Cc491 B493 J493 X493 lit0_in lit0_one (hw _ (List.mem_of_getElem? (i := 38) rfl)) (own_wS Z a0 hw) lit0_lat lit0_len (by rw [eb]; exact N491) (by rw [eb]; exact O0.2) e493 (g := (mkF m 575 (LA46 p1 p2 p3 p4 rp mp q cc o423 o440 o489) [(.ref o493), (.ref o493)])) rfl (hb hby at_575) (n := 4) lit0_sz (by decide) (by decide) (by decide)
          obtain ⟨hx, hZ, hown, hby, hml, hnm, hret, hlk⟩ := id Cc497
          have K497 := K493.ext E497
          have O497 := O493.ext E497
          have nx_o497_o493 : o497 ≠ o493 := fun q => na497 (by rw [q]; exact (List.mem_cons_self ..))
          have nx_o497_o489 : o497 ≠ o489 := fun q => na497 (by rw [q]; exact (List.mem_cons_of_mem _ (List.mem_cons_self ..)))
          have nx_o497_o440 : o497 ≠ o440 := fun q => na497 (by rw [q]; exact (List.mem_cons_of_mem _ (List.mem_cons_of_mem _ (List.mem_cons_self ..))))
          have nx_o497_o423 : o497 ≠ o423 := fun q => na497 (by rw [q]; exact (List.mem_cons_of_mem _ (List.mem_cons_of_mem _ (List.mem_cons_of_mem _ (List.mem_cons_self ..)))))
          have nx_t497_o493 : t497 ≠ o493 := fun q => nt497 (by rw [q]; exact (List.mem_cons_self ..))
          have nx_t497_o489 : t497 ≠ o489 := fun q => nt497 (by rw [q]; exact (List.mem_cons_of_mem _ (List.mem_cons_self ..)))
          have nx_t497_o440 : t497 ≠ o440 := fun q => nt497 (by rw [q]; exact (List.mem_cons_of_mem _ (List.mem_cons_of_mem _ (List.mem_cons_self ..))))
          have nx_t497_o423 : t497 ≠ o423 := fun q => nt497 (by rw [q]; exact (List.mem_cons_of_mem _ (List.mem_cons_of_mem _ (List.mem_cons_of_mem _ (List.mem_cons_self ..)))))
          refine Go.of (fun _ hr => st497 _ hr) ?_
          show Go p e s below _ _ _ _ T497 (mkF m 577 (LA46 p1 p2 p3 p4 rp mp q cc o423 o440 o489) [(.ref o497), (.ref o493), (.ref o493)])
          refine Go.of (fun _ hr => XS.aload X497.here hx rfl (hb hby at_577) rfl rfl hr) ?_
          show Go p e s below _ _ _ _ T497 (mkF m 579 (LA46 p1 p2 p3 p4 rp mp q cc o423 o440 o489) [(.ref o489), (.ref o497), (.ref o493), (.ref o493)])
          refine Go.of (fun _ hr => XS.iload X497.here hx rfl (hb hby at_579) rfl  hr) ?_
          show Go p e s below _ _ _ _ T497 (mkF m 581 (LA46 p1 p2 p3 p4 rp mp q cc o423 o440 o489) [(.int rp), (.ref o489), (.ref o497), (.ref o493), (.ref o493)])
          refine Go.of (fun _ hr => XS.iload X497.here hx rfl (hb hby at_581) rfl  hr) ?_
          show Go p e s below _ _ _ _ T497 (mkF m 583 (LA46 p1 p2 p3 p4 rp mp q cc o423 o440 o489) [(.int mp), (.int rp), (.ref o489), (.ref o497), (.ref o493), (.ref o493)])
          refine Go.of (fun _ hr => XS.aconstNull X497.here hx rfl (hb hby at_583) hr) ?_
          show Go p e s below _ _ _ _ T497 (mkF m 584 (LA46 p1 p2 p3 p4 rp mp q cc o423 o440 o489) [.null, (.int mp), (.int rp), (.ref o489), (.ref o497), (.ref o493), (.ref o493)])
          refine Go.of (fun _ hr => XS.aconstNull X497.here hx rfl (hb hby at_584) hr) ?_
          show Go p e s below _ _ _ _ T497 (mkF m 585 (LA46 p1 p2 p3 p4 rp mp q cc o423 o440 o489) [.null, .null, (.int mp), (.int rp), (.ref o489), (.ref o497), (.ref o493), (.ref o493)])
          have f499 := (A493.ext E497)
          have f500 := (F493_name.ext E497)
          have f501 := (F493_type.ext E497)
          have f502 := (F493_repeated.ext E497)
          have f503 := (F493_map.ext E497)
          have f504 := (F493_message.ext E497)
          have f505 := (F493_resource.ext E497)
          obtain ⟨_, b498, T498, h498, L498, e498, Cc498, X498, B498, J498, g498, hQ498, st498⟩ := own_callI Cc497 B497 J497 X497 rfl (hw _ (List.mem_of_getElem? (i := 41) rfl)) (hw _ (List.mem_of_getElem? (i := 42) rfl)) (hw _ (List.mem_of_getElem? (i := 37) rfl)) (hw _ (List.mem_of_getElem? (i := 43) rfl)) (by decide) (rm8 l Z a0 hw [] o493 _ o497 _ o489 _ rp _ mp _ _ _ h497 n0 O497 h0.size (own_ole O0) K497.1 fr493 (List.mem_cons_self ..) f499 f500 f501 f502 hz_rp f503 hz_mp f504 f505) e497 (g := (mkF m 585 (LA46 p1 p2 p3 p4 rp mp q cc o423 o440 o489) [.null, .null, (.int mp), (.int rp), (.ref o489), (.ref o497), (.ref o493), (.ref o493)])) rfl (by rw [hml]; rfl) (argsL := [(.ref o497), (.ref o489), (.int rp), (.int mp), .null, .null]) (rest := [(.ref o493)]) (lenOf pd9 rfl) rfl (W := 1) (by show 2 * 0 + _ ≤ _; exact Nat.le_of_eq rfl) (hb hby at_585) (by decide) (by decide) (by decide) (by decide)
          obtain ⟨rfl, Nq498, Kq498, Fs0_498, Fs1_498, Fs2_498, Fs3_498, Fs4_498, Fs5_498⟩ := hQ498
          have N498 := Fr.app N491 Nq498
          obtain ⟨hx, hZ, hown, hby, hml, hnm, hret, hlk⟩ := id Cc498
          have K498 := K497.trans Kq498 (allS (Or.inr sz493) all0)
          have O498 := O497.keep Kq498 (allS (Nat.le_trans (own_ole O0) fr493) all0)
          refine Go.of st498 ?_
          show Go p e s below _ _ _ _ T498 (mkF m 588 (LA46 p1 p2 p3 p4 rp mp q cc o423 o440 o489) [(.ref o493)])
          refine Go.of (fun _ hr => XS.astore X498.here hx rfl (hb hby at_588) rfl rfl (l' := #[.val (.int p1), .val (.int p2), .val (.int p3), .val (.int p4), .val (.int rp), .val (.int mp), .val (.int (1 : Int32)), .val (.int (1 : Int32)), .val (.int q), .val (.int cc), .val (.ref o423), .val (.int (16 : Int32)), .val (.ref o440), .val (.ref o489), .val (.ref o493), .unset, .unset]) rfl hr) ?_
          show Go p e s below _ _ _ _ T498 (mkF m 590 #[.val (.int p1), .val (.int p2), .val (.int p3), .val (.int p4), .val (.int rp), .val (.int mp), .val (.int (1 : Int32)), .val (.int (1 : Int32)), .val (.int q), .val (.int cc), .val (.ref o423), .val (.int (16 : Int32)), .val (.ref o440), .val (.ref o489), .val (.ref o493), .unset, .unset] [])
          have f506 := (f499.keep Kq498)
          have f507 := (((f496.ext E493).ext E497).keep Kq498)
          have f508 := (((Fv491.ext E493).ext E497).keep Kq498 (ninS ne_o489_o493 nin0))
          have f509 := (((Fc491.ext E493).ext E497).keep Kq498 (ninS ne_o489_o493 nin0))
          have f510 := (((Vt491.ext E493).ext E497).keep Kq498 (ninS ne_t491_o493 nin0))
          have f511 := (((f494.ext E493).ext E497).keep Kq498 (ninS ne_o423_o493 nin0))
          exact law_tail l Z a0 hw (by decide) (by decide) p1 p2 p3 p4 rp mp (1 : Int32) (1 : Int32) q cc o423 (16 : Int32) o440 o489 o493 t491 _ _ bR (outL bR 16 q cc) zc h498 n0 O498 nb hb0 (Nat.le_trans hnb K498.1) f506 Fs1_498 Fs2_498 f507 f508 f509 f510 f511 hq_q.1 (by rw [outL_len]; decide) (fin_N6 (fin_N (by decide +kernel) (by decide +kernel)) (by decide)) S_C hzc Cc498 X498 e498 (fun y hy => Nat.le_trans hnb (N498 y hy)) (J498.sub (own_sub1 (List.mem_cons_of_mem _ (List.mem_cons_self ..)) (fun x hx => (List.mem_cons_of_mem _ (List.mem_cons_of_mem _ (List.mem_cons_of_mem _ (List.mem_cons_of_mem _ hx))))))) B498
    intro jn102
    show Go p e s below _ _ _ _ s₁ (mkF m 16 (LA1 p1 p2 p3 p4 rp) [(.int (p4 &&& (2 : Int32)))])
    by_cases hb16_512 : (p4 &&& (2 : Int32)) = (0 : Int32)
    · refine Go.of (fun _ hr => XS.ifYes X0.here hx rfl (pc0 := 16) (pc' := 23) rfl (hb hby at_16) rfl ((if0 _ _).trans (teq hb16_512).1) (by decide) (by decide) hr) ?_
      show Go p e s below _ _ _ _ s₁ (mkF m 23 (LA1 p1 p2 p3 p4 rp) [])
      refine Go.of (fun _ hr => XS.iconst X0.here hx rfl (hb hby at_23) hr) ?_
      show Go p e s below _ _ _ _ s₁ (mkF m 24 (LA1 p1 p2 p3 p4 rp) [(.int (0 : Int32))])
      exact jn102 (0 : Int32) (Or.inr rfl)
    · refine Go.of (fun _ hr => XS.ifNo X0.here hx rfl (hb hby at_16) rfl ((if0 _ _).trans (feq hb16_512).1) hr) ?_
      show Go p e s below _ _ _ _ s₁ (mkF m 19 (LA1 p1 p2 p3 p4 rp) [])
      refine Go.of (fun _ hr => XS.iconst X0.here hx rfl (hb hby at_19) hr) ?_
      show Go p e s below _ _ _ _ s₁ (mkF m 20 (LA1 p1 p2 p3 p4 rp) [(.int (1 : Int32))])
      refine Go.of (fun _ hr => XS.goto X0.here hx rfl (pc0 := 20) (pc' := 24) rfl (hb hby at_20) (by decide) (by decide) hr) ?_
      show Go p e s below _ _ _ _ s₁ (mkF m 24 (LA1 p1 p2 p3 p4 rp) [(.int (1 : Int32))])
      exact jn102 (1 : Int32) (Or.inl rfl)
  intro jn101
  show Go p e s below _ _ _ _ s₁ (mkF m 3 (LA0 p1 p2 p3 p4) [(.int (p4 &&& (1 : Int32)))])
  by_cases hb3_513 : (p4 &&& (1 : Int32)) = (0 : Int32)
  · refine Go.of (fun _ hr => XS.ifYes X0.here hx rfl (pc0 := 3) (pc' := 10) rfl (hb hby at_3) rfl ((if0 _ _).trans (teq hb3_513).1) (by decide) (by decide) hr) ?_
    show Go p e s below _ _ _ _ s₁ (mkF m 10 (LA0 p1 p2 p3 p4) [])
    refine Go.of (fun _ hr => XS.iconst X0.here hx rfl (hb hby at_10) hr) ?_
    show Go p e s below _ _ _ _ s₁ (mkF m 11 (LA0 p1 p2 p3 p4) [(.int (0 : Int32))])
    exact jn101 (0 : Int32) (Or.inr rfl)
  · refine Go.of (fun _ hr => XS.ifNo X0.here hx rfl (hb hby at_3) rfl ((if0 _ _).trans (feq hb3_513).1) hr) ?_
    show Go p e s below _ _ _ _ s₁ (mkF m 6 (LA0 p1 p2 p3 p4) [])
    refine Go.of (fun _ hr => XS.iconst X0.here hx rfl (hb hby at_6) hr) ?_
    show Go p e s below _ _ _ _ s₁ (mkF m 7 (LA0 p1 p2 p3 p4) [(.int (1 : Int32))])
    refine Go.of (fun _ hr => XS.goto X0.here hx rfl (pc0 := 7) (pc' := 11) rfl (hb hby at_7) (by decide) (by decide) hr) ?_
    show Go p e s below _ _ _ _ s₁ (mkF m 11 (LA0 p1 p2 p3 p4) [(.int (1 : Int32))])
    exact jn101 (1 : Int32) (Or.inl rfl)

set_option maxRecDepth 65536 in
set_option maxHeartbeats 40000000 in
theorem comes_1 {Post : Tables → Env → Array Value → State → Outcome → State → Prop} (hpost : ∀ tb e args s v u, (limb_1_1.after args s (.returned v) u = true ∧ limb_1_2.after args s (.returned v) u = true ∧ True) → ReturnedEndW s (.returned v) u (Jvm.fieldLocs frame_1_writes args s ++ Jvm.arrayLocs frame_1_arrays args s ++ Jvm.staticLocs frame_1_statics s) 24 3264 → Post tb e args s (.returned v) u) :
    ArmFor flags0 classFile x code maxLocals ret World_1 tables_1 room_1 Calls_1 rest_1 Pre_1 Post := by
  intro l hfl _ _ p e ha hc hk s m args below hf hA hF happ hP
  obtain ⟨hcalls, hrest, hpre⟩ := hP
  obtain ⟨-, -, -, hnamed, -, -, -, hat⟩ := (Spec.applies_iff hf).mp happ
  obtain ⟨hg, hn⟩ := and_e (Cond.before_iff.mp (show (Jvm.Cond.and given_1 narrow_1).before args s = true from hpre))
  have hw := fun d (hd : d ∈ tables_1) => atoms_spec (ws := Jvm.Cond.code x code maxLocals ret :: tables_1) hat d (List.mem_cons_of_mem _ hd)
  obtain ⟨hsets, hown0⟩ := atoms_of _ (rest_1_c_eq ▸ (show rest_1_c.before _ s = true from hrest))
  have hfit : Fit s := fun {y c} hc i hi => by
    obtain ⟨ha, rfl⟩ := Array.getElem?_eq_some_iff.mp hc
    have q := List.all_eq_true.mp ((Array.all_eq_true_iff_forall_mem.mp hF) _ (Array.getElem_mem ha)) i (List.mem_range.mpr hi)
    simpa [Array.getElem?_eq_getElem hi] using q
  obtain ⟨hg0, hg⟩ := and_e hg
  obtain ⟨hg1, hg⟩ := and_e hg
  obtain ⟨hg2, hg⟩ := and_e hg
  obtain ⟨hg3, hg⟩ := and_e hg
  obtain ⟨w0, w1, w2, w3, rfl⟩ : ∃ w0 w1 w2 w3 : Value, args = #[w0, w1, w2, w3] := by
    have hs : args.size = 4 := by simpa [Cond.value] using hg0
    obtain ⟨L⟩ := args
    match L, hs with
    | [w0, w1, w2, w3], _ => exact ⟨w0, w1, w2, w3, rfl⟩
  obtain ⟨i0, ev0⟩ := is_v hg1
  obtain rfl : w0 = (.int i0) := Option.some.inj ev0
  obtain ⟨i1, ev1⟩ := is_v hg2
  obtain rfl : w1 = (.int i1) := Option.some.inj ev1
  obtain ⟨i2, ev2⟩ := is_v hg3
  obtain rfl : w2 = (.int i2) := Option.some.inj ev2
  obtain ⟨i3, ev3⟩ := is_v hg
  obtain rfl : w3 = (.int i3) := Option.some.inj ev3
  obtain ⟨zc, evC⟩ := is_v (Cond.before_iff.mp (hsets _ (List.mem_of_getElem? (i := 1) rfl)))
  have S_C : Sta s s.heap "java/lang/String" "COMPACT_STRINGS" "Z" (.int zc) := Sta.start evC (Or.inl (hsets _ (List.mem_of_getElem? (i := 0) rfl)))
  have hzc : ¬ (zc = (0 : Int32)) := gotF (Cond.eq_ints evC (Term.int_eval (0))) (not_v (Cond.before_iff.mp (hsets _ (List.mem_of_getElem? (i := 2) rfl))))
  have hcm : ∀ q ∈ litCs, (q.1, q.2.1) ∈ consts_1 := by decide +kernel
  have hJ : Hd s [] s.vm s.heap := Hd.start ⟨fun q hq => hcalls.1 _ (hcm q hq), fun a0 => own_compact (hsets _ (List.mem_of_getElem? (i := 2) rfl))⟩
  obtain ⟨n, o, h1, h2, h3, _, L, rfl, ⟨rfl, N⟩, -, hq⟩ := rm0 l s _ hw tables_1 i0 i1 i2 i3 zc [] s.heap s.heap.size (Old.start s) s.heap.size (Nat.le_refl _) (Nat.le_refl _) S_C hzc p e ha hc hk s m _ below hf ((Spec.applies_iff_loose hf).mp happ).1 ⟨rfl, State.Warmed39.refl s, rfl, hJ⟩ trivial
  refine ⟨n, _, h1, h2, h3, hpost _ _ _ _ _ _ ⟨Cond.after_iff.mpr rfl, Cond.after_iff.mpr (eq_i res_at (Term.int_eval (1)) rfl), trivial⟩ ⟨hq.1, hq.2.1, hq.2.2.1, (hq.2.2.2.sift fun y hy => Or.inr (N y hy)).mono (by decide) (by decide)⟩⟩
theorem main_1_1 : Claimed_1_1 := comes_1 fun _ _ _ _ _ _ h hF => ⟨h.1, hF⟩
theorem main_1_2 : Claimed_1_2 := comes_1 fun _ _ _ _ _ _ h hF => ⟨h.2.1, hF⟩

end Jvm.Pilot.@@N@@
namespace Jvm.Pilot.@@N@@
open Jvm Jvm.ClassFile Sem Op Lib Jvm.Free Jvm.Stand Jvm.Pilot.@@N@@.Jvm.D
/-! MADE BY PROGRAM (witnessworld.py) out of the Statement's table words and the real class files: 19 classes; the members and pool entries that the words name. The judged class is class 1, her method 1. -/
namespace start1
open Jvm.ClassFile
def u (s : String) : CpInfo := .utf8 (stringToUtf16 s)
/-- a pool by its gaps: so many unusable entries, then the entry; so many at the end -/
def gap : Nat → List CpInfo → List CpInfo
  | 0, r => r
  | n + 1, r => .unusable :: gap n r
def poolList (es : List (Nat × CpInfo)) (last : Nat) : List CpInfo := es.foldr (fun e r => gap e.1 (e.2 :: r)) (gap last [])
def pool (es : List (Nat × CpInfo)) (last : Nat) : Array CpInfo := ⟨poolList es last⟩
def fileOf (pool : Array CpInfo) (this : Nat) (attrs : Array Attribute := #[]) (ms : Array MethodInfo := #[]) (fl : Nat := 33) (sup : Nat := 0) (ifs : Array Nat := #[]) (fds : Array FieldInfo := #[]) : ClassFile where
  minorVersion := 0
  majorVersion := 65
  constantPool := pool
  accessFlags := fl
  thisClass := this
  superClass := sup
  interfaces := ifs
  fields := fds
  methods := ms
  attributes := attrs
def plain (name : String) (sup : Option ClassId) : Class where
  name := name
  kind := .ordinary
  loader := none
  accessFlags := 33
  super := sup
  interfaces := #[]
  cf := none
  fields := #[]
  methods := #[]
  instanceTypes := #[]
  staticTypes := #[]
  resolved := #[]
  callSites := []
  init := .initialized
  statics := none
  mirror := none

def pool0 : Array CpInfo := pool [(5, u "<init>"), (0, u "()V"), (1, .class_ 10), (1, u "java/lang/Object")] 113

def k0c0 : Code := { maxStack := 0, maxLocals := 1, code := object_method_1_code, exceptionTable := #[], attributes := #[] }
def k0m0 : Method := { name := "<init>", desc := "()V", sig := { parameters := [], returnType := none }, accessFlags := 1, code := some k0c0 }
/-- java/lang/Object -/
def k0 : Class := { plain "java/lang/Object" none with
  accessFlags := 33
  interfaces := #[]
  cf := some (fileOf pool0 8 #[] #[{ accessFlags := 1, nameIndex := 5, descriptorIndex := 6, attributes := #[] }] 33 0 #[] #[])
  fields := #[]
  methods := #[k0m0]
  instanceTypes := #[]
  staticTypes := #[]
  resolved := Array.replicate 124 none
  statics := none }

def pool1 : Array CpInfo := pool [(2, .class_ 4), (1, u "java/lang/Object"), (0, u "<init>"), (0, u "()V"), (0, .integer 2147483647), (0, .methodref 9 10), (0, .class_ 11), (0, .nameAndType 12 13), (0, u "com/example/mthd/mthd/model/FieldHoldsStringsPinLaw"), (0, u "at"), (0, u "([CIIC)C"), (0, .class_ 15), (0, u "java/lang/String"), (0, .methodref 14 17), (0, .nameAndType 5 18), (0, u "([C)V"), (0, .class_ 20), (0, u "com/example/mthd/mthd/model/ApiMessage$Field"), (0, .string 22), (0, u "f"), (0, .methodref 19 24), (0, .nameAndType 5 25), (0, u "(Ljava/lang/String;Ljava/lang/String;ZZLjava/util/Optional;Ljava/util/Optional;)V"), (0, .methodref 19 27), (0, .nameAndType 28 29), (0, u "holdsStrings"), (0, u "()Z"), (2, u "law"), (0, u "(IIII)Z")] 9

def k1m0 : Method := { name := "<init>", desc := "()V", sig := { parameters := [], returnType := none }, accessFlags := 2, code := none }
def k1c1 : Code := { maxStack := 8, maxLocals := 17, code := code, exceptionTable := #[], attributes := #[] }
def k1m1 : Method := { name := "law", desc := "(IIII)Z", sig := { parameters := [.int, .int, .int, .int], returnType := some .boolean }, accessFlags := 9, code := some k1c1 }
def k1c2 : Code := { maxStack := 2, maxLocals := 4, code := method_3_code, exceptionTable := #[], attributes := #[] }
def k1m2 : Method := { name := "at", desc := "([CIIC)C", sig := { parameters := [(.array .char), .int, .int, .char], returnType := some .char }, accessFlags := 10, code := some k1c2 }
/-- com/example/mthd/mthd/model/FieldHoldsStringsPinLaw -/
def k1 : Class := { plain "com/example/mthd/mthd/model/FieldHoldsStringsPinLaw" (some 0) with
  accessFlags := 49
  interfaces := #[]
  cf := some (fileOf pool1 9 #[] #[{ accessFlags := 2, nameIndex := 5, descriptorIndex := 6, attributes := #[] }, { accessFlags := 9, nameIndex := 32, descriptorIndex := 33, attributes := #[] }, { accessFlags := 10, nameIndex := 12, descriptorIndex := 13, attributes := #[] }] 49 2 #[] #[])
  fields := #[]
  methods := #[k1m0, k1m1, k1m2]
  instanceTypes := #[]
  staticTypes := #[]
  resolved := Array.replicate 43 none
  statics := none }

def pool2 : Array CpInfo := pool [(1, .class_ 2), (0, u "java/io/Serializable"), (0, .class_ 4), (0, u "java/lang/Object")] 2

/-- java/io/Serializable -/
def k2 : Class := { plain "java/io/Serializable" (some 0) with
  accessFlags := 1537
  interfaces := #[]
  cf := some (fileOf pool2 1 #[] #[] 1537 3 #[] #[])
  fields := #[]
  methods := #[]
  instanceTypes := #[]
  staticTypes := #[]
  resolved := Array.replicate 7 none
  statics := none }

def pool3 : Array CpInfo := pool [(1, .class_ 2), (0, u "java/lang/Comparable"), (0, .class_ 4), (0, u "java/lang/Object")] 7

/-- java/lang/Comparable -/
def k3 : Class := { plain "java/lang/Comparable" (some 0) with
  accessFlags := 1537
  interfaces := #[]
  cf := some (fileOf pool3 1 #[] #[] 1537 3 #[] #[])
  fields := #[]
  methods := #[]
  instanceTypes := #[]
  staticTypes := #[]
  resolved := Array.replicate 12 none
  statics := none }

def pool4 : Array CpInfo := pool [(2, .class_ 4), (1, u "java/lang/CharSequence"), (42, .class_ 48), (0, u "java/lang/CharSequence$1CodePointIterator"), (10, .class_ 60), (0, u "java/lang/CharSequence$1CharIterator"), (5, .class_ 67), (0, u "java/lang/Object")] 63

/-- java/lang/CharSequence -/
def k4 : Class := { plain "java/lang/CharSequence" (some 0) with
  accessFlags := 1537
  interfaces := #[]
  cf := some (fileOf pool4 2 #[.nestMembers #[47, 59]] #[] 1537 66 #[] #[])
  fields := #[]
  methods := #[]
  instanceTypes := #[]
  staticTypes := #[]
  resolved := Array.replicate 131 none
  statics := none }

def pool5 : Array CpInfo := pool [(1, .class_ 2), (0, u "java/lang/constant/Constable"), (0, .class_ 4), (0, u "java/lang/Object")] 6

/-- java/lang/constant/Constable -/
def k5 : Class := { plain "java/lang/constant/Constable" (some 0) with
  accessFlags := 1537
  interfaces := #[]
  cf := some (fileOf pool5 1 #[] #[] 1537 3 #[] #[])
  fields := #[]
  methods := #[]
  instanceTypes := #[]
  staticTypes := #[]
  resolved := Array.replicate 11 none
  statics := none }

def pool6 : Array CpInfo := pool [(1, .class_ 2), (0, u "java/lang/constant/ConstantDesc"), (0, .class_ 4), (0, u "java/lang/Object")] 32

/-- java/lang/constant/ConstantDesc -/
def k6 : Class := { plain "java/lang/constant/ConstantDesc" (some 0) with
  accessFlags := 1537
  interfaces := #[]
  cf := some (fileOf pool6 1 #[] #[] 1537 3 #[] #[])
  fields := #[]
  methods := #[]
  instanceTypes := #[]
  staticTypes := #[]
  resolved := Array.replicate 37 none
  statics := none }

def pool7 : Array CpInfo := pool [(1, .methodref 2 3), (0, .class_ 4), (0, .nameAndType 5 6), (0, u "java/lang/Object"), (0, u "<init>"), (0, u "()V"), (2, .fieldref 10 11), (0, .class_ 12), (0, .nameAndType 13 14), (0, u "java/lang/String"), (0, u "value"), (0, u "[B"), (0, .fieldref 10 16), (0, .nameAndType 17 18), (0, u "coder"), (0, u "B"), (2, u "hash"), (0, u "I"), (2, u "hashIsZero"), (0, u "Z"), (0, .methodref 10 28), (0, .nameAndType 5 29), (0, u "([CIILjava/lang/Void;)V"), (8, .fieldref 10 39), (0, .nameAndType 40 26), (0, u "COMPACT_STRINGS"), (1, .class_ 44), (1, u "java/lang/StringUTF16"), (0, u "compress"), (1, .methodref 42 48), (0, .nameAndType 49 50), (0, u "coderFromArrayLen"), (0, u "([BI)B"), (56, .class_ 109), (1, u "java/lang/StringLatin1"), (67, .methodref 42 178), (0, .nameAndType 45 179), (0, u "([CII)[B"), (361, .methodref 107 542), (0, .nameAndType 543 544), (0, u "equals"), (0, u "([B[B)Z"), (28, u "(Ljava/lang/Object;)Z"), (1, .class_ 576), (0, u "java/lang/CharSequence"), (22, u "CASE_INSENSITIVE_ORDER"), (0, u "Ljava/util/Comparator;"), (409, u "([C)V"), (90, u "serialPersistentFields"), (0, u "[Ljava/io/ObjectStreamField;"), (0, .class_ 1104), (0, u "java/lang/String$CaseInsensitiveComparator"), (1, .class_ 1107), (0, u "java/io/Serializable"), (0, .class_ 1109), (0, u "java/lang/Comparable"), (0, .class_ 1111), (0, u "java/lang/constant/Constable"), (0, .class_ 1113), (0, u "java/lang/constant/ConstantDesc"), (2, u "serialVersionUID"), (0, u "J"), (3, u "REPL"), (0, u "C"), (2, u "LATIN1"), (1, u "UTF16")] 323

def k7m0 : Method := { name := "<init>", desc := "()V", sig := { parameters := [], returnType := none }, accessFlags := 1, code := none }
def k7c1 : Code := { maxStack := 5, maxLocals := 2, code := jdk_42_method_3_code, exceptionTable := #[], attributes := #[] }
def k7m1 : Method := { name := "<init>", desc := "([C)V", sig := { parameters := [(.array .char)], returnType := none }, accessFlags := 1, code := some k7c1 }
def k7c2 : Code := { maxStack := 2, maxLocals := 3, code := jdk_42_method_66_code, exceptionTable := #[], attributes := #[] }
def k7m2 : Method := { name := "equals", desc := "(Ljava/lang/Object;)Z", sig := { parameters := [(.object "java/lang/Object")], returnType := some .boolean }, accessFlags := 1, code := some k7c2 }
def k7c3 : Code := { maxStack := 4, maxLocals := 6, code := jdk_42_method_149_code, exceptionTable := #[], attributes := #[] }
def k7m3 : Method := { name := "<init>", desc := "([CIILjava/lang/Void;)V", sig := { parameters := [(.array .char), .int, .int, (.object "java/lang/Void")], returnType := none }, accessFlags := 2, code := some k7c3 }
/-- java/lang/String -/
def k7 : Class := { plain "java/lang/String" (some 0) with
  accessFlags := 49
  interfaces := #[2, 3, 4, 5, 6]
  cf := some (fileOf pool7 10 #[.nestMembers #[1103]] #[{ accessFlags := 1, nameIndex := 5, descriptorIndex := 6, attributes := #[] }, { accessFlags := 1, nameIndex := 5, descriptorIndex := 1010, attributes := #[] }, { accessFlags := 1, nameIndex := 543, descriptorIndex := 573, attributes := #[] }, { accessFlags := 2, nameIndex := 5, descriptorIndex := 29, attributes := #[] }] 49 2 #[1106, 1108, 575, 1110, 1112] #[{ accessFlags := 18, nameIndex := 13, descriptorIndex := 14, attributes := #[] }, { accessFlags := 18, nameIndex := 17, descriptorIndex := 18, attributes := #[] }, { accessFlags := 2, nameIndex := 21, descriptorIndex := 22, attributes := #[] }, { accessFlags := 2, nameIndex := 25, descriptorIndex := 26, attributes := #[] }, { accessFlags := 26, nameIndex := 1116, descriptorIndex := 1117, attributes := #[] }, { accessFlags := 24, nameIndex := 40, descriptorIndex := 26, attributes := #[] }, { accessFlags := 26, nameIndex := 1101, descriptorIndex := 1102, attributes := #[] }, { accessFlags := 26, nameIndex := 1121, descriptorIndex := 1122, attributes := #[] }, { accessFlags := 25, nameIndex := 599, descriptorIndex := 600, attributes := #[] }, { accessFlags := 24, nameIndex := 1125, descriptorIndex := 18, attributes := #[] }, { accessFlags := 24, nameIndex := 1127, descriptorIndex := 18, attributes := #[] }])
  fields := #[{ name := "value", type := (.array .byte), accessFlags := 18, slot := 0, constantValue := 0 }, { name := "coder", type := .byte, accessFlags := 18, slot := 1, constantValue := 0 }, { name := "hash", type := .int, accessFlags := 2, slot := 2, constantValue := 0 }, { name := "hashIsZero", type := .boolean, accessFlags := 2, slot := 3, constantValue := 0 }, { name := "serialVersionUID", type := .long, accessFlags := 26, slot := 0, constantValue := 0 }, { name := "COMPACT_STRINGS", type := .boolean, accessFlags := 24, slot := 1, constantValue := 0 }, { name := "serialPersistentFields", type := (.array (.object "java/io/ObjectStreamField")), accessFlags := 26, slot := 2, constantValue := 0 }, { name := "REPL", type := .char, accessFlags := 26, slot := 3, constantValue := 0 }, { name := "CASE_INSENSITIVE_ORDER", type := (.object "java/util/Comparator"), accessFlags := 25, slot := 4, constantValue := 0 }, { name := "LATIN1", type := .byte, accessFlags := 24, slot := 5, constantValue := 0 }, { name := "UTF16", type := .byte, accessFlags := 24, slot := 6, constantValue := 0 }]
  methods := #[k7m0, k7m1, k7m2, k7m3]
  instanceTypes := #[(.array .byte), .byte, .int, .boolean]
  staticTypes := #[.long, .boolean, (.array (.object "java/io/ObjectStreamField")), .char, (.object "java/util/Comparator"), .byte, .byte]
  resolved := Array.replicate 1451 none
  statics := some 0 }

def pool8 : Array CpInfo := pool [(6, .class_ 8), (1, u "java/lang/Object"), (0, u "<init>"), (0, u "()V"), (1, .class_ 14), (1, u "java/lang/StringUTF16"), (31, u "$assertionsDisabled"), (0, u "Z"), (13, u "HI_BYTE_SHIFT"), (0, u "I"), (2, u "LO_BYTE_SHIFT"), (49, .methodref 12 116), (0, .nameAndType 117 118), (0, u "compress"), (0, u "([CI[BII)I"), (3, u "([CII)[B"), (138, u "coderFromArrayLen"), (0, u "([BI)B"), (106, .class_ 371), (1, u "java/lang/StringUTF16$LinesSpliterator"), (58, u "MAX_LENGTH"), (196, .class_ 628), (0, u "java/lang/StringUTF16$CodePointsSpliterator"), (0, .class_ 630), (0, u "java/lang/StringUTF16$CharsSpliterator")] 4

def k8m0 : Method := { name := "<init>", desc := "()V", sig := { parameters := [], returnType := none }, accessFlags := 0, code := none }
def k8c1 : Code := { maxStack := 2, maxLocals := 2, code := jdk_52_method_15_code, exceptionTable := #[], attributes := #[] }
def k8m1 : Method := { name := "coderFromArrayLen", desc := "([BI)B", sig := { parameters := [(.array .byte), .int], returnType := some .byte }, accessFlags := 8, code := some k8c1 }
def k8c2 : Code := { maxStack := 5, maxLocals := 6, code := jdk_52_method_16_code, exceptionTable := #[], attributes := #[] }
def k8m2 : Method := { name := "compress", desc := "([CII)[B", sig := { parameters := [(.array .char), .int, .int], returnType := some (.array .byte) }, accessFlags := 9, code := some k8c2 }
def k8c3 : Code := { maxStack := 3, maxLocals := 7, code := jdk_52_method_21_code, exceptionTable := #[], attributes := #[] }
def k8m3 : Method := { name := "compress", desc := "([CI[BII)I", sig := { parameters := [(.array .char), .int, (.array .byte), .int, .int], returnType := some .int }, accessFlags := 9, code := some k8c3 }
/-- java/lang/StringUTF16 -/
def k8 : Class := { plain "java/lang/StringUTF16" (some 0) with
  accessFlags := 48
  interfaces := #[]
  cf := some (fileOf pool8 12 #[.nestMembers #[627, 629, 369]] #[{ accessFlags := 0, nameIndex := 9, descriptorIndex := 10, attributes := #[] }, { accessFlags := 8, nameIndex := 261, descriptorIndex := 262, attributes := #[] }, { accessFlags := 9, nameIndex := 117, descriptorIndex := 122, attributes := #[] }, { accessFlags := 9, nameIndex := 117, descriptorIndex := 118, attributes := #[] }] 48 6 #[] #[{ accessFlags := 26, nameIndex := 61, descriptorIndex := 62, attributes := #[] }, { accessFlags := 26, nameIndex := 65, descriptorIndex := 62, attributes := #[] }, { accessFlags := 24, nameIndex := 430, descriptorIndex := 62, attributes := #[] }, { accessFlags := 4120, nameIndex := 46, descriptorIndex := 47, attributes := #[] }])
  fields := #[{ name := "HI_BYTE_SHIFT", type := .int, accessFlags := 26, slot := 0, constantValue := 0 }, { name := "LO_BYTE_SHIFT", type := .int, accessFlags := 26, slot := 1, constantValue := 0 }, { name := "MAX_LENGTH", type := .int, accessFlags := 24, slot := 2, constantValue := 0 }, { name := "$assertionsDisabled", type := .boolean, accessFlags := 4120, slot := 3, constantValue := 0 }]
  methods := #[k8m0, k8m1, k8m2, k8m3]
  instanceTypes := #[]
  staticTypes := #[.int, .int, .int, .boolean]
  resolved := Array.replicate 635 none
  statics := none }

def pool9 : Array CpInfo := pool [(1, .methodref 2 3), (0, .class_ 4), (0, .nameAndType 5 6), (0, u "java/lang/Object"), (0, u "<init>"), (0, u "()V"), (0, .class_ 8), (0, u "java/lang/Record")] 13

def k9c0 : Code := { maxStack := 1, maxLocals := 1, code := jdk_30_method_1_code, exceptionTable := #[], attributes := #[] }
def k9m0 : Method := { name := "<init>", desc := "()V", sig := { parameters := [], returnType := none }, accessFlags := 4, code := some k9c0 }
/-- java/lang/Record -/
def k9 : Class := { plain "java/lang/Record" (some 0) with
  accessFlags := 1057
  interfaces := #[]
  cf := some (fileOf pool9 7 #[] #[{ accessFlags := 4, nameIndex := 5, descriptorIndex := 6, attributes := #[] }] 1057 2 #[] #[])
  fields := #[]
  methods := #[k9m0]
  instanceTypes := #[]
  staticTypes := #[]
  resolved := Array.replicate 22 none
  statics := none }

def pool10 : Array CpInfo := pool [(1, .methodref 2 3), (0, .class_ 4), (0, .nameAndType 5 6), (0, u "java/lang/Record"), (0, u "<init>"), (0, u "()V"), (0, .fieldref 8 9), (0, .class_ 10), (0, .nameAndType 11 12), (0, u "com/example/mthd/mthd/model/ApiMessage$Field"), (0, u "name"), (0, u "Ljava/lang/String;"), (0, .fieldref 8 14), (0, .nameAndType 15 12), (0, u "type"), (0, .fieldref 8 17), (0, .nameAndType 18 19), (0, u "repeated"), (0, u "Z"), (0, .fieldref 8 21), (0, .nameAndType 22 19), (0, u "map"), (0, .fieldref 8 24), (0, .nameAndType 25 26), (0, u "message"), (0, u "Ljava/util/Optional;"), (0, .fieldref 8 28), (0, .nameAndType 29 26), (0, u "resource"), (0, .string 31), (0, u "repeated string"), (0, .string 33), (0, u "string"), (0, .methodref 35 36), (0, .class_ 37), (0, .nameAndType 38 39), (0, u "java/lang/String"), (0, u "equals"), (0, u "(Ljava/lang/Object;)Z"), (14, u "(Ljava/lang/String;Ljava/lang/String;ZZLjava/util/Optional;Ljava/util/Optional;)V"), (4, u "holdsStrings"), (0, u "()Z"), (11, .class_ 73), (0, u "com/example/mthd/mthd/model/ApiMessage")] 24

def k10c0 : Code := { maxStack := 2, maxLocals := 7, code := prog_19_method_1_code, exceptionTable := #[], attributes := #[] }
def k10m0 : Method := { name := "<init>", desc := "(Ljava/lang/String;Ljava/lang/String;ZZLjava/util/Optional;Ljava/util/Optional;)V", sig := { parameters := [(.object "java/lang/String"), (.object "java/lang/String"), .boolean, .boolean, (.object "java/util/Optional"), (.object "java/util/Optional")], returnType := none }, accessFlags := 1, code := some k10c0 }
def k10c1 : Code := { maxStack := 2, maxLocals := 1, code := prog_19_method_2_code, exceptionTable := #[], attributes := #[] }
def k10m1 : Method := { name := "holdsStrings", desc := "()Z", sig := { parameters := [], returnType := some .boolean }, accessFlags := 1, code := some k10c1 }
/-- com/example/mthd/mthd/model/ApiMessage$Field -/
def k10 : Class := { plain "com/example/mthd/mthd/model/ApiMessage$Field" (some 9) with
  accessFlags := 49
  interfaces := #[]
  cf := some (fileOf pool10 8 #[.nestHost 72] #[{ accessFlags := 1, nameIndex := 5, descriptorIndex := 54, attributes := #[] }, { accessFlags := 1, nameIndex := 59, descriptorIndex := 60, attributes := #[] }] 49 2 #[] #[{ accessFlags := 18, nameIndex := 11, descriptorIndex := 12, attributes := #[] }, { accessFlags := 18, nameIndex := 15, descriptorIndex := 12, attributes := #[] }, { accessFlags := 18, nameIndex := 18, descriptorIndex := 19, attributes := #[] }, { accessFlags := 18, nameIndex := 22, descriptorIndex := 19, attributes := #[] }, { accessFlags := 18, nameIndex := 25, descriptorIndex := 26, attributes := #[] }, { accessFlags := 18, nameIndex := 29, descriptorIndex := 26, attributes := #[] }])
  fields := #[{ name := "name", type := (.object "java/lang/String"), accessFlags := 18, slot := 0, constantValue := 0 }, { name := "type", type := (.object "java/lang/String"), accessFlags := 18, slot := 1, constantValue := 0 }, { name := "repeated", type := .boolean, accessFlags := 18, slot := 2, constantValue := 0 }, { name := "map", type := .boolean, accessFlags := 18, slot := 3, constantValue := 0 }, { name := "message", type := (.object "java/util/Optional"), accessFlags := 18, slot := 4, constantValue := 0 }, { name := "resource", type := (.object "java/util/Optional"), accessFlags := 18, slot := 5, constantValue := 0 }]
  methods := #[k10m0, k10m1]
  instanceTypes := #[(.object "java/lang/String"), (.object "java/lang/String"), .boolean, .boolean, (.object "java/util/Optional"), (.object "java/util/Optional")]
  staticTypes := #[]
  resolved := Array.replicate 98 none
  statics := none }

def pool11 : Array CpInfo := pool [(4, .class_ 6), (1, u "java/lang/Object"), (0, u "<init>"), (0, u "()V"), (5, .class_ 16), (1, u "java/lang/StringLatin1"), (104, u "$assertionsDisabled"), (0, u "Z"), (98, .class_ 223), (1, u "java/lang/StringLatin1$LinesSpliterator"), (57, u "equals"), (0, u "([B[B)Z"), (107, .class_ 391), (0, u "java/lang/StringLatin1$CharsSpliterator")] 3

def k11m0 : Method := { name := "<init>", desc := "()V", sig := { parameters := [], returnType := none }, accessFlags := 0, code := none }
def k11c1 : Code := { maxStack := 3, maxLocals := 3, code := jdk_43_method_13_code, exceptionTable := #[], attributes := #[] }
def k11m1 : Method := { name := "equals", desc := "([B[B)Z", sig := { parameters := [(.array .byte), (.array .byte)], returnType := some .boolean }, accessFlags := 9, code := some k11c1 }
/-- java/lang/StringLatin1 -/
def k11 : Class := { plain "java/lang/StringLatin1" (some 0) with
  accessFlags := 48
  interfaces := #[]
  cf := some (fileOf pool11 14 #[.nestMembers #[390, 221]] #[{ accessFlags := 0, nameIndex := 7, descriptorIndex := 8, attributes := #[] }, { accessFlags := 9, nameIndex := 281, descriptorIndex := 282, attributes := #[] }] 48 4 #[] #[{ accessFlags := 4120, nameIndex := 121, descriptorIndex := 122, attributes := #[] }])
  fields := #[{ name := "$assertionsDisabled", type := .boolean, accessFlags := 4120, slot := 0, constantValue := 0 }]
  methods := #[k11m0, k11m1]
  instanceTypes := #[]
  staticTypes := #[.boolean]
  resolved := Array.replicate 395 none
  statics := none }

def pool12 : Array CpInfo := pool [(2, .class_ 4), (1, u "java/lang/Object"), (0, u "<init>"), (0, u "()V"), (17, .class_ 26), (1, u "jdk/internal/util/Preconditions"), (28, .class_ 56), (0, u "jdk/internal/util/Preconditions$4"), (57, .class_ 115), (0, u "jdk/internal/util/Preconditions$1"), (7, u "SIOOBE_FORMATTER"), (0, u "Ljava/util/function/BiFunction;"), (0, .class_ 126), (0, u "jdk/internal/util/Preconditions$2"), (3, u "AIOOBE_FORMATTER"), (0, .class_ 132), (0, u "jdk/internal/util/Preconditions$3"), (3, u "IOOBE_FORMATTER")] 57

def k12m0 : Method := { name := "<init>", desc := "()V", sig := { parameters := [], returnType := none }, accessFlags := 1, code := none }
/-- jdk/internal/util/Preconditions -/
def k12 : Class := { plain "jdk/internal/util/Preconditions" (some 0) with
  accessFlags := 33
  interfaces := #[]
  cf := some (fileOf pool12 24 #[.nestMembers #[55, 131, 125, 114]] #[{ accessFlags := 1, nameIndex := 5, descriptorIndex := 6, attributes := #[] }] 33 2 #[] #[{ accessFlags := 25, nameIndex := 123, descriptorIndex := 124, attributes := #[] }, { accessFlags := 25, nameIndex := 130, descriptorIndex := 124, attributes := #[] }, { accessFlags := 25, nameIndex := 136, descriptorIndex := 124, attributes := #[] }])
  fields := #[{ name := "SIOOBE_FORMATTER", type := (.object "java/util/function/BiFunction"), accessFlags := 25, slot := 0, constantValue := 0 }, { name := "AIOOBE_FORMATTER", type := (.object "java/util/function/BiFunction"), accessFlags := 25, slot := 1, constantValue := 0 }, { name := "IOOBE_FORMATTER", type := (.object "java/util/function/BiFunction"), accessFlags := 25, slot := 2, constantValue := 0 }]
  methods := #[k12m0]
  instanceTypes := #[]
  staticTypes := #[(.object "java/util/function/BiFunction"), (.object "java/util/function/BiFunction"), (.object "java/util/function/BiFunction")]
  resolved := Array.replicate 194 none
  statics := some 1 }

def pool13 : Array CpInfo := pool [(9, u "<init>"), (6, .class_ 18), (1, u "java/lang/Object"), (0, u "()V"), (1, .class_ 23), (1, u "jdk/internal/util/ArraysSupport"), (0, u "LOG2_ARRAY_LONG_INDEX_SCALE"), (0, u "I"), (2, u "U"), (0, u "Ljdk/internal/misc/Unsafe;"), (8, u "BIG_ENDIAN"), (0, u "Z"), (8, u "LOG2_BYTE_BIT_SIZE"), (4, u "LOG2_ARRAY_INT_INDEX_SCALE"), (54, u "JLA"), (0, u "Ljdk/internal/access/JavaLangAccess;"), (11, u "LOG2_ARRAY_BOOLEAN_INDEX_SCALE"), (9, u "LOG2_ARRAY_BYTE_INDEX_SCALE"), (5, u "LOG2_ARRAY_CHAR_INDEX_SCALE"), (5, u "LOG2_ARRAY_SHORT_INDEX_SCALE"), (18, u "LOG2_ARRAY_FLOAT_INDEX_SCALE"), (24, u "LOG2_ARRAY_DOUBLE_INDEX_SCALE"), (89, u "T_BOOLEAN"), (2, u "T_CHAR"), (1, u "T_FLOAT"), (1, u "T_DOUBLE"), (1, u "T_BYTE"), (1, u "T_SHORT"), (1, u "T_INT"), (1, u "T_LONG"), (1, u "SOFT_MAX_ARRAY_LENGTH")] 83

def k13m0 : Method := { name := "<init>", desc := "()V", sig := { parameters := [], returnType := none }, accessFlags := 2, code := none }
/-- jdk/internal/util/ArraysSupport -/
def k13 : Class := { plain "jdk/internal/util/ArraysSupport" (some 0) with
  accessFlags := 33
  interfaces := #[]
  cf := some (fileOf pool13 21 #[] #[{ accessFlags := 2, nameIndex := 9, descriptorIndex := 19, attributes := #[] }] 33 16 #[] #[{ accessFlags := 24, nameIndex := 28, descriptorIndex := 29, attributes := #[] }, { accessFlags := 26, nameIndex := 38, descriptorIndex := 39, attributes := #[] }, { accessFlags := 25, nameIndex := 121, descriptorIndex := 25, attributes := #[] }, { accessFlags := 25, nameIndex := 131, descriptorIndex := 25, attributes := #[] }, { accessFlags := 25, nameIndex := 137, descriptorIndex := 25, attributes := #[] }, { accessFlags := 25, nameIndex := 143, descriptorIndex := 25, attributes := #[] }, { accessFlags := 25, nameIndex := 53, descriptorIndex := 25, attributes := #[] }, { accessFlags := 25, nameIndex := 24, descriptorIndex := 25, attributes := #[] }, { accessFlags := 25, nameIndex := 162, descriptorIndex := 25, attributes := #[] }, { accessFlags := 25, nameIndex := 187, descriptorIndex := 25, attributes := #[] }, { accessFlags := 26, nameIndex := 48, descriptorIndex := 25, attributes := #[] }, { accessFlags := 25, nameIndex := 277, descriptorIndex := 25, attributes := #[] }, { accessFlags := 25, nameIndex := 280, descriptorIndex := 25, attributes := #[] }, { accessFlags := 25, nameIndex := 282, descriptorIndex := 25, attributes := #[] }, { accessFlags := 25, nameIndex := 284, descriptorIndex := 25, attributes := #[] }, { accessFlags := 25, nameIndex := 286, descriptorIndex := 25, attributes := #[] }, { accessFlags := 25, nameIndex := 288, descriptorIndex := 25, attributes := #[] }, { accessFlags := 25, nameIndex := 290, descriptorIndex := 25, attributes := #[] }, { accessFlags := 25, nameIndex := 292, descriptorIndex := 25, attributes := #[] }, { accessFlags := 26, nameIndex := 108, descriptorIndex := 109, attributes := #[] }, { accessFlags := 25, nameIndex := 294, descriptorIndex := 25, attributes := #[] }])
  fields := #[{ name := "U", type := (.object "jdk/internal/misc/Unsafe"), accessFlags := 24, slot := 0, constantValue := 0 }, { name := "BIG_ENDIAN", type := .boolean, accessFlags := 26, slot := 1, constantValue := 0 }, { name := "LOG2_ARRAY_BOOLEAN_INDEX_SCALE", type := .int, accessFlags := 25, slot := 2, constantValue := 0 }, { name := "LOG2_ARRAY_BYTE_INDEX_SCALE", type := .int, accessFlags := 25, slot := 3, constantValue := 0 }, { name := "LOG2_ARRAY_CHAR_INDEX_SCALE", type := .int, accessFlags := 25, slot := 4, constantValue := 0 }, { name := "LOG2_ARRAY_SHORT_INDEX_SCALE", type := .int, accessFlags := 25, slot := 5, constantValue := 0 }, { name := "LOG2_ARRAY_INT_INDEX_SCALE", type := .int, accessFlags := 25, slot := 6, constantValue := 0 }, { name := "LOG2_ARRAY_LONG_INDEX_SCALE", type := .int, accessFlags := 25, slot := 7, constantValue := 0 }, { name := "LOG2_ARRAY_FLOAT_INDEX_SCALE", type := .int, accessFlags := 25, slot := 8, constantValue := 0 }, { name := "LOG2_ARRAY_DOUBLE_INDEX_SCALE", type := .int, accessFlags := 25, slot := 9, constantValue := 0 }, { name := "LOG2_BYTE_BIT_SIZE", type := .int, accessFlags := 26, slot := 10, constantValue := 0 }, { name := "T_BOOLEAN", type := .int, accessFlags := 25, slot := 11, constantValue := 0 }, { name := "T_CHAR", type := .int, accessFlags := 25, slot := 12, constantValue := 0 }, { name := "T_FLOAT", type := .int, accessFlags := 25, slot := 13, constantValue := 0 }, { name := "T_DOUBLE", type := .int, accessFlags := 25, slot := 14, constantValue := 0 }, { name := "T_BYTE", type := .int, accessFlags := 25, slot := 15, constantValue := 0 }, { name := "T_SHORT", type := .int, accessFlags := 25, slot := 16, constantValue := 0 }, { name := "T_INT", type := .int, accessFlags := 25, slot := 17, constantValue := 0 }, { name := "T_LONG", type := .int, accessFlags := 25, slot := 18, constantValue := 0 }, { name := "JLA", type := (.object "jdk/internal/access/JavaLangAccess"), accessFlags := 26, slot := 19, constantValue := 0 }, { name := "SOFT_MAX_ARRAY_LENGTH", type := .int, accessFlags := 25, slot := 20, constantValue := 0 }]
  methods := #[k13m0]
  instanceTypes := #[]
  staticTypes := #[(.object "jdk/internal/misc/Unsafe"), .boolean, .int, .int, .int, .int, .int, .int, .int, .int, .int, .int, .int, .int, .int, .int, .int, .int, .int, (.object "jdk/internal/access/JavaLangAccess"), .int]
  resolved := Array.replicate 378 none
  statics := none }

def pool14 : Array CpInfo := pool [(1, u "java/lang/Cloneable"), (0, .class_ 1), (0, u "java/lang/Object"), (0, .class_ 3)] 3

/-- java/lang/Cloneable -/
def k14 : Class := { plain "java/lang/Cloneable" (some 0) with
  accessFlags := 1537
  interfaces := #[]
  cf := some (fileOf pool14 2 #[] #[] 1537 4 #[] #[])
  fields := #[]
  methods := #[]
  instanceTypes := #[]
  staticTypes := #[]
  resolved := Array.replicate 8 none
  statics := none }

/-- the primitive byte -/
def k15 : Class := { plain "byte" none with kind := .primitive 'B', accessFlags := 0x411 }
/-- [B -/
def k16 : Class := { plain "[B" (some 0) with kind := .array 15 .byte, interfaces := #[14, 2], accessFlags := 1041 }

/-- the primitive char -/
def k17 : Class := { plain "char" none with kind := .primitive 'C', accessFlags := 0x411 }
/-- [C -/
def k18 : Class := { plain "[C" (some 0) with kind := .array 17 .char, interfaces := #[14, 2], accessFlags := 1041 }

def heap : Heap := #[{ cls := 7, slots := #[.long 0, .int 1, .null, .int 0, .null, .int 0, .int 0], vm := .statics 7 },
  { cls := 12, slots := #[.null, .null, .null], vm := .statics 12 },
  { cls := 13, slots := #[], vm := .none }]
def classes : Array Class := #[k0, k1, k2, k3, k4, k5, k6, k7, k8, k9, k10, k11, k12, k13, k14, k15, k16, k17, k18]
def interned : List (Array UInt16 × Addr) := []
def slotsUsed : Nat := 10
def theMethod : MethodId := ⟨1, 1⟩
def args0 : Array Value := #[.int 5, .int 6, .int 7, .int 8]
def aboutOver (below : List Frame) : State where
  vm := { classes := classes, interned := interned.toArray }
  heap := heap
  slotsUsed := slotsUsed
  threads := #[{ frames := .invoking theMethod args0 :: below }]
def below0 : List Frame := [.native { method := ⟨0, 0⟩, args := #[] }]
def about1 : State := aboutOver below0
def p0 : Program := .bare "" "" ""
def e0 : Env := launch0.env 0 0 0
theorem w_frames : about1.frames = Frame.invoking theMethod args0 :: below0 := rfl
set_option maxRecDepth 65536 in
theorem w_args : argsFit about1.vm theMethod args0 = true := by decide +kernel
set_option maxRecDepth 65536 in
theorem w_heap : heapFits about1 = true := by decide +kernel
set_option maxRecDepth 65536 in
theorem w_runnable : about1.curStatus? = some .runnable := by decide +kernel
set_option maxRecDepth 65536 in
theorem w_alone : about1.alone = true := by decide +kernel
set_option maxRecDepth 65536 in
theorem w_named : about1.methodNamed? x = some theMethod := by decide +kernel
set_option maxRecDepth 65536 in
theorem w_hears : about1.hears theMethod below0 = true := by decide +kernel
set_option maxRecDepth 65536 in
theorem w_ripe : about1.ripe theMethod args0 below0 = true := by decide +kernel
theorem w_running : about1.status = .running := rfl
set_option maxRecDepth 65536 in
theorem w_room : about1.hasRoom e0.platform room_1 = true :=
  launch0.hasRoom_least _ room_1 (by decide +kernel) (by decide +kernel) (by decide +kernel) (by decide +kernel) (by decide +kernel) (by decide +kernel)
theorem allAtoms_all (ts : List Jvm.Cond) (a : Array Jvm.Value) (st : Jvm.State) : (allAtoms ts).before a st = ts.all (fun c => c.before a st) := by
  induction ts with
  | nil => rfl
  | cons c t ih =>
    show (Jvm.Cond.and c (allAtoms t)).before a st = _
    rw [Jvm.Cond.before_and, ih, List.all_cons]
def words1 : List Jvm.Cond := Jvm.Cond.code x code maxLocals ret :: tables_1
/-- a 'code' word, met by the world's own term for the bytes: nothing is compared byte by byte -/
theorem code_word {y : MethodName} {bytes : ByteArray} {mx : Nat} {rt : Option FieldType} {a : Array Value} {s : State} {m : MethodId} {meth : Method} {c : Code} (h1 : s.methodNamed? y = some m) (h2 : s.vm.method? m = some meth) (h3 : meth.code = some c) (h4 : c.code = bytes)
    (h5 : (c.maxLocals == mx && c.exceptionTable.isEmpty && decide (c.maxStack ≤ mostOperands) && decide (meth.sig.returnType = rt) && !meth.locks && decide (parseMethodDescriptor y.desc = some meth.sig)) = true) : (Jvm.Cond.code y bytes mx rt).before a s = true := by
  simp only [Bool.and_eq_true, beq_iff_eq, Bool.not_eq_true', decide_eq_true_eq] at h5
  obtain ⟨⟨⟨⟨⟨g1, g2⟩, g3⟩, g4⟩, g5⟩, g6⟩ := h5
  simp [Cond.before, Cond.holds, Cond.value, h1, h2, h3, h4, g1, g2, g3, g4, g5, g6]
def isCode : Jvm.Cond → Bool
  | .code _ _ _ _ => true
  | _ => false
theorem all_split {L : List Jvm.Cond} {P : Jvm.Cond → Bool} (h1 : L.all (fun c => isCode c || P c) = true) (h2 : ∀ c ∈ L.filter isCode, P c = true) : L.all P = true := by
  refine List.all_eq_true.mpr fun c hc => ?_
  have h := List.all_eq_true.mp h1 c hc
  rcases Bool.eq_false_or_eq_true (isCode c) with hi | hi
  · exact h2 c (List.mem_filter.mpr ⟨hc, hi⟩)
  · simpa [hi] using h
set_option maxRecDepth 65536 in
theorem w_c0 : (Jvm.Cond.code x code maxLocals ret).before args0 about1 = true := code_word (m := ⟨1, 1⟩) (meth := k1m1) (c := k1c1) (by decide +kernel) rfl rfl rfl (by decide +kernel)
set_option maxRecDepth 65536 in
theorem w_c1 : (Jvm.Cond.code ({ cls := "com/example/mthd/mthd/model/FieldHoldsStringsPinLaw", name := "at", desc := "([CIIC)C" } : Jvm.MethodName) method_3_code (4 : Nat) (Option.some Jvm.ClassFile.FieldType.char)).before args0 about1 = true := code_word (m := ⟨1, 2⟩) (meth := k1m2) (c := k1c2) (by decide +kernel) rfl rfl rfl (by decide +kernel)
set_option maxRecDepth 65536 in
theorem w_c2 : (Jvm.Cond.code ({ cls := "java/lang/String", name := "<init>", desc := "([C)V" } : Jvm.MethodName) jdk_42_method_3_code (2 : Nat) (Option.none : Option Jvm.ClassFile.FieldType)).before args0 about1 = true := code_word (m := ⟨7, 1⟩) (meth := k7m1) (c := k7c1) (by decide +kernel) rfl rfl rfl (by decide +kernel)
set_option maxRecDepth 65536 in
theorem w_c3 : (Jvm.Cond.code ({ cls := "java/lang/String", name := "<init>", desc := "([CIILjava/lang/Void;)V" } : Jvm.MethodName) jdk_42_method_149_code (6 : Nat) (Option.none : Option Jvm.ClassFile.FieldType)).before args0 about1 = true := code_word (m := ⟨7, 3⟩) (meth := k7m3) (c := k7c3) (by decide +kernel) rfl rfl rfl (by decide +kernel)
set_option maxRecDepth 65536 in
theorem w_c4 : (Jvm.Cond.code ({ cls := "java/lang/Object", name := "<init>", desc := "()V" } : Jvm.MethodName) object_method_1_code (1 : Nat) (Option.none : Option Jvm.ClassFile.FieldType)).before args0 about1 = true := code_word (m := ⟨0, 0⟩) (meth := k0m0) (c := k0c0) (by decide +kernel) rfl rfl rfl (by decide +kernel)
set_option maxRecDepth 65536 in
theorem w_c5 : (Jvm.Cond.code ({ cls := "java/lang/StringUTF16", name := "compress", desc := "([CII)[B" } : Jvm.MethodName) jdk_52_method_16_code (6 : Nat) (Option.some (Jvm.ClassFile.FieldType.array Jvm.ClassFile.FieldType.byte))).before args0 about1 = true := code_word (m := ⟨8, 2⟩) (meth := k8m2) (c := k8c2) (by decide +kernel) rfl rfl rfl (by decide +kernel)
set_option maxRecDepth 65536 in
theorem w_c6 : (Jvm.Cond.code ({ cls := "java/lang/StringUTF16", name := "compress", desc := "([CI[BII)I" } : Jvm.MethodName) jdk_52_method_21_code (7 : Nat) (Option.some Jvm.ClassFile.FieldType.int)).before args0 about1 = true := code_word (m := ⟨8, 3⟩) (meth := k8m3) (c := k8c3) (by decide +kernel) rfl rfl rfl (by decide +kernel)
set_option maxRecDepth 65536 in
theorem w_c7 : (Jvm.Cond.code ({ cls := "java/lang/StringUTF16", name := "coderFromArrayLen", desc := "([BI)B" } : Jvm.MethodName) jdk_52_method_15_code (2 : Nat) (Option.some Jvm.ClassFile.FieldType.byte)).before args0 about1 = true := code_word (m := ⟨8, 1⟩) (meth := k8m1) (c := k8c1) (by decide +kernel) rfl rfl rfl (by decide +kernel)
set_option maxRecDepth 65536 in
theorem w_c8 : (Jvm.Cond.code ({ cls := "com/example/mthd/mthd/model/ApiMessage$Field", name := "<init>", desc := "(Ljava/lang/String;Ljava/lang/String;ZZLjava/util/Optional;Ljava/util/Optional;)V" } : Jvm.MethodName) prog_19_method_1_code (7 : Nat) (Option.none : Option Jvm.ClassFile.FieldType)).before args0 about1 = true := code_word (m := ⟨10, 0⟩) (meth := k10m0) (c := k10c0) (by decide +kernel) rfl rfl rfl (by decide +kernel)
set_option maxRecDepth 65536 in
theorem w_c9 : (Jvm.Cond.code ({ cls := "java/lang/Record", name := "<init>", desc := "()V" } : Jvm.MethodName) jdk_30_method_1_code (1 : Nat) (Option.none : Option Jvm.ClassFile.FieldType)).before args0 about1 = true := code_word (m := ⟨9, 0⟩) (meth := k9m0) (c := k9c0) (by decide +kernel) rfl rfl rfl (by decide +kernel)
set_option maxRecDepth 65536 in
theorem w_c10 : (Jvm.Cond.code ({ cls := "com/example/mthd/mthd/model/ApiMessage$Field", name := "holdsStrings", desc := "()Z" } : Jvm.MethodName) prog_19_method_2_code (1 : Nat) (Option.some Jvm.ClassFile.FieldType.boolean)).before args0 about1 = true := code_word (m := ⟨10, 1⟩) (meth := k10m1) (c := k10c1) (by decide +kernel) rfl rfl rfl (by decide +kernel)
set_option maxRecDepth 65536 in
theorem w_c11 : (Jvm.Cond.code ({ cls := "java/lang/String", name := "equals", desc := "(Ljava/lang/Object;)Z" } : Jvm.MethodName) jdk_42_method_66_code (3 : Nat) (Option.some Jvm.ClassFile.FieldType.boolean)).before args0 about1 = true := code_word (m := ⟨7, 2⟩) (meth := k7m2) (c := k7c2) (by decide +kernel) rfl rfl rfl (by decide +kernel)
set_option maxRecDepth 65536 in
theorem w_c12 : (Jvm.Cond.code ({ cls := "java/lang/StringLatin1", name := "equals", desc := "([B[B)Z" } : Jvm.MethodName) jdk_43_method_13_code (3 : Nat) (Option.some Jvm.ClassFile.FieldType.boolean)).before args0 about1 = true := code_word (m := ⟨11, 1⟩) (meth := k11m1) (c := k11c1) (by decide +kernel) rfl rfl rfl (by decide +kernel)
def codes1 : List Jvm.Cond := [Jvm.Cond.code x code maxLocals ret, Jvm.Cond.code ({ cls := "com/example/mthd/mthd/model/FieldHoldsStringsPinLaw", name := "at", desc := "([CIIC)C" } : Jvm.MethodName) method_3_code (4 : Nat) (Option.some Jvm.ClassFile.FieldType.char), Jvm.Cond.code ({ cls := "java/lang/String", name := "<init>", desc := "([C)V" } : Jvm.MethodName) jdk_42_method_3_code (2 : Nat) (Option.none : Option Jvm.ClassFile.FieldType), Jvm.Cond.code ({ cls := "java/lang/String", name := "<init>", desc := "([CIILjava/lang/Void;)V" } : Jvm.MethodName) jdk_42_method_149_code (6 : Nat) (Option.none : Option Jvm.ClassFile.FieldType), Jvm.Cond.code ({ cls := "java/lang/Object", name := "<init>", desc := "()V" } : Jvm.MethodName) object_method_1_code (1 : Nat) (Option.none : Option Jvm.ClassFile.FieldType), Jvm.Cond.code ({ cls := "java/lang/StringUTF16", name := "compress", desc := "([CII)[B" } : Jvm.MethodName) jdk_52_method_16_code (6 : Nat) (Option.some (Jvm.ClassFile.FieldType.array Jvm.ClassFile.FieldType.byte)), Jvm.Cond.code ({ cls := "java/lang/StringUTF16", name := "compress", desc := "([CI[BII)I" } : Jvm.MethodName) jdk_52_method_21_code (7 : Nat) (Option.some Jvm.ClassFile.FieldType.int), Jvm.Cond.code ({ cls := "java/lang/StringUTF16", name := "coderFromArrayLen", desc := "([BI)B" } : Jvm.MethodName) jdk_52_method_15_code (2 : Nat) (Option.some Jvm.ClassFile.FieldType.byte), Jvm.Cond.code ({ cls := "com/example/mthd/mthd/model/ApiMessage$Field", name := "<init>", desc := "(Ljava/lang/String;Ljava/lang/String;ZZLjava/util/Optional;Ljava/util/Optional;)V" } : Jvm.MethodName) prog_19_method_1_code (7 : Nat) (Option.none : Option Jvm.ClassFile.FieldType), Jvm.Cond.code ({ cls := "java/lang/Record", name := "<init>", desc := "()V" } : Jvm.MethodName) jdk_30_method_1_code (1 : Nat) (Option.none : Option Jvm.ClassFile.FieldType), Jvm.Cond.code ({ cls := "com/example/mthd/mthd/model/ApiMessage$Field", name := "holdsStrings", desc := "()Z" } : Jvm.MethodName) prog_19_method_2_code (1 : Nat) (Option.some Jvm.ClassFile.FieldType.boolean), Jvm.Cond.code ({ cls := "java/lang/String", name := "equals", desc := "(Ljava/lang/Object;)Z" } : Jvm.MethodName) jdk_42_method_66_code (3 : Nat) (Option.some Jvm.ClassFile.FieldType.boolean), Jvm.Cond.code ({ cls := "java/lang/StringLatin1", name := "equals", desc := "([B[B)Z" } : Jvm.MethodName) jdk_43_method_13_code (3 : Nat) (Option.some Jvm.ClassFile.FieldType.boolean)]
set_option maxRecDepth 65536 in
theorem codes_eq : words1.filter isCode = codes1 := rfl
theorem w_codes : ∀ c ∈ words1.filter isCode, c.before args0 about1 = true := by
  rw [codes_eq]
  intro c hc
  simp only [codes1, List.mem_cons, List.not_mem_nil, or_false] at hc
  rcases hc with rfl | rfl | rfl | rfl | rfl | rfl | rfl | rfl | rfl | rfl | rfl | rfl | rfl
  · exact w_c0
  · exact w_c1
  · exact w_c2
  · exact w_c3
  · exact w_c4
  · exact w_c5
  · exact w_c6
  · exact w_c7
  · exact w_c8
  · exact w_c9
  · exact w_c10
  · exact w_c11
  · exact w_c12
set_option maxRecDepth 65536 in
theorem w_t1 : (words1.take 24).all (fun c => isCode c || c.before args0 about1) = true := by decide +kernel
set_option maxRecDepth 65536 in
theorem w_t2 : ((words1.drop 24).take 24).all (fun c => isCode c || c.before args0 about1) = true := by decide +kernel
set_option maxRecDepth 65536 in
theorem w_t3 : (((words1.drop 24).drop 24).take 24).all (fun c => isCode c || c.before args0 about1) = true := by decide +kernel
set_option maxRecDepth 65536 in
theorem w_t4 : (((words1.drop 24).drop 24).drop 24).all (fun c => isCode c || c.before args0 about1) = true := by decide +kernel
theorem w_tables : (allAtoms (Jvm.Cond.code x code maxLocals ret :: tables_1)).before args0 about1 = true := by
  rw [allAtoms_all]
  show words1.all (fun c => c.before args0 about1) = true
  refine all_split ?_ w_codes
  rw [← List.take_append_drop 24 words1, List.all_append, w_t1, ← List.take_append_drop 24 (words1.drop 24), List.all_append, w_t2, ← List.take_append_drop 24 ((words1.drop 24).drop 24), List.all_append, w_t3, w_t4]
  rfl
set_option maxRecDepth 65536 in
theorem w_rest : rest_1_c.before args0 about1 = true := by decide +kernel
set_option maxRecDepth 65536 in
theorem w_case : (Jvm.Cond.and given_1 narrow_1).before args0 about1 = true := by decide +kernel
set_option maxRecDepth 65536 in
theorem w_consts : constsHeld consts_1 about1 := Jvm.Lit.constsHeldB_iff.mp (by decide +kernel)
theorem w_applies : (headSpec (Jvm.Cond.code x code maxLocals ret :: tables_1) room_1).applies x e0.platform about1 = true :=
  (Spec.applies_iff w_frames).mpr ⟨w_running, w_runnable, w_alone, w_named, w_hears, w_ripe, w_room, w_tables⟩
theorem atStart : AtStart classFile x code maxLocals ret World_1 tables_1 room_1 Calls_1 rest_1 Pre_1 launch0 p0 e0 about1 theMethod args0 below0 :=
  ⟨lists_1, trivial, launch0.admits_env _ _ _, launch0.least_env, fairChoices_fair.cas, fairChoices_fair.clock, w_frames, w_args, w_heap, w_applies, ⟨w_consts, trivial⟩, w_rest, w_case⟩
end start1
theorem witness_1 : WitnessClaimed_1 := ⟨start1.p0, start1.e0, start1.about1, start1.theMethod, start1.args0, start1.below0, start1.atStart⟩
end Jvm.Pilot.@@N@@
