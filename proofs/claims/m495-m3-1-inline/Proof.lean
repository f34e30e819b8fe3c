import JvmDerived
import JvmDerived.Pilot.@@N@@Statement
import JvmDerived.Pilot.@@N@@Code
set_option linter.unusedVariables false
set_option linter.unusedSimpArgs false
@@BLOCK:LamKit.lean.txt@@

namespace Jvm.Pilot.@@N@@
open Jvm Jvm.ClassFile Sem Op Lib Jvm.Free Jvm.Stand Jvm.LawKit Jvm.RoadKit Bundle Jvm.Pilot.@@N@@.Jvm.D

theorem own_onn {i : Nat} (h : i < 2147483648) : ¬ Int32.ofNat i < 0 := by
  rw [Int32.lt_iff_toInt_lt, Int32.toInt_ofNat_small h, Int32.toInt_zero]; omega
theorem own_oi {i : Nat} (h : i < 2147483648) : (Int32.ofNat i).toNatClampNeg = i := by
  have q := nat_of (own_onn h)
  rw [Int32.toInt_ofNat_small h] at q; omega

def litCs : List (String × Nat × String) := [("com/example/grid_job_scheduler/gridjobscheduler/TriggerKey", 9, "trigger key"), ("com/example/grid_job_scheduler/gridjobscheduler/Keys", 7, "group"), ("com/example/grid_job_scheduler/gridjobscheduler/Keys", 15, "name"), ("com/example/grid_job_scheduler/gridjobscheduler/Keys", 53, ".")]
theorem lit0_in : ("com/example/grid_job_scheduler/gridjobscheduler/TriggerKey", 9, "trigger key") ∈ litCs := List.mem_of_getElem? (i := 0) rfl
theorem lit0_one : ∀ q ∈ litCs, q.2.2 = "trigger key" → q = ("com/example/grid_job_scheduler/gridjobscheduler/TriggerKey", 9, "trigger key") := by decide +kernel
theorem lit0_lat : ∀ c ∈ "trigger key".toList, c.toNat < 256 := by decide +kernel
theorem lit0_len : "trigger key".toList.length < 2147483648 := by decide +kernel
theorem lit0_sz : 4 * "trigger key".toList.length ≤ 44 := by decide +kernel
theorem lit1_in : ("com/example/grid_job_scheduler/gridjobscheduler/Keys", 7, "group") ∈ litCs := List.mem_of_getElem? (i := 1) rfl
theorem lit1_one : ∀ q ∈ litCs, q.2.2 = "group" → q = ("com/example/grid_job_scheduler/gridjobscheduler/Keys", 7, "group") := by decide +kernel
theorem lit1_lat : ∀ c ∈ "group".toList, c.toNat < 256 := by decide +kernel
theorem lit1_len : "group".toList.length < 2147483648 := by decide +kernel
theorem lit1_sz : 4 * "group".toList.length ≤ 20 := by decide +kernel
theorem lit2_in : ("com/example/grid_job_scheduler/gridjobscheduler/Keys", 15, "name") ∈ litCs := List.mem_of_getElem? (i := 2) rfl
theorem lit2_one : ∀ q ∈ litCs, q.2.2 = "name" → q = ("com/example/grid_job_scheduler/gridjobscheduler/Keys", 15, "name") := by decide +kernel
theorem lit2_lat : ∀ c ∈ "name".toList, c.toNat < 256 := by decide +kernel
theorem lit2_len : "name".toList.length < 2147483648 := by decide +kernel
theorem lit2_sz : 4 * "name".toList.length ≤ 16 := by decide +kernel
theorem lit3_in : ("com/example/grid_job_scheduler/gridjobscheduler/Keys", 53, ".") ∈ litCs := List.mem_of_getElem? (i := 3) rfl
theorem lit3_one : ∀ q ∈ litCs, q.2.2 = "." → q = ("com/example/grid_job_scheduler/gridjobscheduler/Keys", 53, ".") := by decide +kernel
theorem lit3_lat : ∀ c ∈ ".".toList, c.toNat < 256 := by decide +kernel
theorem lit3_len : ".".toList.length < 2147483648 := by decide +kernel
theorem lit3_sz : 4 * ".".toList.length ≤ 4 := by decide +kernel

section OwnLit
/-- the bytes of a literal's text -/
def litI (text : String) : List Int32 := text.toList.map fun c => Jvm.Lit.byteI c.toNat.toUInt16
def litB (text : String) : List Value := (litI text).map Value.int
theorem litI_len (text : String) : (litI text).length = text.toList.length := List.length_map ..
theorem litB_eq (text : String) : litB text = text.toList.map fun c => Value.int (Jvm.Lit.byteI c.toNat.toUInt16) := List.map_map ..
/-- the String at a says the text, her bytes lie at t -/
def Says (Z : State) (h : Heap) (a t : Addr) (k : ClassId) (text : String) : Prop :=
  Exa Z h a "java/lang/String" ∧ Fld Z h a "java/lang/String" "coder" "B" (.int 0) ∧ Fld Z h a "java/lang/String" "value" "[B" (.ref t) ∧ Arv Z h t k .byte (Int32.ofNat (litI text).length) ((litI text).map Value.int) (.int 0)
theorem Says.ext {Z : State} {h h' : Heap} {a t : Addr} {k : ClassId} {text : String} (S : Says Z h a t k text) (E : Ext h h') : Says Z h' a t k text := ⟨S.1.ext E, S.2.1.ext E, S.2.2.1.ext E, S.2.2.2.ext E⟩
theorem Says.other {Z : State} {h h' : Heap} {a t x : Addr} {k : ClassId} {text : String} {sl : Nat} {v : Value} (S : Says Z h a t k text) (W : Wr h h' x sl v) (q1 : a ≠ x) (q2 : t ≠ x) : Says Z h' a t k text := ⟨S.1.wr W, S.2.1.other W (Or.inl q1), S.2.2.1.other W (Or.inl q1), S.2.2.2.other W q2⟩
theorem Says.keep {Z : State} {h h' : Heap} {a t : Addr} {ws : List Addr} {k : ClassId} {text : String} (S : Says Z h a t k text) (K : Keep h h' ws) (q1 : a ∉ ws) (q2 : t ∉ ws) : Says Z h' a t k text := ⟨S.1.keep K, S.2.1.keep K q1, S.2.2.1.keep K q1, S.2.2.2.keep K q2⟩
/-- what the case assumes of the literals: whatever the JVM holds already says its text; compact strings are on -/
def LH (Z : State) : Prop := (∀ q ∈ litCs, Jvm.Lit.constHeld Z q.1 q.2.1) ∧ ∀ a0, Jvm.Lit.compactW.before a0 Z = true
/-- what holds of the literals all along: those loaded since the start are booked, say their texts, and lie apart from ms, the objects that are still written -/
def Hd (Z : State) (ms : List Addr) (vm : Vm) (h : Heap) : Prop :=
  LH Z ∧ Ext Z.heap h ∧ (∀ x ∈ ms, Z.heap.size ≤ x ∧ x < h.size) ∧ ∃ Ts, IB Z vm Ts ∧ ∀ q ∈ litCs, q.2.2 ∉ Ts ∨ ∃ a t k, Lit (Z.setVm vm) q.1 q.2.1 a ∧ Says Z h a t k q.2.2 ∧ a ∉ ms ∧ t ∉ ms
theorem Hd.start {Z : State} (A : LH Z) : Hd Z [] Z.vm Z.heap := ⟨A, ⟨Nat.le_refl _, fun _ _ q => q⟩, fun x hx => (nomatch hx), [], IB.start, fun q hq => Or.inl (fun z => (nomatch z))⟩
variable {Z b : State} {ms ms' ws : List Addr} {h h' : Heap} {vm vm' : Vm} {x : Addr} {sl : Nat} {v : Value}
theorem Hd.warm (J : Hd Z ms b.vm h) (q : b.WarmedH vm') : Hd Z ms vm' h := by
  obtain ⟨A, E, M, Ts, ⟨more, e, hm⟩, L⟩ := J
  refine ⟨A, E, M, Ts, ⟨more, q.interned_eq.trans e, hm⟩, fun c hc => (L c hc).imp id fun ⟨a, t, k, l, r⟩ => ⟨a, t, k, ?_, r⟩⟩
  exact State.resolvedAt?_warmed39 (s := b) q.wide l
theorem Hd.ext (J : Hd Z ms vm h) (E' : Ext h h') : Hd Z ms vm h' := by
  obtain ⟨A, E, M, Ts, I, L⟩ := J
  exact ⟨A, ⟨Nat.le_trans E.1 E'.1, fun a c q => E'.2 a c (E.2 a c q)⟩, fun y hy => ⟨(M y hy).1, Nat.lt_of_lt_of_le (M y hy).2 E'.1⟩, Ts, I, fun c hc => (L c hc).imp id fun ⟨a, t, k, l, s, r⟩ => ⟨a, t, k, l, s.ext E', r⟩⟩
theorem Hd.add (J : Hd Z ms vm h) (E' : Ext h h') (q : x = h.size) (q' : x < h'.size) : Hd Z (x :: ms) vm h' := by
  obtain ⟨A, E, M, Ts, I, L⟩ := J
  refine ⟨A, ⟨Nat.le_trans E.1 E'.1, fun a c r => E'.2 a c (E.2 a c r)⟩, fun y hy => ?_, Ts, I, fun c hc => (L c hc).imp id fun ⟨a, t, k, l, s, r1, r2⟩ => ⟨a, t, k, l, s.ext E', ?_, ?_⟩⟩
  · rcases List.mem_cons.mp hy with rfl | hy
    · exact ⟨q ▸ E.1, q'⟩
    · exact ⟨(M y hy).1, Nat.lt_of_lt_of_le (M y hy).2 E'.1⟩
  · exact ninS (fun z => absurd s.1.lt (by rw [z, q]; exact Nat.lt_irrefl _)) r1
  · exact ninS (fun z => absurd s.2.2.2.lt (by rw [z, q]; exact Nat.lt_irrefl _)) r2
theorem Hd.keep (J : Hd Z ms vm h) (K : Keep h h' ws) (q : ∀ x ∈ ws, x ∈ ms) : Hd Z ms vm h' := by
  obtain ⟨A, E, M, Ts, I, L⟩ := J
  refine ⟨A, ⟨Nat.le_trans E.1 K.1, fun a c r => K.2.1 a c (E.2 a c r) fun z => ?_⟩, fun y hy => ⟨(M y hy).1, Nat.lt_of_lt_of_le (M y hy).2 K.1⟩, Ts, I, fun c hc => (L c hc).imp id fun ⟨a, t, k, l, s, r1, r2⟩ => ⟨a, t, k, l, s.keep K (fun z => r1 (q _ z)) (fun z => r2 (q _ z)), r1, r2⟩⟩
  exact absurd (Array.getElem?_eq_some_iff.mp r).1 (Nat.not_lt.mpr (M _ (q _ z)).1)
theorem Hd.wr (J : Hd Z ms vm h) (W : Wr h h' x sl v) (q : x ∈ ms) : Hd Z ms vm h' := J.keep (Keep.of_wr W) (fun y hy => by cases List.mem_singleton.mp hy; exact q)
theorem Hd.sub (J : Hd Z ms vm h) (q : ∀ x ∈ ms', x ∈ ms) : Hd Z ms' vm h := by
  obtain ⟨A, E, M, Ts, I, L⟩ := J
  exact ⟨A, E, fun y hy => M y (q y hy), Ts, I, fun c hc => (L c hc).imp id fun ⟨a, t, k, l, s, r1, r2⟩ => ⟨a, t, k, l, s, fun z => r1 (q _ z), fun z => r2 (q _ z)⟩⟩
theorem Hd.nms {t : Addr} (J : Hd Z ms vm h) (q : h.size ≤ t) : t ∉ ms := fun z => absurd (J.2.2.1 t z).2 (Nat.not_lt.mpr q)
/-- what the law of the cold load hands out, said of the start's tables -/
theorem slin_says {T' : State} {lo hi : Nat} {a : Addr} {units : Array UInt16} {text : String} (hal : Z.vm.Alike T'.vm) (hin : SlIn lo hi T' a units) (htext : utf16ToString? units = some text) (hl : ∀ c ∈ text.toList, c.toNat < 256) (hsz : text.toList.length < 2147483648) :
    ∃ t k, Says Z T'.heap a t k text ∧ ((a < lo ∧ t < lo) ∨ (hi ≤ a ∧ hi ≤ t)) := by
  obtain ⟨q, cS, rfl, ⟨⟨s1, s2, s3, ⟨cv, kv, iv, s4, s4'⟩, ⟨cc, kc, ic, s5, s5'⟩, s6, s7, s8, s9, s10, ⟨t1, t2, t3, t4, t5⟩, s12, s13, s14, s15, s16⟩, fS, eS⟩, ⟨kS, k1, k2, k3⟩, fB, hby, hloc⟩ := hin
  obtain ⟨kv', z4⟩ := ff_back hal s4
  obtain ⟨kc', z5⟩ := ff_back hal s5
  have fZ : Z.vm.findClass "java/lang/String" = some q.sC.cls := by rw [← hal.findClass, eS]; exact fS
  obtain ⟨kz, hz, -⟩ := Vm.findClass_spec fZ
  obtain ⟨kz', hz', ez⟩ := hal.2.2 _ _ hz
  have e1 : kz' = kS := Option.some.inj (hz'.symm.trans (eS ▸ k1))
  have bZ : Z.vm.findClass "[B" = some q.SA.cls := by rw [← hal.findClass]; exact fB
  obtain ⟨kb, hb, -⟩ := Vm.findClass_spec bZ
  obtain ⟨kb', hb', eb⟩ := hal.2.2 _ _ hb
  have e2 : t2 = kb' := Option.some.inj (t3.symm.trans hb')
  have hA : Z.isArrayOf q.SA .byte := ⟨t1, kb, hb, t4, by rw [e2, eb] at t5; exact t5⟩
  have hu := Jvm.ClassFile.units_of_text htext hl
  have hlat := Jvm.ClassFile.lat_of_text htext hl
  have hsl : q.SA.slots = units.map fun u => Value.int (Jvm.Lit.byteI u) := by rw [hby, Jvm.Free.SBG.stringBytes_lat hlat]; rfl
  have hlb : litB text = units.toList.map fun u => Value.int (Jvm.Lit.byteI u) := by rw [hu, litB_eq, List.map_map]; rfl
  have hn : q.SA.slots.size = text.toList.length := by
    have r := congrArg List.length hu
    rw [hsl, Array.size_map]; simpa using r
  have H : Has q.SA (litB text) (.int 0) := fun j hj => by
    have hj' : j < units.size := by rw [hsl, Array.size_map] at hj; exact hj
    rw [hsl, hlb]; simp [hj']
  refine ⟨q.sd, q.SA.cls, ⟨⟨q.sC, kz, s1, fZ, hz, s3, fun _ => by rw [k3, ← e1, ez]⟩, ⟨q.sC, cc, kc', ic, q.fSC, s1, z5, s7, s2, s3, by rw [← hal.assignable]; exact s5', s9⟩, ⟨q.sC, cv, kv', iv, q.fSV, s1, z4, s6, s2, s3, by rw [← hal.assignable]; exact s4', s8⟩,
    ⟨q.SA, ⟨s10, hA, s12⟩, rfl, by rw [hn, litI_len, own_oi hsz], by rw [litI_len]; exact own_onn hsz, H, fun j hj => ?_⟩⟩, hloc⟩
  have r1 := s16 j hj
  rw [Jvm.Free.SBG.getD_of (H j hj)] at r1
  exact r1
end OwnLit

section OwnKit
variable {p : Program} {l : Launch} {e : Env} {R : Room} {s b : State} {m : MethodId} {args : Array Value} {below : List Frame} {meth : Method} {c : Code} {T T' : State} {locs : List Loc} {cells slots : Nat} {Z : State} {a0 : Array Value} {h h' : Heap} {K N : Nat} {Q : Option Value → Vm → Heap → List Loc → Prop} {g g' : JFrame} {ms : List Addr}
/-- from the frame g over T the body comes to its end, and there Q holds (the end in the wide sense: literals may have been loaded) -/
def Go (p : Program) (e : Env) (s : State) (below : List Frame) (K N : Nat) (J : Vm → Heap → Prop) (Q : Option Value → Vm → Heap → List Loc → Prop) (T : State) (g : JFrame) : Prop :=
  ∃ s₂ o, Steps p.tables e below (T.setTop g) s₂ ∧ s₂.status = .running ∧ Ended s₂ below o ∧ ∃ v L, o = .returned v ∧ Q v s₂.vm s₂.heap L ∧ J s₂.vm s₂.heap ∧ ReturnedEndW s o s₂ L K N
theorem Go.of {J : Vm → Heap → Prop} (st : ∀ t, Steps p.tables e below (T'.setTop g') t → Steps p.tables e below (T.setTop g) t) (q : Go p e s below K N J Q T' g') : Go p e s below K N J Q T g := by
  obtain ⟨s2, o, h1, r⟩ := q
  exact ⟨s2, o, st _ h1, r⟩
/-- two roads meet again: what comes behind is proved once -/
theorem Go.join {J : Vm → Heap → Prop} {α : Type} (P : α → Prop) (f : α → JFrame) (A : ∀ x, P x → Go p e s below K N J Q T (f x)) (C : (∀ x, P x → Go p e s below K N J Q T (f x)) → Go p e s below K N J Q T g) : Go p e s below K N J Q T g := C A
/-- the tables at hand: b is the start s with warmer tables, their new pairs booked below the heap's size -/
def Bs (s b : State) (h : Heap) : Prop := ∃ vm k, b = s.setVm vm ∧ s.Since vm k ∧ k ≤ h.size
theorem Bs.start (s : State) (h : Heap) : Bs s s h := ⟨s.vm, 0, rfl, (State.WarmedH.refl s).since 0, Nat.zero_le _⟩
theorem Bs.mono (B : Bs s b h) (q : h.size ≤ h'.size) : Bs s b h' := by
  obtain ⟨vm, k, e, hS, hk⟩ := B
  exact ⟨vm, k, e, hS, Nat.le_trans hk q⟩
theorem rend_mono {t : State} {o : Outcome} {L : List Loc} {k n k' n' : Nat} (q : ReturnedEndW s o t L k n) (hk : k ≤ k') (hn : n ≤ n') : ReturnedEndW s o t L k' n' := ⟨q.1, q.2.1, q.2.2.1, q.2.2.2.mono hk hn⟩
theorem own_retI (X : Stand p l e R s m args below meth c T locs cells slots) (hx : p.tables.exec = Jvm.exec) {pc : Nat} {Ls : Array Slot} {z : Int32} {rest : List Value} (hret : meth.sig.returnType = some .int) (hd : decode c.code pc = .ok (.ireturn, 1)) {fs : List Frame}
    (hl : ∀ (f : JFrame) (acts : List Action), f.method = m → f.locked = none → f.entered = [] → (doReturn e (T.setTop f) acts (some (.int z))).1 = T.setFrames fs) : Steps p.tables e below (T.setTop (mkF m pc Ls (.int z :: rest))) (T.setFrames fs) := by
  have hm' : T.vm.method? m = some meth := X.method'
  have hn : narrow .int (.int z) = .int z := rfl
  show Steps p.tables e below (T.setTop { method := m, pc := pc, locals := Ls, stack := _ :: rest, locked := none }) _
  jvm_step X.here [X.here.top, hx, hd, hm', hret, hn]
  first | (intro acts; rw [hl _ acts rfl rfl rfl]) | rw [hl _ _ rfl rfl rfl]
  exact Steps.refl _
theorem Go.retI (X : Stand p l e R b m args below meth c T locs cells slots) (hx : p.tables.exec = Jvm.exec) (hlk : meth.locks = false) (B : Bs s b h) (J : Hd Z ms b.vm h) (eT : T.heap = h) {pc : Nat} {Ls : Array Slot} {z : Int32} {rest : List Value} (hret : meth.sig.returnType = some .int) (hd : decode c.code pc = .ok (.ireturn, 1)) (hK : cells ≤ K) (hN : slots ≤ N)
    (hQ : ∀ vm, b.WarmedH vm → Q (some (.int z)) vm h locs) : Go p e s below K N (Hd Z ms) Q T (mkF m pc Ls (.int z :: rest)) := by
  obtain ⟨vm, k, rfl, hS, hk⟩ := B
  subst eT
  obtain ⟨fs, hr, hrun, hended, hW⟩ := X.leaveW hS hk (v := some (.int z)) (fun q => by rw [hret] at q; cases q) hlk
  exact ⟨_, _, own_retI X hx hret hd hr, hrun, hended, _, _, rfl, hQ _ X.warmed, J.warm X.warmed, rend_mono hW hK hN⟩
theorem Go.retN (X : Stand p l e R b m args below meth c T locs cells slots) (hx : p.tables.exec = Jvm.exec) (hlk : meth.locks = false) (B : Bs s b h) (J : Hd Z ms b.vm h) (eT : T.heap = h) {pc : Nat} {Ls : Array Slot} {z z' : Int32} {t : FieldType} {rest : List Value} (hret : meth.sig.returnType = some t) (ht : t = .boolean ∨ t = .byte ∨ t = .char ∨ t = .short) (hd : decode c.code pc = .ok (.ireturn, 1)) (hz : nar t z = z') (hK : cells ≤ K) (hN : slots ≤ N)
    (hQ : ∀ vm, b.WarmedH vm → Q (some (.int z')) vm h locs) : Go p e s below K N (Hd Z ms) Q T (mkF m pc Ls (.int z :: rest)) := by
  obtain ⟨vm, k, rfl, hS, hk⟩ := B
  subst eT hz
  obtain ⟨fs, hr, hrun, hended, hW⟩ := X.leaveW hS hk (v := some (.int (nar t z))) (fun q => by rw [hret] at q; cases q) hlk
  exact ⟨_, _, Jvm.RoadKit.retN X hx hret ht hd hr, hrun, hended, _, _, rfl, hQ _ X.warmed, J.warm X.warmed, rend_mono hW hK hN⟩
theorem Go.retA (X : Stand p l e R b m args below meth c T locs cells slots) (hx : p.tables.exec = Jvm.exec) (hlk : meth.locks = false) (B : Bs s b h) (J : Hd Z ms b.vm h) (eT : T.heap = h) {pc : Nat} {Ls : Array Slot} {w : Value} {t : FieldType} {rest : List Value} (hret : meth.sig.returnType = some t) (ht : t.isReference = true) (hw : w.isRef = true) (hd : decode c.code pc = .ok (.areturn, 1)) (hK : cells ≤ K) (hN : slots ≤ N)
    (hQ : ∀ vm, b.WarmedH vm → Q (some w) vm h locs) : Go p e s below K N (Hd Z ms) Q T (mkF m pc Ls (w :: rest)) := by
  obtain ⟨vm, k, rfl, hS, hk⟩ := B
  subst eT
  obtain ⟨fs, hr, hrun, hended, hW⟩ := X.leaveW hS hk (v := some w) (fun q => by rw [hret] at q; cases q) hlk
  have hn : narrow t w = w := by
    cases t <;> first | (cases ht; done) | (cases w <;> first | rfl | (cases hw; done))
  exact ⟨_, _, retOut X hx hret hn (Or.inr (Or.inr (Or.inr (Or.inr ⟨rfl, ht, hw⟩)))) hd hr, hrun, hended, _, _, rfl, hQ _ X.warmed, J.warm X.warmed, rend_mono hW hK hN⟩
theorem Go.retV (X : Stand p l e R b m args below meth c T locs cells slots) (hx : p.tables.exec = Jvm.exec) (hlk : meth.locks = false) (B : Bs s b h) (J : Hd Z ms b.vm h) (eT : T.heap = h) {pc : Nat} {Ls : Array Slot} (hret : meth.sig.returnType = none) (hd : decode c.code pc = .ok (.return_, 1)) (hK : cells ≤ K) (hN : slots ≤ N)
    (hQ : ∀ vm, b.WarmedH vm → Q none vm h locs) : Go p e s below K N (Hd Z ms) Q T (mkF m pc Ls []) := by
  obtain ⟨vm, k, rfl, hS, hk⟩ := B
  subst eT
  obtain ⟨fs, hr, hrun, hended, hW⟩ := X.leaveW hS hk (v := none) (fun _ => rfl) hlk
  exact ⟨_, _, X.returnOut hx hret hd hr, hrun, hended, _, _, rfl, hQ _ X.warmed, J.warm X.warmed, rend_mono hW hK hN⟩
/-- a body's contract in this family -/
def Con (l : Launch) (Z : State) (ms : List Addr) (y : MethodName) (bytes : ByteArray) (maxL : Nat) (ret : Option FieldType) (ws : List Jvm.Cond) (rm : Room) (as' : Array Value) (h : Heap) (Q : Option Value → Vm → Heap → List Loc → Prop) : Prop :=
  MetFree l y (head1 (Jvm.Cond.code y bytes maxL ret :: ws) rm) (fun a U => a = as' ∧ Z.Warmed39 U.vm ∧ U.heap = h ∧ Hd Z ms U.vm U.heap) (fun _ _ _ _ _ => True) (fun _ U o U' => ∃ v L, o = .returned v ∧ Q v U'.vm U'.heap L ∧ Hd Z ms U'.vm U'.heap ∧ ReturnedEndW U o U' L rm.cells rm.slots)
/-- what a walk knows of the body that it walks -/
def Cx (Z : State) (p : Program) (b : State) (m : MethodId) (meth : Method) (c : Code) (own : String) (bytes : ByteArray) (ml : Nat) (nm : String) (rt : Option FieldType) : Prop :=
  p.tables.exec = Jvm.exec ∧ Z.Warmed39 b.vm ∧ b.vm.findClass own = some m.cls ∧ c.code = bytes ∧ c.maxLocals = ml ∧ meth.name = nm ∧ meth.sig.returnType = rt ∧ meth.locks = false
theorem Con.mk {y : MethodName} {bytes : ByteArray} {maxL : Nat} {ret : Option FieldType} {ws : List Jvm.Cond} {rm : Room} {as' : Array Value} (hp : plainFor y = true)
    (body : ∀ p e s m below meth c s₁, Cx Z p s m meth c y.cls bytes maxL y.name ret → Stand p l e rm s m as' below meth c s₁ [] 0 0 → s₁.heap = h → s.heap = h → Hd Z ms s.vm h → Bs s s h → s.methodNamed? y = some m → Go p e s below rm.cells rm.slots (Hd Z ms) Q s₁ (entryFrame m as' maxL)) : Con l Z ms y bytes maxL ret ws rm as' h Q := by
  refine MetFree.of_bodySF hp hisR ?_
  intro p e s m args below meth c s₁ Bd hml0 hP hK
  obtain ⟨rfl, hZ, hh, hJ⟩ := hP
  exact body p e s m below meth c s₁ ⟨Bd.exec, hZ, findClass_of_methodNamed Bd.named, Bd.bytes, hml0, (name_of_methodNamed Bd.named Bd.method).1, Bd.returns, Bd.notSynchronized⟩ (Stand.of_body Bd) (by rw [← hh, Bd.state]; rfl) hh (hh ▸ hJ) (Bs.start s h) Bd.named
section Calls
variable {y : MethodName} {bytes mybytes : ByteArray} {maxL ml : Nat} {ret rt : Option FieldType} {rm : Room} {own nm : String} {index W : Nat} {argsL rest : List Value} {Q' : Option Value → Vm → Heap → List Loc → Prop}
/-- two roads meet again behind calls that leave the heap as it was -/
theorem Go.joinC {Jq : Vm → Heap → Prop} {α : Type} {n : Nat} (Cc : Cx Z p b m meth c own mybytes ml nm rt) (X : Stand p l e R b m args below meth c T locs cells slots) (hJ : Hd Z ms b.vm h) (hN : Fr n locs) (P : α → Prop) (f : α → JFrame)
    (A : ∀ x b' T' locs', Cx Z p b' m meth c own mybytes ml nm rt → Stand p l e R b' m args below meth c T' locs' cells slots → T'.heap = h → Bs s b' h → Hd Z ms b'.vm h → Fr n locs' → P x → Go p e s below K N Jq Q T' (f x))
    (C : (∀ x b' T' locs', Cx Z p b' m meth c own mybytes ml nm rt → Stand p l e R b' m args below meth c T' locs' cells slots → T'.heap = h → Bs s b' h → Hd Z ms b'.vm h → Fr n locs' → P x → Go p e s below K N Jq Q T' (f x)) → Go p e s below K N Jq Q T g) : Go p e s below K N Jq Q T g := C A
/-- what a call leaves: the tables at hand may be others -/
def Called (Z : State) (ms : List Addr) (p : Program) (l : Launch) (e : Env) (R : Room) (s : State) (m : MethodId) (args : Array Value) (below : List Frame) (meth : Method) (c : Code) (own : String) (mybytes : ByteArray) (ml : Nat) (nm : String) (rt : Option FieldType) (locs : List Loc) (cells slots : Nat) (h : Heap) (Q' : Option Value → Vm → Heap → List Loc → Prop) (T : State) (g : JFrame) (len : Nat) (rest : List Value) : Prop :=
  ∃ v b' T' h' L, T'.heap = h' ∧ Cx Z p b' m meth c own mybytes ml nm rt ∧ Stand p l e R b' m args below meth c T' (locs ++ L) cells slots ∧ Bs s b' h' ∧ Hd Z ms b'.vm h' ∧ h.size ≤ h'.size ∧ Q' v b'.vm h' L ∧ ∀ t, Steps p.tables e below (T'.setTop { g with pc := g.pc + len, stack := v.toList ++ rest }) t → Steps p.tables e below (T.setTop g) t
theorem own_back {as' : Array Value} {len : Nat} (hM : Con l Z ms y bytes maxL ret [] rm as' h Q') (hZ : Z.Warmed39 b.vm) (J : Hd Z ms b.vm h) (wc : (Jvm.Cond.code y bytes maxL ret).before a0 Z = true) (wz : (Jvm.Cond.initialized y.cls).before a0 Z = true) (hf : rm.frames + 1 ≤ R.frames) (hl : W + (maxL + 11) + rm.locals ≤ R.locals) :
    BackS l R p e below b args y len W (fun A a => a = as' ∧ A.U.heap = h ∧ A.cells + rm.cells ≤ R.cells ∧ A.slots + rm.slots ≤ R.slots)
      (fun A _ v B => ∃ L, (Q' v B.U.vm B.U.heap L ∧ Hd Z ms B.U.vm B.U.heap) ∧ B.locs = A.locs ++ L ∧ B.cells = A.cells + rm.cells ∧ B.slots = A.slots + rm.slots) :=
  BackS.of_freeW (bytes := bytes) (maxL := maxL) (ret := ret) (E := fun _ _ o t L k n => k = rm.cells ∧ n = rm.slots ∧ ∃ v, o = .returned v ∧ Q' v t.vm t.heap L ∧ Hd Z ms t.vm t.heap) hM hf hl
    (fun m meth c A a Y hp => have hU : Z.Warmed39 A.U.vm := wtrans hZ Y.warmed
      ⟨by show (Jvm.Cond.and _ .tt).before a A.U = true; rw [Cond.before_and, mv hU wc]; rfl, mv hU wc, mv hU wz, hp.2.2.1, hp.2.2.2⟩)
    (fun m meth c A a g mk Y hp => ⟨hp.1, wtrans hZ Y.warmed, hp.2.1, by show Hd Z ms A.U.vm A.U.heap; rw [hp.2.1]; exact J.warm Y.warmed⟩) (fun _ _ _ _ _ _ _ _ _ => trivial)
    (fun _ _ _ _ ⟨v, L, h1, h2, h3, h4⟩ => ⟨L, _, _, h4, rfl, rfl, v, h1, h2, h3⟩)
    (fun m meth c A a g mk v t L k n Y hp _ _ ⟨e1, e2, v', e3, e4, e5⟩ => by cases e3; subst e1 e2; exact ⟨L, ⟨e4, e5⟩, rfl, rfl, rfl⟩)
theorem own_done {len : Nat} {v : Option Value} {B : Pt} (Cc : Cx Z p b m meth c own mybytes ml nm rt) (hB : Bs s b h) (eT : T.heap = h) (X1 : Stand p l e R (b.setVm B.U.vm) m args below meth c B.U B.locs B.cells B.slots) (hS : b.Since B.U.vm B.U.heap.size) (hg : T.heap.size ≤ B.U.heap.size)
    (hq : ∃ L, (Q' v B.U.vm B.U.heap L ∧ Hd Z ms B.U.vm B.U.heap) ∧ B.locs = locs ++ L ∧ B.cells = cells + rm.cells ∧ B.slots = slots + rm.slots) (st : ∀ t, Steps p.tables e below (B.U.setTop { g with pc := g.pc + len, stack := v.toList ++ rest }) t → Steps p.tables e below (T.setTop g) t) :
    Called Z ms p l e R s m args below meth c own mybytes ml nm rt locs (cells + rm.cells) (slots + rm.slots) h Q' T g len rest := by
  obtain ⟨T1, L1, k1, n1⟩ := B
  obtain ⟨Lc, ⟨hQ, hJ⟩, l1, y1, z1⟩ := hq
  dsimp only [Pt.U, Pt.locs, Pt.cells, Pt.slots] at X1 l1 y1 z1 st hQ hJ hS hg
  subst l1 y1 z1
  obtain ⟨vm, k, rfl, hS0, hk⟩ := hB
  obtain ⟨hx, hZ, hown, r⟩ := Cc
  exact ⟨v, (s.setVm vm).setVm T1.vm, T1, _, Lc, rfl, ⟨hx, State.Warmed39.trans hZ hS.1, (hS.1.alike.findClass _ _).trans hown, r⟩, X1, ⟨T1.vm, T1.heap.size, rfl, hS0.trans hS (Nat.le_trans hk (eT ▸ hg)), Nat.le_refl _⟩, hJ, eT ▸ hg, hQ, st⟩
theorem own_callS (Cc : Cx Z p b m meth c own mybytes ml nm rt) (hB : Bs s b h) (J : Hd Z ms b.vm h) (X : Stand p l e R b m args below meth c T locs cells slots)
    (wl : (Jvm.Cond.methodLink own index y).before a0 Z = true) (wst : (Jvm.Cond.static y).before a0 Z = true) (wi : (Jvm.Cond.initialized y.cls).before a0 Z = true) (wc : (Jvm.Cond.code y bytes maxL ret).before a0 Z = true) (hy : y.cls ≠ "java/lang/invoke/MethodHandle" ∧ y.cls ≠ "java/lang/invoke/VarHandle")
    (hM : Con l Z ms y bytes maxL ret [] rm argsL.toArray h Q') (eT : T.heap = h) (hg : g.method = m) (hsize : g.locals.size = c.maxLocals) (hlen : ∀ sig, parseMethodDescriptor y.desc = some sig → argsL.length = sig.parameters.length) (hstack : g.stack = argsL.reverse ++ rest)
    (hW : 2 * g.monitorRoom + (rest.map fun v => v.category).sum ≤ W) (hdg : decode c.code g.pc = .ok (.invokestatic index, 3)) (hf : rm.frames + 1 ≤ R.frames) (hl : W + (maxL + 11) + rm.locals ≤ R.locals) (hc : cells + rm.cells ≤ R.cells) (hs : slots + rm.slots ≤ R.slots) :
    Called Z ms p l e R s m args below meth c own mybytes ml nm rt locs (cells + rm.cells) (slots + rm.slots) h Q' T g 3 rest := by
  obtain ⟨hx, hZ, hown, -⟩ := id Cc
  obtain ⟨v, _, B, -, X1, hS, hgr, hq, st⟩ := callSS X hx (y := y) hown (mvT hZ wl) (mvT hZ wst) (mvT hZ wi) (mvT hZ wc) hy (own_back (W := W) hM hZ J wc wi hf hl) hg hsize (argsL := argsL) (rest := rest) hlen hstack hW hdg (fun _ _ => ⟨rfl, eT, hc, hs⟩)
  exact own_done Cc hB eT X1 hS hgr hq (fun _ hr => st.trans hr)
theorem own_callI (Cc : Cx Z p b m meth c own mybytes ml nm rt) (hB : Bs s b h) (J : Hd Z ms b.vm h) (X : Stand p l e R b m args below meth c T locs cells slots) (hin : y.name = "<init>")
    (wl : (Jvm.Cond.methodLink own index y).before a0 Z = true) (wim : (Jvm.Cond.instanceMethod y).before a0 Z = true) (wi : (Jvm.Cond.initialized y.cls).before a0 Z = true) (wc : (Jvm.Cond.code y bytes maxL none).before a0 Z = true) (hy : y.cls ≠ "java/lang/invoke/MethodHandle" ∧ y.cls ≠ "java/lang/invoke/VarHandle")
    {a : Addr} (hM : Con l Z ms y bytes maxL none [] rm (Value.ref a :: argsL).toArray h Q') (eT : T.heap = h) (hg : g.method = m) (hsize : g.locals.size = c.maxLocals) (hlen : ∀ sig, parseMethodDescriptor y.desc = some sig → argsL.length = sig.parameters.length) (hstack : g.stack = argsL.reverse ++ .ref a :: rest)
    (hW : 2 * g.monitorRoom + (rest.map fun v => v.category).sum ≤ W) (hdg : decode c.code g.pc = .ok (.invokespecial index, 3)) (hf : rm.frames + 1 ≤ R.frames) (hl : W + (maxL + 11) + rm.locals ≤ R.locals) (hc : cells + rm.cells ≤ R.cells) (hs : slots + rm.slots ≤ R.slots) :
    Called Z ms p l e R s m args below meth c own mybytes ml nm rt locs (cells + rm.cells) (slots + rm.slots) h Q' T g 3 rest := by
  obtain ⟨hx, hZ, hown, -⟩ := id Cc
  obtain ⟨v, _, B, -, X1, hS, hgr, hq, st⟩ := X.specialBackS hx (y := y) hin hown (mvT hZ wl) (mvT hZ wim) (mvT hZ wc) hy (own_back (W := W) hM hZ J wc wi hf hl) hg hsize (Steps.refl _) (a := a) (argsL := argsL) (rest := rest) hlen hstack hW hdg (fun _ _ => ⟨rfl, eT, hc, hs⟩)
  exact own_done Cc hB eT X1 hS hgr hq (fun _ hr => st.trans hr)
theorem own_callV (Cc : Cx Z p b m meth c own mybytes ml nm rt) (hB : Bs s b h) (J : Hd Z ms b.vm h) (X : Stand p l e R b m args below meth c T locs cells slots) {z : MethodName} {C : String}
    (wl : (Jvm.Cond.methodLink own index y).before a0 Z = true) (wd : (Jvm.Cond.declares y).before a0 Z = true) (nf : NotFace b y) (wsel : (Jvm.Cond.selects C y z).before a0 Z = true) (wim : (Jvm.Cond.instanceMethod z).before a0 Z = true) (wi : (Jvm.Cond.initialized z.cls).before a0 Z = true) (wc : (Jvm.Cond.code z bytes maxL ret).before a0 Z = true) (hy : y.cls ≠ "java/lang/invoke/MethodHandle" ∧ y.cls ≠ "java/lang/invoke/VarHandle")
    {a : Addr} (E : Exa Z h a C) (hM : Con l Z ms z bytes maxL ret [] rm (Value.ref a :: argsL).toArray h Q') (eT : T.heap = h) (hg : g.method = m) (hsize : g.locals.size = c.maxLocals) (hlen : ∀ sig, parseMethodDescriptor y.desc = some sig → argsL.length = sig.parameters.length) (hstack : g.stack = argsL.reverse ++ .ref a :: rest)
    (hW : 2 * g.monitorRoom + (rest.map fun v => v.category).sum ≤ W) (hdg : decode c.code g.pc = .ok (.invokevirtual index, 3)) (hf : rm.frames + 1 ≤ R.frames) (hl : W + (maxL + 11) + rm.locals ≤ R.locals) (hc : cells + rm.cells ≤ R.cells) (hs : slots + rm.slots ≤ R.slots) :
    Called Z ms p l e R s m args below meth c own mybytes ml nm rt locs (cells + rm.cells) (slots + rm.slots) h Q' T g 3 rest := by
  obtain ⟨hx, hZ, hown, -⟩ := id Cc
  obtain ⟨cq, kq, qa, qb, qc⟩ := isOf hZ eT E
  obtain ⟨v, _, B, -, X1, hS, hgr, hq, st⟩ := X.virtualBackS hx (y := y) (z := z) hown (mvT hZ wl) (mvT hZ wd) nf (mvT hZ wsel) (mvT hZ wim) hy (own_back (W := W) hM hZ J wc wi hf hl) qa qc hg hsize (Steps.refl _) (argsL := argsL) (rest := rest) hlen hstack hW hdg (fun _ _ => ⟨rfl, eT, hc, hs⟩)
  exact own_done Cc hB eT X1 hS hgr hq (fun _ hr => st.trans hr)
/-- an inherited method, by the class that the entry names -/
theorem own_callU (Cc : Cx Z p b m meth c own mybytes ml nm rt) (hB : Bs s b h) (J : Hd Z ms b.vm h) (X : Stand p l e R b m args below meth c T locs cells slots) {z : MethodName} {C owner : String}
    (wl : (Jvm.Cond.methodLink own index y).before a0 Z = true) (wsm : (Jvm.Cond.sameMethod y.cls owner y.name y.desc).before a0 Z = true) (wd : (Jvm.Cond.declares ⟨owner, y.name, y.desc⟩).before a0 Z = true) (wsel : (Jvm.Cond.selects C y z).before a0 Z = true) (wim : (Jvm.Cond.instanceMethod z).before a0 Z = true) (wi : (Jvm.Cond.initialized z.cls).before a0 Z = true) (wc : (Jvm.Cond.code z bytes maxL ret).before a0 Z = true) (ho : owner ≠ "java/lang/invoke/MethodHandle" ∧ owner ≠ "java/lang/invoke/VarHandle")
    {a : Addr} (E : Exa Z h a C) (hM : Con l Z ms z bytes maxL ret [] rm (Value.ref a :: argsL).toArray h Q') (eT : T.heap = h) (hg : g.method = m) (hsize : g.locals.size = c.maxLocals) (hlen : ∀ sig, parseMethodDescriptor y.desc = some sig → argsL.length = sig.parameters.length) (hstack : g.stack = argsL.reverse ++ .ref a :: rest)
    (hW : 2 * g.monitorRoom + (rest.map fun v => v.category).sum ≤ W) (hdg : decode c.code g.pc = .ok (.invokevirtual index, 3)) (hf : rm.frames + 1 ≤ R.frames) (hl : W + (maxL + 11) + rm.locals ≤ R.locals) (hc : cells + rm.cells ≤ R.cells) (hs : slots + rm.slots ≤ R.slots) :
    Called Z ms p l e R s m args below meth c own mybytes ml nm rt locs (cells + rm.cells) (slots + rm.slots) h Q' T g 3 rest := by
  obtain ⟨hx, hZ, hown, -⟩ := id Cc
  obtain ⟨cq, kq, qa, qb, qc⟩ := isOf hZ eT E
  obtain ⟨v, _, B, -, X1, hS, hgr, hq, st⟩ := X.virtualBackUpS hx (x := y) (y := z) hown (mvT hZ wl) (mvT hZ wsm) (mvT hZ wd) ho (mvT hZ wsel) (mvT hZ wim) (own_back (W := W) hM hZ J wc wi hf hl) qa qc hg hsize (Steps.refl _) (argsL := argsL) (rest := rest) hlen hstack hW hdg (fun _ _ => ⟨rfl, eT, hc, hs⟩)
  exact own_done Cc hB eT X1 hS hgr hq (fun _ hr => st.trans hr)
/-- through an interface -/
theorem own_callF (Cc : Cx Z p b m meth c own mybytes ml nm rt) (hB : Bs s b h) (J : Hd Z ms b.vm h) (X : Stand p l e R b m args below meth c T locs cells slots) {z : MethodName} {C : String} {count : Nat}
    (wl : (Jvm.Cond.methodLink own index y).before a0 Z = true) (wd : (Jvm.Cond.declares y).before a0 Z = true) (wfc : (Jvm.Cond.interfaceMethod y.cls y.cls y.name y.desc).before a0 Z = true) (hfc : ((Jvm.Cond.interfaceMethod y.cls y.cls y.name y.desc).onTables && (Jvm.Cond.interfaceMethod y.cls y.cls y.name y.desc).keepsFace) = true) (wsel : (Jvm.Cond.selects C y z).before a0 Z = true) (wim : (Jvm.Cond.instanceMethod z).before a0 Z = true) (wpb : (Jvm.Cond.publicMethod z).before a0 Z = true) (wun : (Jvm.Cond.unhidden C y.name y.desc).before a0 Z = true) (wca : (Jvm.Cond.castable C y.cls).before a0 Z = true)
    (wi : (Jvm.Cond.initialized z.cls).before a0 Z = true) (wc : (Jvm.Cond.code z bytes maxL ret).before a0 Z = true) (hy : y.cls ≠ "java/lang/invoke/MethodHandle" ∧ y.cls ≠ "java/lang/invoke/VarHandle")
    {a : Addr} (E : Exa Z h a C) (hM : Con l Z ms z bytes maxL ret [] rm (Value.ref a :: argsL).toArray h Q') (eT : T.heap = h) (hg : g.method = m) (hsize : g.locals.size = c.maxLocals) (hlen : ∀ sig, parseMethodDescriptor y.desc = some sig → argsL.length = sig.parameters.length) (hstack : g.stack = argsL.reverse ++ .ref a :: rest)
    (hW : 2 * g.monitorRoom + (rest.map fun v => v.category).sum ≤ W) (hdg : decode c.code g.pc = .ok (.invokeinterface index count, 5)) (hf : rm.frames + 1 ≤ R.frames) (hl : W + (maxL + 11) + rm.locals ≤ R.locals) (hc : cells + rm.cells ≤ R.cells) (hs : slots + rm.slots ≤ R.slots) :
    Called Z ms p l e R s m args below meth c own mybytes ml nm rt locs (cells + rm.cells) (slots + rm.slots) h Q' T g 5 rest := by
  obtain ⟨hx, hZ, hown, -⟩ := id Cc
  obtain ⟨cq, kq, qa, qb, qc⟩ := isOf hZ eT E
  obtain ⟨v, _, B, -, X1, hS, hgr, hq, st⟩ := X.interfaceBackS hx (xi := y) (y := z) hown (mvT hZ wl) (mvT hZ wd) (mvT hZ wfc hfc) (mvT hZ wsel) (mvT hZ wim) (mvT hZ wpb) (mvT hZ wun) (mvT hZ wca) hy (own_back (W := W) hM hZ J wc wi hf hl) qa qb qc hg hsize (Steps.refl _) (argsL := argsL) (rest := rest) hlen hstack hW hdg (fun _ _ => ⟨rfl, eT, hc, hs⟩)
  exact own_done Cc hB eT X1 hS hgr hq (fun _ hr => st.trans hr)
/-- super.m() -/
theorem own_callP (Cc : Cx Z p b m meth c own mybytes ml nm rt) (hB : Bs s b h) (J : Hd Z ms b.vm h) (X : Stand p l e R b m args below meth c T locs cells slots) {C : String}
    (wl : (Jvm.Cond.methodLink own index y).before a0 Z = true) (wsm : (Jvm.Cond.sameMethod y.cls y.cls y.name y.desc).before a0 Z = true) (wim : (Jvm.Cond.instanceMethod y).before a0 Z = true) (wsu : (Jvm.Cond.superclass own y.cls).before a0 Z = true) (hn : y.name ≠ "<init>") (wi : (Jvm.Cond.initialized y.cls).before a0 Z = true) (wc : (Jvm.Cond.code y bytes maxL ret).before a0 Z = true)
    {a : Addr} (E : Exa Z h a C) (hM : Con l Z ms y bytes maxL ret [] rm (Value.ref a :: argsL).toArray h Q') (eT : T.heap = h) (hg : g.method = m) (hsize : g.locals.size = c.maxLocals) (hlen : ∀ sig, parseMethodDescriptor y.desc = some sig → argsL.length = sig.parameters.length) (hstack : g.stack = argsL.reverse ++ .ref a :: rest)
    (hW : 2 * g.monitorRoom + (rest.map fun v => v.category).sum ≤ W) (hdg : decode c.code g.pc = .ok (.invokespecial index, 3)) (hf : rm.frames + 1 ≤ R.frames) (hl : W + (maxL + 11) + rm.locals ≤ R.locals) (hc : cells + rm.cells ≤ R.cells) (hs : slots + rm.slots ≤ R.slots) :
    Called Z ms p l e R s m args below meth c own mybytes ml nm rt locs (cells + rm.cells) (slots + rm.slots) h Q' T g 3 rest := by
  obtain ⟨hx, hZ, hown, -⟩ := id Cc
  obtain ⟨v, _, B, -, X1, hS, hgr, hq, st⟩ := superBackS X hx hZ (y := y) hown wl wsm wim wsu hn (own_back (W := W) hM hZ J wc wi hf hl) eT (Ins.self E) hg hsize wc (argsL := argsL) (rest := rest) hlen hstack hW hdg (fun _ _ => ⟨rfl, eT, hc, hs⟩)
  exact own_done Cc hB eT X1 hS hgr hq (fun _ hr => st.trans hr)
/-- a private method -/
theorem own_callR (Cc : Cx Z p b m meth c own mybytes ml nm rt) (hB : Bs s b h) (J : Hd Z ms b.vm h) (X : Stand p l e R b m args below meth c T locs cells slots) {C : String}
    (wl : (Jvm.Cond.methodLink own index y).before a0 Z = true) (wim : (Jvm.Cond.instanceMethod y).before a0 Z = true) (wsel : (Jvm.Cond.selects y.cls y y).before a0 Z = true) (wpr : (Jvm.Cond.privateMethod y).before a0 Z = true) (wi : (Jvm.Cond.initialized y.cls).before a0 Z = true) (wc : (Jvm.Cond.code y bytes maxL ret).before a0 Z = true) (hy : y.cls ≠ "java/lang/invoke/MethodHandle" ∧ y.cls ≠ "java/lang/invoke/VarHandle")
    {a : Addr} (E : Exa Z h a C) (hM : Con l Z ms y bytes maxL ret [] rm (Value.ref a :: argsL).toArray h Q') (eT : T.heap = h) (hg : g.method = m) (hsize : g.locals.size = c.maxLocals) (hlen : ∀ sig, parseMethodDescriptor y.desc = some sig → argsL.length = sig.parameters.length) (hstack : g.stack = argsL.reverse ++ .ref a :: rest)
    (hW : 2 * g.monitorRoom + (rest.map fun v => v.category).sum ≤ W) (hdg : decode c.code g.pc = .ok (.invokevirtual index, 3)) (hf : rm.frames + 1 ≤ R.frames) (hl : W + (maxL + 11) + rm.locals ≤ R.locals) (hc : cells + rm.cells ≤ R.cells) (hs : slots + rm.slots ≤ R.slots) :
    Called Z ms p l e R s m args below meth c own mybytes ml nm rt locs (cells + rm.cells) (slots + rm.slots) h Q' T g 3 rest := by
  obtain ⟨hx, hZ, hown, -⟩ := id Cc
  obtain ⟨cl, q1, q2⟩ := E.cell
  obtain ⟨v, _, B, -, X1, hS, hgr, hq, st⟩ := X.privateBackS hx (y := y) hown (mvT hZ wl) (mvT hZ wim) (mvT hZ wsel) (Cond.privateMethod_at (mvP hZ wpr (args := #[]))) (mvT hZ wc) hy (own_back (W := W) hM hZ J wc wi hf hl) hg hsize (Steps.refl _) (a := a) (by rw [eT]; exact q1) q2 (argsL := argsL) (rest := rest) hlen hstack hW hdg (fun _ _ => ⟨rfl, eT, hc, hs⟩)
  exact own_done Cc hB eT X1 hS hgr hq (fun _ hr => st.trans hr)
/-- a nest-mate's constructor -/
theorem own_callN (Cc : Cx Z p b m meth c own mybytes ml nm rt) (hB : Bs s b h) (J : Hd Z ms b.vm h) (X : Stand p l e R b m args below meth c T locs cells slots) (hin : y.name = "<init>") {host : String}
    (wl : (Jvm.Cond.methodLinkNest own index y host).before a0 Z = true) (wim : (Jvm.Cond.instanceMethod y).before a0 Z = true) (wi : (Jvm.Cond.initialized y.cls).before a0 Z = true) (wc : (Jvm.Cond.code y bytes maxL none).before a0 Z = true) (hy : y.cls ≠ "java/lang/invoke/MethodHandle" ∧ y.cls ≠ "java/lang/invoke/VarHandle")
    {a : Addr} (hM : Con l Z ms y bytes maxL none [] rm (Value.ref a :: argsL).toArray h Q') (eT : T.heap = h) (hg : g.method = m) (hsize : g.locals.size = c.maxLocals) (hlen : ∀ sig, parseMethodDescriptor y.desc = some sig → argsL.length = sig.parameters.length) (hstack : g.stack = argsL.reverse ++ .ref a :: rest)
    (hW : 2 * g.monitorRoom + (rest.map fun v => v.category).sum ≤ W) (hdg : decode c.code g.pc = .ok (.invokespecial index, 3)) (hf : rm.frames + 1 ≤ R.frames) (hl : W + (maxL + 11) + rm.locals ≤ R.locals) (hc : cells + rm.cells ≤ R.cells) (hs : slots + rm.slots ≤ R.slots) :
    Called Z ms p l e R s m args below meth c own mybytes ml nm rt locs (cells + rm.cells) (slots + rm.slots) h Q' T g 3 rest := by
  obtain ⟨hx, hZ, hown, -⟩ := id Cc
  have wl' : (Jvm.Cond.methodLinkNest own index y host).before args b = true := (Cond.methodLinkNest_wide hZ wl :)
  obtain ⟨v, _, B, -, X1, hS, hgr, hq, st⟩ := X.specialBackNestS hx (y := y) hin hown wl' (mvT hZ wim) (mvT hZ wc) hy (own_back (W := W) hM hZ J wc wi hf hl) hg hsize (Steps.refl _) (a := a) (argsL := argsL) (rest := rest) hlen hstack hW hdg (fun _ _ => ⟨rfl, eT, hc, hs⟩)
  exact own_done Cc hB eT X1 hS hgr hq (fun _ hr => st.trans hr)
end Calls
theorem own_nf {s : State} {args : Array Value} {C : String} {y z : MethodName} (hsel : (Jvm.Cond.selects C z z).before args s = true) (hc : z.cls = y.cls) : NotFace s y := fun r0 h0 => by
  obtain ⟨c2, r2, m2, -, -, q3, -⟩ := Cond.selects_spec hsel
  obtain ⟨kr, k1, k2⟩ := notFace_of_selects hsel m2 q3
  have a := findClass_of_methodNamed h0
  have b := findClass_of_methodNamed q3
  rw [hc] at b
  have e : r0.cls = m2.cls := Option.some.inj (a.symm.trans b)
  exact ⟨kr, by rw [e]; exact k1, k2⟩
theorem own_sm {y : MethodName} (wim : (Jvm.Cond.instanceMethod y).before a0 Z = true) (nf : NotFace Z y) (hy : y.cls ≠ "java/lang/invoke/MethodHandle" ∧ y.cls ≠ "java/lang/invoke/VarHandle") : (Jvm.Cond.sameMethod y.cls y.cls y.name y.desc).before a0 Z = true := by
  obtain ⟨mk, methM, hnamed, -⟩ := Cond.instanceMethod_spec wim
  obtain ⟨kr, k1, k2⟩ := nf _ hnamed
  have hf := State.methodFound?_of_named hnamed hy
  have hc := findClass_of_methodNamed hnamed
  have hn' : Z.methodNamed? ⟨y.cls, y.name, y.desc⟩ = some mk := hnamed
  simp [Cond.before, Cond.holds, Cond.value, hc, hf, hn', k1, k2]
theorem own_decl {y : MethodName} {bytes : ByteArray} {maxL : Nat} {ret : Option FieldType} (wim : (Jvm.Cond.instanceMethod y).before a0 Z = true) (wc : (Jvm.Cond.code y bytes maxL ret).before a0 Z = true) : (Jvm.Cond.declares y).before a0 Z = true := by
  obtain ⟨mk, methM, hnamed, hmethM, hst, -⟩ := Cond.instanceMethod_spec wim
  obtain ⟨m2, cM, q1, -, -, -, -, -, -, hsig⟩ := Cond.code_spec hnamed wc
  cases hmethM.symm.trans q1
  simp [Cond.before, Cond.holds, Cond.value, hnamed, hmethM, hst, hsig]
theorem keep_ext (q : Keep h h' []) : Ext h h' := ⟨q.1, fun a c r => q.2.1 a c r (fun z => nomatch z)⟩
theorem ext_keep (q : Ext h h') : Keep h h' [] := (Keep.refl h []).ext q
theorem own_ole {n0 : Nat} (O : Old Z n0 h) : n0 ≤ h.size := O.1 ▸ O.2.1
/-- an equation of the case's words -/
theorem own_eqI {t : Term} {n : Int32} (q : (Jvm.Cond.eq t (.int n)).value args s none s [] = some true) : t.eval args s none [] s = some (.int n) := by
  cases ha : t.eval args s none [] s with
  | none => simp [Cond.value, ha] at q
  | some x => cases x <;> simp [Cond.value, Term.eval, ha] at q ⊢; exact q
end OwnKit

section OwnLdc
variable {p : Program} {l : Launch} {e : Env} {R : Room} {s b : State} {m : MethodId} {args : Array Value} {below : List Frame} {meth : Method} {c : Code} {T : State} {locs : List Loc} {cells slots : Nat} {Z : State} {a0 : Array Value} {h : Heap} {ms : List Addr} {own nm text : String} {mybytes : ByteArray} {ml index n : Nat} {rt : Option FieldType} {g : JFrame}
/-- a constant that is booked at T', and whose address is older than this load, was held at the start -/
theorem own_heldZ {T' : State} {vm0 : Vm} {Ts : List String} {a : Addr} (hW : Z.Warmed39 T'.vm) (w : (Jvm.Cond.stringLink own index text).before a0 Z = true) (I : IB Z vm0 Ts) (hnot : text ∉ Ts) (lit : Lit T' own index a) (hHZ : ConstHeldL Z own index) {cO : ClassId} (hcO : Z.vm.findClass own = some cO)
    (hint : T'.vm.interned = vm0.interned ∨ ∃ (u : Array UInt16) (a' : Addr), T'.vm.interned = vm0.interned.push (u, a') ∧ a ≠ a') : ∃ units, SlOf Z a units := by
  obtain ⟨k, cf, i, units, hk, hcf, hp, hu, hnm, htext, -⟩ := Cond.stringLink_spec hcO w
  obtain ⟨k', hk', hke, -, ee, -⟩ := hW.2.2.2 cO k hk
  have hl : k'.resolved[index]? = some (some (.string a)) := by
    have q : T'.resolvedAt? own index = some (.string a) := lit
    have f : T'.vm.findClass own = some cO := by rw [hW.alike.findClass]; exact hcO
    simp only [State.resolvedAt?, f, hk', Option.bind_eq_bind, Option.bind_some] at q
    cases hr : k'.resolved[index]? with
    | none => simp [hr] at q
    | some y => cases y <;> simp [hr] at q; rw [q]
  have hfind : vm0.interned.find? (fun p => p.1 == units) = some (units, a) → Z.vm.interned.find? (fun p => p.1 == units) = some (units, a) := fun hf => by
    obtain ⟨more, e, hm⟩ := I
    rw [e, Array.find?_append] at hf
    cases hs : Z.vm.interned.find? (fun p => p.1 == units) with
    | some pr => rw [hs] at hf; simpa using hf
    | none =>
      rw [hs, Option.none_or] at hf
      obtain ⟨t, ht, hd⟩ := hm _ (Array.mem_of_find?_eq_some hf)
      cases htext.symm.trans hd
      exact absurd ht hnot
  rcases ee index with e0 | ⟨hop, r, e1, hr | ⟨a3, t, si, us, rfl, -, q3, q4, q5⟩⟩
  · exact ⟨units, hHZ cO k cf i units a hcO hk hcf hp hu (Or.inl (e0 ▸ hl))⟩
  · exfalso
    cases r <;> simp [State.rightAt, hk, hcf, hnm] at hr
  · rw [hcf] at q3 q4
    obtain rfl : si = i := by have := q3.symm.trans hp; simpa using this
    obtain rfl : us = units := by simpa [ConstantPool.utf8?, hu] using q4.symm
    obtain rfl : a3 = a := by have := e1.symm.trans hl; simpa using this
    refine ⟨us, hHZ cO k cf si us a3 hcO hk hcf hp hu (Or.inr ⟨hop, hfind ?_⟩)⟩
    rcases hint with q | ⟨u, a', q, hne⟩
    · rw [← q]; exact q5
    · rw [q, Array.find?_push] at q5
      cases hs : vm0.interned.find? (fun p => p.1 == us) with
      | some pr => rw [hs] at q5; simpa using q5
      | none =>
        rw [hs, Option.none_or] at q5
        split at q5
        · cases q5; exact absurd rfl hne
        · cases q5
theorem own_ldcV (Cc : Cx Z p b m meth c own mybytes ml nm rt) (hB : Bs s b h) (J : Hd Z ms b.vm h) (X : Stand p l e R b m args below meth c T locs cells slots) (hC : (own, index, text) ∈ litCs) (hD : ∀ q ∈ litCs, q.2.2 = text → q = (own, index, text))
    (w : (Jvm.Cond.stringLink own index text).before a0 Z = true) (wS : ∀ a ∈ Bundle.stringAtoms, a.before a0 Z = true) (hl : ∀ c ∈ text.toList, c.toNat < 256) (hsz : text.toList.length < 2147483648) (N : Fr s.heap.size locs) (hks : Ext Z.heap s.heap)
    (eT : T.heap = h) (hg : g.method = m) (hd : decode c.code g.pc = .ok (.ldc index, 2)) (hn : 4 * text.toList.length ≤ n) (hbig : n ≤ 536870912) (hc : cells + 2 ≤ R.cells) (hl' : slots + (n + 4) ≤ R.slots) :
    ∃ (a t : Addr) (k : ClassId) (b' T' : State) (h' : Heap), T'.heap = h' ∧ Cx Z p b' m meth c own mybytes ml nm rt ∧ Stand p l e R b' m args below meth c T' locs (cells + 2) (slots + (n + 4)) ∧ Bs s b' h' ∧ Hd Z ms b'.vm h' ∧ Ext h h' ∧ Says Z h' a t k text ∧ a ∉ ms ∧ t ∉ ms ∧ Lit b' own index a ∧ ∀ u, Steps p.tables e below (T'.setTop { g with pc := g.pc + 2, stack := .ref a :: g.stack }) u → Steps p.tables e below (T.setTop g) u := by
  obtain ⟨vm0, k0, rfl, hS, hk⟩ := hB
  obtain ⟨hx, hZ, hown, r⟩ := Cc
  obtain ⟨A, E, M, Ts, I, L⟩ := id J
  have hH : Jvm.Lit.constHeld Z own index := A.1 _ hC
  have hcw := A.2 a0
  rcases L _ hC with hnot | ⟨a, t, k, lit, says, n1, n2⟩
  · have wi : (Jvm.Cond.instantiable "java/lang/String" 4).before a0 Z = true := wS _ (by simp [Bundle.stringAtoms, Bundle.sN])
    have wa : (Jvm.Cond.arrayClass .byte).before a0 Z = true := wS _ (by simp [Bundle.stringAtoms])
    have hHZ : ConstHeldL Z own index := heldStart hH w hl hcw wa wi
    obtain ⟨a, T', X', hS', ⟨kk, hkk, hrr⟩, hb, hI1, hint, ⟨units, htext, hin⟩, st⟩ := X.ldcColdF (oldF X N) hx (own := own) hown (mvS hZ w) (fun d hd => by
      have q := wS d hd
      simp only [Bundle.stringAtoms, List.mem_cons, List.not_mem_nil, or_false] at hd
      rcases hd with rfl | rfl | rfl | rfl | rfl | rfl | rfl
      · exact mv (s := s.setVm vm0) hZ q
      · exact mv (s := s.setVm vm0) hZ q
      · exact mvA (s := s.setVm vm0) hZ q
      · exact mv (s := s.setVm vm0) hZ q
      · exact mv (s := s.setVm vm0) hZ q
      · exact mv (s := s.setVm vm0) hZ q
      · exact mv (s := s.setVm vm0) hZ q) (heldCarry hZ w I hnot hks.2 hHZ) (fun u hu => Jvm.ClassFile.lat_of_text hu hl) hg hd hn hbig hc hl'
    subst eT
    have E' := ext_of hb
    have hW : Z.Warmed39 T'.vm := State.Warmed39.trans (t := s.setVm vm0) hZ hS'.1
    have hTi : T.vm.interned = vm0.interned := X.warmed.interned_eq
    obtain ⟨t, k, says, hloc⟩ := slin_says hW.alike hin htext hl hsz
    have hf : T'.vm.findClass own = some m.cls := by rw [hS'.1.alike.findClass]; exact hown
    have lit : Lit (s.setVm T'.vm) own index a := by simp [Lit, State.resolvedAt?, hf, hkk, hrr]
    have EZ : Ext Z.heap T'.heap := ⟨Nat.le_trans E.1 E'.1, fun a c q => E'.2 a c (E.2 a c q)⟩
    have hap : (a < Z.heap.size ∧ t < Z.heap.size) ∨ (T.heap.size ≤ a ∧ T.heap.size ≤ t) := by
      rcases hloc with ⟨l1, l2⟩ | q
      · left
        have hcO : Z.vm.findClass own = some m.cls := by rw [← hW.alike.findClass]; exact hf
        have hsT : s.heap.size ≤ T.heap.size := X.same.2.1
        obtain ⟨us, q, cS, rfl, ⟨⟨s1, -, -, ⟨cv, kv, iv, s4, -⟩, -, -, -, s8, -, s10, -⟩, -⟩, -⟩ := own_heldZ (T' := T') hW w I hnot lit hHZ hcO (by
          rcases hI1.2 with q | ⟨u, a', q, q2, -⟩
          · exact Or.inl (q.trans hTi)
          · exact Or.inr ⟨u, a', by rw [q, hTi]; rfl, fun z => absurd l1 (Nat.not_lt.mpr (by rw [z]; exact Nat.le_trans hsT q2))⟩)
        obtain ⟨cell, cf, kf, i, f, f1, f2, -, -, -, -, f7⟩ := says.2.2.1
        cases (EZ.2 _ _ s1).symm.trans f1
        cases s4.symm.trans f2
        cases s8.symm.trans f7
        exact ⟨(Array.getElem?_eq_some_iff.mp s1).1, (Array.getElem?_eq_some_iff.mp s10).1⟩
      · exact Or.inr q
    have n1 : a ∉ ms := fun z => by
      obtain ⟨m1, m2⟩ := M a z
      rcases hap with ⟨h1, -⟩ | ⟨h1, -⟩
      · exact absurd h1 (Nat.not_lt.mpr m1)
      · exact absurd m2 (Nat.not_lt.mpr h1)
    have n2 : t ∉ ms := fun z => by
      obtain ⟨m1, m2⟩ := M t z
      rcases hap with ⟨-, h1⟩ | ⟨-, h1⟩
      · exact absurd h1 (Nat.not_lt.mpr m1)
      · exact absurd m2 (Nat.not_lt.mpr h1)
    refine ⟨a, t, k, s.setVm T'.vm, T', _, rfl, ⟨hx, hW, hf, r⟩, X', ⟨T'.vm, T'.heap.size, rfl, hS.trans hS' (Nat.le_trans hk E'.1), Nat.le_refl _⟩, ⟨A, EZ, fun y hy => ⟨(M y hy).1, Nat.lt_of_lt_of_le (M y hy).2 E'.1⟩, text :: Ts, I.step (by have q := hint; rw [hTi] at q; exact q), fun q hq => ?_⟩, E', says, n1, n2, lit, st⟩
    by_cases hqt : q.2.2 = text
    · obtain rfl := hD q hq hqt
      exact Or.inr ⟨a, t, k, lit, says, n1, n2⟩
    · rcases L q hq with h1 | ⟨a2, t2, k2, l2, s2, r2⟩
      · exact Or.inl (fun z => (List.mem_cons.mp z).elim hqt h1)
      · exact Or.inr ⟨a2, t2, k2, Lit.stays (s := s) (vm0 := vm0) l2 hS'.1, s2.ext E', r2⟩
  · exact ⟨a, t, k, s.setVm vm0, T, h, eT, ⟨hx, hZ, hown, r⟩, X.mono (by omega) (by omega), ⟨vm0, k0, rfl, hS, hk⟩, J, ⟨Nat.le_refl _, fun _ _ q => q⟩, says, n1, n2, lit, ldcAgain X hx hZ hown w lit hg hd⟩
/-- a second load in one walk -/
theorem own_ldcA {a : Addr} (Cc : Cx Z p b m meth c own mybytes ml nm rt) (X : Stand p l e R b m args below meth c T locs cells slots) (hB : Bs s b h) (w : (Jvm.Cond.stringLink own index text).before a0 Z = true) (lit : Lit b own index a) (hg : g.method = m) (hd : decode c.code g.pc = .ok (.ldc index, 2)) :
    ∀ u, Steps p.tables e below (T.setTop { g with pc := g.pc + 2, stack := .ref a :: g.stack }) u → Steps p.tables e below (T.setTop g) u := by
  obtain ⟨vm0, k0, rfl, hS, hk⟩ := hB
  exact ldcAgain X Cc.1 Cc.2.1 Cc.2.2.1 w lit hg hd
end OwnLdc

section OwnStr
abbrev lo8 (x : Int32) : Int32 := x.toInt8.toInt32
theorem oi_toInt {i : Nat} (h : i < 2147483648) : (Int32.ofNat i).toInt = i := Int32.toInt_ofNat_small h
theorem oi_nn {i : Nat} (h : i < 2147483648) : ¬ Int32.ofNat i < 0 := by
  rw [Int32.lt_iff_toInt_lt, oi_toInt h, Int32.toInt_zero]; omega
theorem oi_nat {i : Nat} (h : i < 2147483648) : (Int32.ofNat i).toNatClampNeg = i := by
  have q := nat_of (oi_nn h)
  rw [oi_toInt h] at q; omega
theorem oi_lt {i n : Nat} (hi : i < 2147483648) (hn : n < 2147483648) (q : i < n) : Int32.ofNat i < Int32.ofNat n := by
  rw [Int32.lt_iff_toInt_lt, oi_toInt hi, oi_toInt hn]; omega
theorem oi_nlt {i n : Nat} (hi : i < 2147483648) (hn : n < 2147483648) (q : ¬ i < n) : ¬ Int32.ofNat i < Int32.ofNat n := by
  rw [Int32.lt_iff_toInt_lt, oi_toInt hi, oi_toInt hn]; omega
theorem oi_succ {i : Nat} (h : i + 1 < 2147483648) : Int32.ofNat i + (1 : Int32) = Int32.ofNat (i + 1) := by
  have q := c_iadd (Int32.ofNat i) 1
  have r := rng32 (Int32.ofNat i + 1)
  rw [oi_toInt (by omega), show (1 : Int32).toInt = 1 from rfl] at q
  apply Int32.toInt_inj.mp
  rw [oi_toInt h]; omega
theorem nar_b (x : Int32) : nar .byte (lo8 x) = lo8 x := by
  have a := c_i2b x
  have b := c_i2b (x.toInt8.toInt32)
  apply Int32.toInt_inj.mp
  show (x.toInt8.toInt32.toInt8.toInt32).toInt = x.toInt8.toInt32.toInt
  omega
theorem fits_b (x : Int32) : fits .byte (.int (lo8 x)) = true := fits_nar_byte x
theorem c_rng {x : Int32} (h0 : ¬ x < 0) (h1 : ¬ 65535 < x) : 0 ≤ x.toInt ∧ x.toInt ≤ 65535 := by
  rw [Int32.lt_iff_toInt_lt] at h0 h1
  exact ⟨by simpa using h0, by simpa using h1⟩
theorem nar_c {x : Int32} (h0 : ¬ x < 0) (h1 : ¬ 65535 < x) : nar .char x = x := by
  have a := c_rng h0 h1
  have b := c_i2c x
  apply Int32.toInt_inj.mp
  show (x.toUInt32.toUInt16.toUInt32.toInt32).toInt = x.toInt
  omega
theorem fits_c {x : Int32} (h0 : ¬ x < 0) (h1 : ¬ 65535 < x) : fits .char (.int x) = true := by
  have q := fits_nar_char x
  rwa [nar_c h0 h1] at q
theorem le255 {x : Int32} (h1 : ¬ 255 < x) : ¬ 65535 < x := by
  rw [Int32.lt_iff_toInt_lt] at h1 ⊢
  have a : (255 : Int32).toInt = 255 := by decide
  have b : (65535 : Int32).toInt = 65535 := by decide
  omega
theorem chr8 (x : Int32) : ¬ (x &&& (255 : Int32)).toUInt32.toUInt16.toUInt32.toInt32 < 0 ∧ ¬ 255 < (x &&& (255 : Int32)).toUInt32.toUInt16.toUInt32.toInt32 := by
  rw [i2c_mask]
  have q := c_and x 255 (by decide)
  have a : (255 : Int32).toInt = 255 := by decide
  rw [Int32.lt_iff_toInt_lt, Int32.lt_iff_toInt_lt, Int32.toInt_zero]
  omega
theorem own_push {Z : State} {h h' : Heap} {a : Addr} {k : ClassId} {ty : FieldType} {z j : Int32} {vs : List Value} {v dv : Value} (V : Arv Z h a k ty z vs dv) (W : Wr h h' a j.toNatClampNeg v) (hj : j.toNatClampNeg = vs.length) (hv : fits ty v = true) : Arv Z h' a k ty z (vs ++ [v]) dv := by
  obtain ⟨c, A, q1, S, q3, H, G⟩ := V.pad (pad_rep vs dv 1)
  have q := Arv.set A q1 S q3 H G hv W vs.length hj (by simp)
  simpa [List.set_append] using q
theorem getD_int (cs : List Int32) (i : Nat) : (cs.map Value.int).getD i (.int 0) = .int (cs.getD i 0) := by
  simp only [List.getD_eq_getElem?_getD, List.getElem?_map]
  cases cs[i]? <;> rfl
theorem take_push (cs : List Int32) {i : Nat} (h : i < cs.length) (f : Int32 → Value) : (cs.take i).map f ++ [f (cs.getD i 0)] = (cs.take (i + 1)).map f := by
  rw [List.take_succ_eq_append_getElem h, List.map_append, List.getD_eq_getElem?_getD, List.getElem?_eq_getElem h]; rfl
theorem mem_getD {cs : List Int32} {i : Nat} (h : i < cs.length) : cs.getD i 0 ∈ cs := by
  rw [List.getD_eq_getElem?_getD, List.getElem?_eq_getElem h]; exact List.getElem_mem h
theorem oi_inj {a b : Nat} (ha : a < 2147483648) (hb : b < 2147483648) (q : Int32.ofNat a = Int32.ofNat b) : a = b := by
  have r := congrArg Int32.toInt q
  rw [oi_toInt ha, oi_toInt hb] at r; omega
theorem oi_nil {cs : List Int32} {n : Nat} (hn : cs.length ≤ n) (q : Int32.ofNat cs.length = 0) (hs : n < 2147483648 := by decide) : cs = [] := by
  have r := oi_inj (b := 0) (by omega) (by decide) q
  exact List.eq_nil_of_length_eq_zero r
theorem asB {Z : State} {h : Heap} {t : Addr} {k : ClassId} {cs : List Int32} {dv : Value} (q : Arv Z h t k .byte (Int32.ofNat cs.length) (cs.map fun x => Value.int (lo8 x)) dv) : Arv Z h t k .byte (Int32.ofNat (cs.map lo8).length) ((cs.map lo8).map Value.int) dv := by
  rw [List.length_map, List.map_map]; exact q
theorem teq_all {b1 b2 : List Int32} {i : Nat} (hl : b1.length = b2.length) (hi : i + 0 = b1.length) (h : b1.take i = b2.take i) : b1 = b2 := by
  have e : i = b1.length := by omega
  rw [e, List.take_length, hl, List.take_length] at h; exact h
theorem teq_step {b1 b2 : List Int32} {i : Nat} (h : b1.take i = b2.take i) (h1 : i < b1.length) (h2 : i < b2.length) (q : b1.getD i 0 = b2.getD i 0) : b1.take (i + 1) = b2.take (i + 1) := by
  rw [List.getD_eq_getElem?_getD, List.getD_eq_getElem?_getD, List.getElem?_eq_getElem h1, List.getElem?_eq_getElem h2] at q
  rw [List.take_succ_eq_append_getElem h1, List.take_succ_eq_append_getElem h2, h]
  exact congrArg (fun z => b2.take i ++ [z]) q
theorem nar_z {x : Int32} (h : x = 1 ∨ x = 0) : nar .boolean x = x := by rcases h with rfl | rfl <;> decide
theorem fits_z {x : Int32} (h : x = 1 ∨ x = 0) : fits .boolean (.int x) = true := by rcases h with rfl | rfl <;> decide
theorem and3 (x : Int32) : x &&& 3 = 0 ∨ x &&& 3 = 1 ∨ x &&& 3 = 2 ∨ x &&& 3 = 3 := by
  have q := c_and x 3 (by decide)
  have a : (3 : Int32).toInt = 3 := by decide
  have r : (x &&& 3).toInt = 0 ∨ (x &&& 3).toInt = 1 ∨ (x &&& 3).toInt = 2 ∨ (x &&& 3).toInt = 3 := by omega
  rcases r with r | r | r | r
  · exact Or.inl (Int32.toInt_inj.mp r)
  · exact Or.inr (Or.inl (Int32.toInt_inj.mp r))
  · exact Or.inr (Or.inr (Or.inl (Int32.toInt_inj.mp r)))
  · exact Or.inr (Or.inr (Or.inr (Int32.toInt_inj.mp r)))
theorem rem3 (x : Int32) : (x &&& 3) % 3 = 0 ∨ (x &&& 3) % 3 = 1 ∨ (x &&& 3) % 3 = 2 := by
  rcases and3 x with r | r | r | r <;> rw [r] <;> decide
theorem lo8_inj {x y : Int32} (hx : ¬ x < 0 ∧ ¬ 255 < x) (hy : ¬ y < 0 ∧ ¬ 255 < y) (h : lo8 x = lo8 y) : x = y := by
  obtain ⟨x0, x1⟩ := hx
  obtain ⟨y0, y1⟩ := hy
  have a : (255 : Int32).toInt = 255 := by decide
  rw [Int32.lt_iff_toInt_lt, Int32.toInt_zero] at x0 y0
  rw [Int32.lt_iff_toInt_lt] at x1 y1
  have q : x.toInt8.toInt32.toInt = y.toInt8.toInt32.toInt := congrArg Int32.toInt h
  have cx := c_i2b x
  have cy := c_i2b y
  apply Int32.toInt_inj.mp
  omega
theorem q_back {q : Int32} (h : ¬ q < 0) : Int32.ofNat q.toNatClampNeg = q := by
  have a := nat_of h
  have r := rng32 q
  apply Int32.toInt_inj.mp
  rw [oi_toInt (by omega), a]
theorem own_idx {j : Int32} {n : Nat} (h : ¬ (j < 0 ∨ n ≤ j.toNatClampNeg)) : j.toNatClampNeg.toInt32 = j := q_back (fun q => h (Or.inl q))
end OwnStr

theorem litI_nil : litI "" = [] := by decide +kernel
theorem asN {Z : State} {h : Heap} {t : Addr} {k : ClassId} {cs : List Int32} {dv : Value} (q : Arv Z h t k .byte (Int32.ofNat (litI "").length) ((litI "").map Value.int) dv) (e : cs = []) : Arv Z h t k .byte (Int32.ofNat (cs.map lo8).length) ((cs.map lo8).map Value.int) dv := by
  rw [litI_nil] at q; subst e; exact q
theorem own_compact {Z : State} {a1 a0 : Array Value} (q : (Jvm.Cond.not (Jvm.Cond.eq (Jvm.Term.static "java/lang/String" "COMPACT_STRINGS" "Z") (Jvm.Term.int 0))).before a1 Z = true) : Jvm.Lit.compactW.before a0 Z = true := q

theorem own_wS (Z : State) (a0 : Array Value) (hw : ∀ d ∈ tables_1, d.before a0 Z = true) : ∀ a ∈ Bundle.stringAtoms, a.before a0 Z = true := by
  intro a ha
  simp only [Bundle.stringAtoms, List.mem_cons, List.not_mem_nil, or_false] at ha
  rcases ha with rfl | rfl | rfl | rfl | rfl | rfl | rfl
  · exact (hw _ (List.mem_of_getElem? (i := 10) rfl))
  · exact (hw _ (List.mem_of_getElem? (i := 9) rfl))
  · exact (hw _ (List.mem_of_getElem? (i := 26) rfl))
  · exact (hw _ (List.mem_of_getElem? (i := 36) rfl))
  · exact (hw _ (List.mem_of_getElem? (i := 34) rfl))
  · exact (hw _ (List.mem_of_getElem? (i := 50) rfl))
  · exact (hw _ (List.mem_of_getElem? (i := 51) rfl))

theorem own_sh0 (x : Int32) : x >>> ((0 : Int32) &&& 31) = x := by
  rw [show ((0 : Int32) &&& 31) = 0 from by decide]; exact Int32.shiftRight_zero
theorem own_sl0 (x : Int32) : x <<< ((0 : Int32) &&& 31) = x := by
  rw [show ((0 : Int32) &&& 31) = 0 from by decide]; exact Int32.shiftLeft_zero
def chV (b : List Int32) (i : Int32) : Int32 := ((b.getD i.toNatClampNeg 0) &&& (255 : Int32)).toUInt32.toUInt16.toUInt32.toInt32
theorem own_c2 (x : Int32) : nar .char (x &&& (255 : Int32)).toUInt32.toUInt16.toUInt32.toInt32 = (x &&& (255 : Int32)).toUInt32.toUInt16.toUInt32.toInt32 := nar_c (chr8 x).1 (le255 (chr8 x).2)
theorem oi_add {a b : Nat} (h : a + b < 2147483648) : Int32.ofNat a + Int32.ofNat b = Int32.ofNat (a + b) := by
  have q := c_iadd (Int32.ofNat a) (Int32.ofNat b)
  have r := rng32 (Int32.ofNat a + Int32.ofNat b)
  rw [oi_toInt (by omega), oi_toInt (by omega)] at q
  apply Int32.toInt_inj.mp
  rw [oi_toInt h]; omega
theorem own_ens {j : Nat} (h : j ≤ 16) : ¬ (0 : Int32) < Int32.ofNat j - (16 : Int32) := by
  have q := c_isub (Int32.ofNat j) 16
  have r := rng32 (Int32.ofNat j - 16)
  rw [oi_toInt (by omega), show (16 : Int32).toInt = 16 from rfl] at q
  rw [Int32.lt_iff_toInt_lt, Int32.toInt_zero]; omega
theorem own_lt16 {j : Nat} (h : j < 16) : Int32.ofNat j < (16 : Int32) := by
  rw [Int32.lt_iff_toInt_lt, oi_toInt (by omega), show (16 : Int32).toInt = 16 from rfl]; omega
theorem own_ne16 {j : Nat} (h : j < 16) : ¬ Int32.ofNat j = (16 : Int32) := fun q => by
  have r := congrArg Int32.toInt q
  rw [oi_toInt (by omega), show (16 : Int32).toInt = 16 from rfl] at r; omega
theorem cp4 {n : Nat} {z : Int32} (hn : n < 2147483648) (h : n ≤ z.toNatClampNeg) : (0 : Int32).toNatClampNeg + (Int32.ofNat n).toNatClampNeg ≤ z.toNatClampNeg := by
  rw [oi_nat hn, show (0 : Int32).toNatClampNeg = 0 from rfl]; omega
theorem cp5 {a n : Nat} {z : Int32} (ha : a < 2147483648) (hn : n < 2147483648) (h : a + n ≤ z.toNatClampNeg) : (Int32.ofNat a).toNatClampNeg + (Int32.ofNat n).toNatClampNeg ≤ z.toNatClampNeg := by
  rw [oi_nat hn, oi_nat ha]; exact h
theorem cpu (cs : List Int32) (hn : cs.length < 2147483648) : cs.map Value.int = (List.range (Int32.ofNat cs.length).toNatClampNeg).map fun i => (cs.map Value.int).getD ((0 : Int32).toNatClampNeg + i) (.int 0) := by
  rw [oi_nat hn, show (0 : Int32).toNatClampNeg = 0 from rfl]
  refine List.ext_getElem (by simp) fun i h1 h2 => ?_
  have hi : i < cs.length := by simpa using h1
  simp [List.getD_eq_getElem?_getD, hi]
theorem cpl (bs cs : List Int32) (hb : bs.length < 2147483648) (hn : cs.length < 2147483648) : (Int32.ofNat bs.length).toNatClampNeg + (Int32.ofNat cs.length).toNatClampNeg ≤ (bs.map Value.int ++ List.replicate cs.length (Value.int 0)).length := by
  rw [oi_nat hn, oi_nat hb]; simp
theorem cp_res (bs cs : List Int32) (hb : bs.length < 2147483648) (hn : cs.length < 2147483648) : ((bs.map Value.int ++ List.replicate cs.length (Value.int 0)).take (Int32.ofNat bs.length).toNatClampNeg ++ cs.map Value.int ++ (bs.map Value.int ++ List.replicate cs.length (Value.int 0)).drop ((Int32.ofNat bs.length).toNatClampNeg + (Int32.ofNat cs.length).toNatClampNeg)) = (bs ++ cs).map Value.int := by
  rw [oi_nat hn, oi_nat hb]
  have e1 : (bs.map Value.int ++ List.replicate cs.length (Value.int 0)).take bs.length = bs.map Value.int := by
    rw [List.take_append_of_le_length (by simp)]; exact List.take_of_length_le (by simp)
  have e2 : (bs.map Value.int ++ List.replicate cs.length (Value.int 0)).drop (bs.length + cs.length) = [] := List.drop_of_length_le (by simp)
  rw [e1, e2, List.append_nil, List.map_append]
theorem own_isr {args : Array Value} {s : State} {t : Term} (h : (Jvm.Cond.isRef t).value args s none s [] = some true) : ∃ v : Value, (v = .null ∨ ∃ a, v = .ref a) ∧ t.eval args s none [] s = some v := by
  cases ha : t.eval args s none [] s with
  | none => simp [Cond.value, ha] at h
  | some x =>
    cases x <;> simp [Cond.value, ha] at h
    · exact ⟨_, Or.inl rfl, rfl⟩
    · exact ⟨_, Or.inr ⟨_, rfl⟩, rfl⟩

/-- invokedynamic at a linked site that takes in two references -/
theorem own_indy {p : Program} {l : Launch} {e : Env} {R : Room} {s : State} {m : MethodId} {args : Array Value} {below : List Frame} {meth : Method} {c : Code} {T : State} {locs : List Loc} {cells slots : Nat} {Z : State} {a0 : Array Value} {h : Heap} {y : MethodName} {pc index : Nat} {σ : Lambda.Shape} {t1 t2 : FieldType}
    (X : Stand p l e R s m args below meth c T locs cells slots) (hx : p.tables.exec = Jvm.exec) (hZ : Z.Warmed39 s.vm) (hm : s.methodNamed? y = some m) (w : (Jvm.Cond.lambdaSite y pc index σ).before a0 Z = true)
    (hσ : (((σ.file y.cls).bind (layoutFields · 0)).map (·.2.1) = some #[t1, t2] ∧ σ.captured = [t1, t2] ∧ t1.isReference = true) ∧ t2.isReference = true) (hO : (Jvm.Cond.instantiable "java/lang/Object" 0).before a0 Z = true) (eT : T.heap = h)
    {g : JFrame} (hg : g.method = m) (hsize : g.locals.size = c.maxLocals) (hd : decode c.code g.pc = .ok (.invokedynamic index, 5)) {a b : Addr} {rest : List Value} (hs : g.stack = .ref b :: .ref a :: rest) (hpc : g.pc = pc)
    (hw : 2 * g.monitorRoom + (g.stack.map fun v => v.category).sum + 3072 ≤ R.locals) (hc : cells + 1 ≤ R.cells) (hl : slots + 2 ≤ R.slots) :
    ∃ T' h', Stand p l e R s m args below meth c T' locs (cells + 1) (slots + 2) ∧ T'.heap = h' ∧ Ext h h' ∧ ∀ t, Steps p.tables e below (T'.setTop { g with pc := g.pc + 5, stack := .ref h.size :: rest }) t → Steps p.tables e below (T.setTop g) t := by
  obtain ⟨⟨hlay, hcap, r1⟩, r2⟩ := hσ
  obtain ⟨cK, one, hat⟩ := Cond.lambdaSite_spec w
  obtain ⟨m', kS, cfS, i0, p0, lk, hm', hkS, hcfS, hshape, -, hfind, hmade, hcan, hlk⟩ := State.lambdaAt?_spec hat
  have hmm : m' = m := by
    have q : s.methodNamed? y = Z.methodNamed? y := State.methodNamed?_setVm hZ.alike y
    rw [q, hm'] at hm
    exact Option.some.inj hm
  subst hmm
  obtain ⟨rfl, rfl, -⟩ : lk = .makes cK ∧ one = none ∧ σ.captured ≠ [] := by
    rcases hlk with ⟨a, cell, -, -, h, -⟩ | h
    · rw [hcap] at h; cases h
    · exact h
  obtain ⟨kS', hkS', hnameS⟩ := className_of_methodNamed hm'
  cases hkS.symm.trans hkS'
  obtain ⟨bsm, nt, desc, site, hcp, hnt, hsite, hpar⟩ := Lambda.shapeOf?_site hshape
  obtain ⟨kK, hkK, htyK, hkindK, hhid⟩ := Lambda.made_types hmade hkS hO (by rw [hnameS]; exact hlay)
  obtain ⟨kb, hkb, eb⟩ := hZ.alike.2.2 _ _ hkS
  obtain ⟨kc, hkc, ec⟩ := hZ.alike.2.2 _ _ hkK
  have hit : kc.instanceTypes = #[t1, t2] := by rw [ec]; exact htyK
  have hkc2 : kc.kind = .ordinary := by rw [ec]; exact hkindK
  have nr : ∀ {t : FieldType} {x : Addr}, t.isReference = true → narrow t (.ref x) = .ref x := fun {t x} r => by cases t <;> first | rfl | cases r
  have hsl : ((kc.instanceTypes.toList.zip [(.ref a : Value), .ref b]).map fun (t, v) => narrow t v) = [.ref a, .ref b] := by
    rw [hit]; simp [nr r1, nr r2]
  have fr : ∀ {t : FieldType} {x : Addr}, t.isReference = true → fits t (.ref x) = true := fun {t x} r => by cases t <;> first | rfl | cases r
  obtain ⟨X1, st⟩ := X.lambdaMakes hx hg hsize hd (vals := [.ref a, .ref b]) (rest := rest) hkb (by rw [eb, hpc]; exact hfind) (by rw [eb]; exact hcfS) hcp hnt (parseLong_of_parse hsite) (by rw [hpar, hcap]; rfl) hs hkc
    (by rw [X.admits.platform]; exact hw) hc (by rw [hsl]; exact hl)
    (fun i v hv => by
      rw [hsl] at hv
      match i, hv with
      | 0, hv => simp at hv; subst hv; simp [State.fitsSlot, State.slotType?, hkc, hkc2, hit, fr r1]
      | 1, hv => simp at hv; subst hv; simp [State.fitsSlot, State.slotType?, hkc, hkc2, hit, fr r2]
      | k + 2, hv => simp at hv)
  rw [hsl] at X1 st
  subst eT
  exact ⟨_, _, X1, rfl, ⟨by show T.heap.size ≤ (T.heap.push _).size; rw [Array.size_push]; omega, fun x c q => by show (T.heap.push _)[x]? = some c; rw [Array.getElem?_push, if_neg (Nat.ne_of_lt (Array.getElem?_eq_some_iff.mp q).1)]; exact q⟩, st⟩

def mkL (n x y : Int32) : List Int32 := if n = 0 then [] else if n = 1 then [x] else [x, y]
theorem mkL_len (n x y : Int32) : ((mkL n x y).map lo8).length < 2147483648 := by
  rw [List.length_map]
  by_cases h0 : n = 0
  · simp [mkL, h0]
  by_cases h1 : n = 1
  · simp [mkL, h1]
  simp [mkL, h0, h1]
theorem mkL_eq {n m x y u v : Int32} (hn : n = 0 ∨ n = 1 ∨ n = 2) (hm : m = 0 ∨ m = 1 ∨ m = 2) (hx : ¬ x < 0 ∧ ¬ 255 < x) (hy : ¬ y < 0 ∧ ¬ 255 < y) (hu : ¬ u < 0 ∧ ¬ 255 < u) (hv : ¬ v < 0 ∧ ¬ 255 < v) :
    (mkL m u v).map lo8 = (mkL n x y).map lo8 ↔ n = m ∧ (n < 1 ∨ x = u) ∧ (n < 2 ∨ y = v) := by
  have a : lo8 u = lo8 x ↔ x = u := ⟨fun q => (lo8_inj hu hx q).symm, fun q => by rw [q]⟩
  have b : lo8 v = lo8 y ↔ y = v := ⟨fun q => (lo8_inj hv hy q).symm, fun q => by rw [q]⟩
  rcases hn with rfl | rfl | rfl <;> rcases hm with rfl | rfl | rfl <;> simp only [mkL, if_true, if_false, reduceIte, List.map_cons, List.map_nil, List.cons.injEq, and_true, true_and, a, b, show (0 : Int32) < 1 by decide, show (0 : Int32) < 2 by decide, show (1 : Int32) < 2 by decide, show ¬ (1 : Int32) < 1 by decide, show ¬ (2 : Int32) < 1 by decide, show ¬ (2 : Int32) < 2 by decide, show (1 : Int32) ≠ 0 by decide, show (2 : Int32) ≠ 0 by decide, show (2 : Int32) ≠ 1 by decide, show (0 : Int32) ≠ 1 by decide, show (0 : Int32) ≠ 2 by decide, show (1 : Int32) ≠ 2 by decide, false_or, true_or, false_and, reduceCtorEq, and_false, iff_self]
theorem mkL_le (n x y : Int32) : ((mkL n x y).map lo8).length ≤ 2 := by
  rw [List.length_map]
  by_cases h0 : n = 0
  · simp [mkL, h0]
  by_cases h1 : n = 1
  · simp [mkL, h1]
  simp [mkL, h0, h1]
theorem and255 (x : Int32) : (x &&& 255).toInt = x.toInt % 256 := by
  have h1 : (x &&& 255).toBitVec.toNat = x.toBitVec.toNat % 256 := by
    show (x.toBitVec &&& (255 : Int32).toBitVec).toNat = _
    rw [BitVec.toNat_and, show (255 : Int32).toBitVec.toNat = 2 ^ 8 - 1 from by decide, Nat.and_two_pow_sub_one_eq_mod]
  have e1 := BitVec.toInt_eq_toNat_cond (x &&& 255).toBitVec
  have e2 := BitVec.toInt_eq_toNat_cond x.toBitVec
  have h2 := x.toBitVec.isLt
  show (x &&& 255).toBitVec.toInt = x.toBitVec.toInt % 256
  rw [e1, e2, h1]
  split <;> split <;> omega
theorem chr_lo8 {x : Int32} (h : ¬ x < 0 ∧ ¬ 255 < x) : (lo8 x &&& (255 : Int32)).toUInt32.toUInt16.toUInt32.toInt32 = x := by
  obtain ⟨x0, x1⟩ := h
  have a : (255 : Int32).toInt = 255 := by decide
  rw [Int32.lt_iff_toInt_lt, Int32.toInt_zero] at x0
  rw [Int32.lt_iff_toInt_lt] at x1
  rw [i2c_mask]
  have cx := c_i2b x
  have m : (x.toInt8.toInt32 &&& 255).toInt = x.toInt8.toInt32.toInt % 256 := and255 (lo8 x)
  apply Int32.toInt_inj.mp
  show (x.toInt8.toInt32 &&& 255).toInt = x.toInt
  omega
theorem mkL_len_eq {n x y : Int32} (hn : n = 0 ∨ n = 1 ∨ n = 2) : ((mkL n x y).map lo8).length = n.toNatClampNeg := by
  rw [List.length_map]
  rcases hn with rfl | rfl | rfl
  · simp only [mkL, if_true]; rfl
  · simp only [mkL, show ¬ (1 : Int32) = 0 by decide, if_false, if_true]; rfl
  · simp only [mkL, show ¬ (2 : Int32) = 0 by decide, show ¬ (2 : Int32) = 1 by decide, if_false]; rfl

theorem d7_3 : decode jdk_52_method_21_code 3 = .ok (.iload 5, 2) := by decide +kernel
theorem d7_5 : decode jdk_52_method_21_code 5 = .ok (.iload 4, 2) := by decide +kernel
theorem d7_7 : decode jdk_52_method_21_code 7 = .ok (.if_icmp .ge 37, 3) := by decide +kernel
theorem d7_44 : decode jdk_52_method_21_code 44 = .ok (.iload 4, 2) := by decide +kernel
theorem d7_46 : decode jdk_52_method_21_code 46 = .ok (.ireturn, 1) := by decide +kernel
theorem d7_10 : decode jdk_52_method_21_code 10 = .ok (.aload_n 0, 1) := by decide +kernel
theorem d7_11 : decode jdk_52_method_21_code 11 = .ok (.iload_n 1, 1) := by decide +kernel
theorem d7_12 : decode jdk_52_method_21_code 12 = .ok (.caload, 1) := by decide +kernel
theorem d7_13 : decode jdk_52_method_21_code 13 = .ok (.istore 6, 2) := by decide +kernel
theorem d7_15 : decode jdk_52_method_21_code 15 = .ok (.iload 6, 2) := by decide +kernel
theorem d7_17 : decode jdk_52_method_21_code 17 = .ok (.sipush 255, 3) := by decide +kernel
theorem d7_20 : decode jdk_52_method_21_code 20 = .ok (.if_icmp .le 6, 3) := by decide +kernel
theorem d7_26 : decode jdk_52_method_21_code 26 = .ok (.aload_n 2, 1) := by decide +kernel
theorem d7_27 : decode jdk_52_method_21_code 27 = .ok (.iload_n 3, 1) := by decide +kernel
theorem d7_28 : decode jdk_52_method_21_code 28 = .ok (.iload 6, 2) := by decide +kernel
theorem d7_30 : decode jdk_52_method_21_code 30 = .ok (.i2b, 1) := by decide +kernel
theorem d7_31 : decode jdk_52_method_21_code 31 = .ok (.bastore, 1) := by decide +kernel
theorem d7_32 : decode jdk_52_method_21_code 32 = .ok (.iinc 1 1, 3) := by decide +kernel
theorem d7_35 : decode jdk_52_method_21_code 35 = .ok (.iinc 3 1, 3) := by decide +kernel
theorem d7_38 : decode jdk_52_method_21_code 38 = .ok (.iinc 5 1, 3) := by decide +kernel
theorem d7_41 : decode jdk_52_method_21_code 41 = .ok (.goto (-38), 3) := by decide +kernel
theorem own_st6 {v0 v1 v2 v3 v4 v5 : Value} {s6 : Slot} {x : Int32} (h : One s6) : storeLocals #[.val v0, .val v1, .val v2, .val v3, .val v4, .val v5, s6] 6 (.int x) = some #[.val v0, .val v1, .val v2, .val v3, .val v4, .val v5, .val (.int x)] := by
  rcases h with rfl | ⟨w, rfl, hw⟩
  · rfl
  · cases w <;> first | rfl | (simp [Value.category] at hw)

set_option maxRecDepth 65536 in
set_option maxHeartbeats 40000000 in
theorem cloop {l : Launch} {Z : State} {p : Program} {e : Env} {R : Room} {s b : State} {m : MethodId} {args : Array Value} {below : List Frame} {meth : Method} {c : Code} {K N : Nat} {Q : Option Value → Vm → Heap → List Loc → Prop} {ms : List Addr} {h0 : Heap} {n0 nb : Nat} (Cc : Cx Z p b m meth c "java/lang/StringUTF16" jdk_52_method_21_code 7 "compress" (some .int)) (a1 a2 : Addr) (k1 k2 : ClassId) (cs : List Int32) (hn : cs.length ≤ 3) (hr : ∀ x ∈ cs, ¬ x < 0 ∧ ¬ 255 < x) (ne12 : a1 ≠ a2) (hb0 : n0 ≤ nb) (hnb : nb ≤ h0.size) (fr_a2 : nb ≤ a2) (hm_a2 : a2 ∈ ms)
    (hQ : ∀ vm h L, Keep h0 h [a2] → Fr nb L → Arv Z h a2 k2 .byte (Int32.ofNat cs.length) (cs.map fun x => Value.int (lo8 x)) (.int 0) → Q (some (.int (Int32.ofNat cs.length))) vm h L) :
    ∀ (r i : Nat), i + r = cs.length → ∀ (T : State) (h : Heap) (locs : List Loc) (cells slots : Nat) (s6 : Slot), One s6 → Stand p l e R b m args below meth c T locs cells slots → T.heap = h → Old Z n0 h → Fr nb locs → Keep h0 h [a2] → Hd Z ms b.vm h → Bs s b h → Arv Z h a1 k1 .char (Int32.ofNat cs.length) (cs.map Value.int) (.int 0) → Arv Z h a2 k2 .byte (Int32.ofNat cs.length) ((cs.take i).map fun x => Value.int (lo8 x)) (.int 0) → cells ≤ K → slots ≤ N →
      Go p e s below K N (Hd Z ms) Q T (mkF m 3 #[.val (.ref a1), .val (.int (Int32.ofNat i)), .val (.ref a2), .val (.int (Int32.ofNat i)), .val (.int (Int32.ofNat cs.length)), .val (.int (Int32.ofNat i)), s6] []) := by
  obtain ⟨hx, hZ, hown, hby, hml, hnm, hret, hlk⟩ := id Cc
  intro r
  induction r with
  | zero =>
    intro i hi T h locs cells slots s6 one6 X eT O0 N0 K0 J0 B0 V1 V2 hK hN
    show Go p e s below _ _ _ _ T (mkF m 3 #[.val (.ref a1), .val (.int (Int32.ofNat i)), .val (.ref a2), .val (.int (Int32.ofNat i)), .val (.int (Int32.ofNat cs.length)), .val (.int (Int32.ofNat i)), s6] [])
    refine Go.of (fun _ hr => XS.iload X.here hx rfl (hb hby d7_3) rfl  hr) ?_
    show Go p e s below _ _ _ _ T (mkF m 5 #[.val (.ref a1), .val (.int (Int32.ofNat i)), .val (.ref a2), .val (.int (Int32.ofNat i)), .val (.int (Int32.ofNat cs.length)), .val (.int (Int32.ofNat i)), s6] [(.int (Int32.ofNat i))])
    refine Go.of (fun _ hr => XS.iload X.here hx rfl (hb hby d7_5) rfl  hr) ?_
    show Go p e s below _ _ _ _ T (mkF m 7 #[.val (.ref a1), .val (.int (Int32.ofNat i)), .val (.ref a2), .val (.int (Int32.ofNat i)), .val (.int (Int32.ofNat cs.length)), .val (.int (Int32.ofNat i)), s6] [(.int (Int32.ofNat cs.length)), (.int (Int32.ofNat i))])
    refine Go.of (fun _ hr => XS.icmpYes X.here hx rfl (pc0 := 7) (pc' := 44) rfl (hb hby d7_7) rfl (flt (oi_nlt (by omega) (by omega) (by omega))).2.1 (by decide) (by decide) hr) ?_
    show Go p e s below _ _ _ _ T (mkF m 44 #[.val (.ref a1), .val (.int (Int32.ofNat i)), .val (.ref a2), .val (.int (Int32.ofNat i)), .val (.int (Int32.ofNat cs.length)), .val (.int (Int32.ofNat i)), s6] [])
    refine Go.of (fun _ hr => XS.iload X.here hx rfl (hb hby d7_44) rfl  hr) ?_
    show Go p e s below _ _ _ _ T (mkF m 46 #[.val (.ref a1), .val (.int (Int32.ofNat i)), .val (.ref a2), .val (.int (Int32.ofNat i)), .val (.int (Int32.ofNat cs.length)), .val (.int (Int32.ofNat i)), s6] [(.int (Int32.ofNat cs.length))])
    exact Go.retI X hx hlk B0 J0 eT hret (hb hby d7_46) (by omega) (by omega) (fun _ _ => hQ _ _ _ K0 N0 (by have q := V2; rw [show i = cs.length by omega, List.take_length] at q; exact q))
  | succ r ih =>
    intro i hi T h locs cells slots s6 one6 X eT O0 N0 K0 J0 B0 V1 V2 hK hN
    show Go p e s below _ _ _ _ T (mkF m 3 #[.val (.ref a1), .val (.int (Int32.ofNat i)), .val (.ref a2), .val (.int (Int32.ofNat i)), .val (.int (Int32.ofNat cs.length)), .val (.int (Int32.ofNat i)), s6] [])
    refine Go.of (fun _ hr => XS.iload X.here hx rfl (hb hby d7_3) rfl  hr) ?_
    show Go p e s below _ _ _ _ T (mkF m 5 #[.val (.ref a1), .val (.int (Int32.ofNat i)), .val (.ref a2), .val (.int (Int32.ofNat i)), .val (.int (Int32.ofNat cs.length)), .val (.int (Int32.ofNat i)), s6] [(.int (Int32.ofNat i))])
    refine Go.of (fun _ hr => XS.iload X.here hx rfl (hb hby d7_5) rfl  hr) ?_
    show Go p e s below _ _ _ _ T (mkF m 7 #[.val (.ref a1), .val (.int (Int32.ofNat i)), .val (.ref a2), .val (.int (Int32.ofNat i)), .val (.int (Int32.ofNat cs.length)), .val (.int (Int32.ofNat i)), s6] [(.int (Int32.ofNat cs.length)), (.int (Int32.ofNat i))])
    refine Go.of (fun _ hr => XS.icmpNo X.here hx rfl (hb hby d7_7) rfl (tlt (oi_lt (by omega) (by omega) (by omega))).2.1 hr) ?_
    show Go p e s below _ _ _ _ T (mkF m 10 #[.val (.ref a1), .val (.int (Int32.ofNat i)), .val (.ref a2), .val (.int (Int32.ofNat i)), .val (.int (Int32.ofNat cs.length)), .val (.int (Int32.ofNat i)), s6] [])
    refine Go.of (fun _ hr => XS.aloadN X.here hx rfl (hb hby d7_10) rfl rfl hr) ?_
    show Go p e s below _ _ _ _ T (mkF m 11 #[.val (.ref a1), .val (.int (Int32.ofNat i)), .val (.ref a2), .val (.int (Int32.ofNat i)), .val (.int (Int32.ofNat cs.length)), .val (.int (Int32.ofNat i)), s6] [(.ref a1)])
    refine Go.of (fun _ hr => XS.iloadN X.here hx rfl (hb hby d7_11) rfl  hr) ?_
    show Go p e s below _ _ _ _ T (mkF m 12 #[.val (.ref a1), .val (.int (Int32.ofNat i)), .val (.ref a2), .val (.int (Int32.ofNat i)), .val (.int (Int32.ofNat cs.length)), .val (.int (Int32.ofNat i)), s6] [(.int (Int32.ofNat i)), (.ref a1)])
    obtain ⟨x, hxe⟩ : ∃ x, cs.getD i 0 = x := ⟨_, rfl⟩
    have hxr := hr _ (hxe ▸ mem_getD (show i < cs.length by omega))
    obtain ⟨cl101, Ar101, q101, S101, N101_, H101, G101⟩ := id V1
    have hin101 : ¬ ((Int32.ofNat i) < 0 ∨ cl101.slots.size ≤ ((Int32.ofNat i)).toNatClampNeg) := inb_of S101 ⟨oi_nn (by omega), oi_lt (by omega) (by omega) (by omega)⟩
    refine Go.of (fun _ hr => X.caload hx (j := (Int32.ofNat i)) (v := (.int x)) (by rw [eT]; exact Ar101.1) (State.isArrayOf_alike hZ.alike Ar101.2.1) Ar101.2.2 hin101 (H101.at hin101 (by rw [oi_nat (by omega), getD_int, hxe])) (g := (mkF m 12 #[.val (.ref a1), .val (.int (Int32.ofNat i)), .val (.ref a2), .val (.int (Int32.ofNat i)), .val (.int (Int32.ofNat cs.length)), .val (.int (Int32.ofNat i)), s6] [(.int (Int32.ofNat i)), (.ref a1)])) rfl rfl (hb hby d7_12) _ hr) ?_
    show Go p e s below _ _ _ _ T (mkF m 13 #[.val (.ref a1), .val (.int (Int32.ofNat i)), .val (.ref a2), .val (.int (Int32.ofNat i)), .val (.int (Int32.ofNat cs.length)), .val (.int (Int32.ofNat i)), s6] [(.int x)])
    refine Go.of (fun _ hr => XS.istore X.here hx rfl (hb hby d7_13) rfl (l' := #[.val (.ref a1), .val (.int (Int32.ofNat i)), .val (.ref a2), .val (.int (Int32.ofNat i)), .val (.int (Int32.ofNat cs.length)), .val (.int (Int32.ofNat i)), .val (.int x)]) (own_st6 one6) hr) ?_
    show Go p e s below _ _ _ _ T (mkF m 15 #[.val (.ref a1), .val (.int (Int32.ofNat i)), .val (.ref a2), .val (.int (Int32.ofNat i)), .val (.int (Int32.ofNat cs.length)), .val (.int (Int32.ofNat i)), .val (.int x)] [])
    refine Go.of (fun _ hr => XS.iload X.here hx rfl (hb hby d7_15) rfl  hr) ?_
    show Go p e s below _ _ _ _ T (mkF m 17 #[.val (.ref a1), .val (.int (Int32.ofNat i)), .val (.ref a2), .val (.int (Int32.ofNat i)), .val (.int (Int32.ofNat cs.length)), .val (.int (Int32.ofNat i)), .val (.int x)] [(.int x)])
    refine Go.of (fun _ hr => XS.sipush X.here hx rfl (hb hby d7_17) hr) ?_
    show Go p e s below _ _ _ _ T (mkF m 20 #[.val (.ref a1), .val (.int (Int32.ofNat i)), .val (.ref a2), .val (.int (Int32.ofNat i)), .val (.int (Int32.ofNat cs.length)), .val (.int (Int32.ofNat i)), .val (.int x)] [(.int (255 : Int32)), (.int x)])
    refine Go.of (fun _ hr => XS.icmpYes X.here hx rfl (pc0 := 20) (pc' := 26) rfl (hb hby d7_20) rfl (flt hxr.2).2.2.2 (by decide) (by decide) hr) ?_
    show Go p e s below _ _ _ _ T (mkF m 26 #[.val (.ref a1), .val (.int (Int32.ofNat i)), .val (.ref a2), .val (.int (Int32.ofNat i)), .val (.int (Int32.ofNat cs.length)), .val (.int (Int32.ofNat i)), .val (.int x)] [])
    refine Go.of (fun _ hr => XS.aloadN X.here hx rfl (hb hby d7_26) rfl rfl hr) ?_
    show Go p e s below _ _ _ _ T (mkF m 27 #[.val (.ref a1), .val (.int (Int32.ofNat i)), .val (.ref a2), .val (.int (Int32.ofNat i)), .val (.int (Int32.ofNat cs.length)), .val (.int (Int32.ofNat i)), .val (.int x)] [(.ref a2)])
    refine Go.of (fun _ hr => XS.iloadN X.here hx rfl (hb hby d7_27) rfl  hr) ?_
    show Go p e s below _ _ _ _ T (mkF m 28 #[.val (.ref a1), .val (.int (Int32.ofNat i)), .val (.ref a2), .val (.int (Int32.ofNat i)), .val (.int (Int32.ofNat cs.length)), .val (.int (Int32.ofNat i)), .val (.int x)] [(.int (Int32.ofNat i)), (.ref a2)])
    refine Go.of (fun _ hr => XS.iload X.here hx rfl (hb hby d7_28) rfl  hr) ?_
    show Go p e s below _ _ _ _ T (mkF m 30 #[.val (.ref a1), .val (.int (Int32.ofNat i)), .val (.ref a2), .val (.int (Int32.ofNat i)), .val (.int (Int32.ofNat cs.length)), .val (.int (Int32.ofNat i)), .val (.int x)] [(.int x), (.int (Int32.ofNat i)), (.ref a2)])
    refine Go.of (fun _ hr => XS.i2b X.here hx rfl (hb hby d7_30) rfl hr) ?_
    show Go p e s below _ _ _ _ T (mkF m 31 #[.val (.ref a1), .val (.int (Int32.ofNat i)), .val (.ref a2), .val (.int (Int32.ofNat i)), .val (.int (Int32.ofNat cs.length)), .val (.int (Int32.ofNat i)), .val (.int x)] [(.int (x.toInt8.toInt32)), (.int (Int32.ofNat i)), (.ref a2)])
    obtain ⟨cl102, Ar102, q102, S102, N102_, H102, G102⟩ := id V2
    have hin102 : ¬ (Int32.ofNat i < 0 ∨ cl102.slots.size ≤ (Int32.ofNat i).toNatClampNeg) := inb_of S102 ⟨oi_nn (by omega), oi_lt (by omega) (by omega) (by omega)⟩
    obtain ⟨T102, h102, X102, e102, W102, st102⟩ := stB X hx hZ eT Ar102 (j := Int32.ofNat i) hin102 (g := (mkF m 31 #[.val (.ref a1), .val (.int (Int32.ofNat i)), .val (.ref a2), .val (.int (Int32.ofNat i)), .val (.int (Int32.ofNat cs.length)), .val (.int (Int32.ofNat i)), .val (.int x)] [(.int (x.toInt8.toInt32)), (.int (Int32.ofNat i)), (.ref a2)])) rfl rfl (hb hby d7_31)
    rw [nar_b] at W102
    have V102 : Arv Z h102 a2 k2 .byte (Int32.ofNat cs.length) ((cs.take (i + 1)).map fun x => Value.int (lo8 x)) (.int 0) := by
        have q := own_push V2 W102 (by rw [oi_nat (by omega)]; simp; omega) (fits_b x)
        rw [← hxe, take_push cs (show i < cs.length by omega) (fun x => Value.int (lo8 x))] at q; exact q
    have N102 := Fr.snoc X102 N0 fr_a2
    have J102 := J0.wr W102 hm_a2
    have B102 := B0.mono (Nat.le_of_eq W102.size.symm)
    have O102 := O0.wr W102 (Nat.le_trans hb0 fr_a2)
    have K102 := K0.wr W102 (Or.inl (List.mem_of_getElem? (i := 0) rfl))
    refine Go.of (fun _ hr => st102 _ hr) ?_
    show Go p e s below _ _ _ _ T102 (mkF m 32 #[.val (.ref a1), .val (.int (Int32.ofNat i)), .val (.ref a2), .val (.int (Int32.ofNat i)), .val (.int (Int32.ofNat cs.length)), .val (.int (Int32.ofNat i)), .val (.int x)] [])
    refine Go.of (fun _ hr => XS.iinc X102.here hx rfl (hb hby d7_32) rfl (l' := #[.val (.ref a1), .val (.int ((Int32.ofNat i) + (1 : Int32))), .val (.ref a2), .val (.int (Int32.ofNat i)), .val (.int (Int32.ofNat cs.length)), .val (.int (Int32.ofNat i)), .val (.int x)]) rfl hr) ?_
    show Go p e s below _ _ _ _ T102 (mkF m 35 #[.val (.ref a1), .val (.int ((Int32.ofNat i) + (1 : Int32))), .val (.ref a2), .val (.int (Int32.ofNat i)), .val (.int (Int32.ofNat cs.length)), .val (.int (Int32.ofNat i)), .val (.int x)] [])
    refine Go.of (fun _ hr => XS.iinc X102.here hx rfl (hb hby d7_35) rfl (l' := #[.val (.ref a1), .val (.int ((Int32.ofNat i) + (1 : Int32))), .val (.ref a2), .val (.int ((Int32.ofNat i) + (1 : Int32))), .val (.int (Int32.ofNat cs.length)), .val (.int (Int32.ofNat i)), .val (.int x)]) rfl hr) ?_
    show Go p e s below _ _ _ _ T102 (mkF m 38 #[.val (.ref a1), .val (.int ((Int32.ofNat i) + (1 : Int32))), .val (.ref a2), .val (.int ((Int32.ofNat i) + (1 : Int32))), .val (.int (Int32.ofNat cs.length)), .val (.int (Int32.ofNat i)), .val (.int x)] [])
    refine Go.of (fun _ hr => XS.iinc X102.here hx rfl (hb hby d7_38) rfl (l' := #[.val (.ref a1), .val (.int ((Int32.ofNat i) + (1 : Int32))), .val (.ref a2), .val (.int ((Int32.ofNat i) + (1 : Int32))), .val (.int (Int32.ofNat cs.length)), .val (.int ((Int32.ofNat i) + (1 : Int32))), .val (.int x)]) rfl hr) ?_
    show Go p e s below _ _ _ _ T102 (mkF m 41 #[.val (.ref a1), .val (.int ((Int32.ofNat i) + (1 : Int32))), .val (.ref a2), .val (.int ((Int32.ofNat i) + (1 : Int32))), .val (.int (Int32.ofNat cs.length)), .val (.int ((Int32.ofNat i) + (1 : Int32))), .val (.int x)] [])
    refine Go.of (fun _ hr => XS.goto X102.here hx rfl (pc0 := 41) (pc' := 3) rfl (hb hby d7_41) (by decide) (by decide) hr) ?_
    show Go p e s below _ _ _ _ T102 (mkF m 3 #[.val (.ref a1), .val (.int ((Int32.ofNat i) + (1 : Int32))), .val (.ref a2), .val (.int ((Int32.ofNat i) + (1 : Int32))), .val (.int (Int32.ofNat cs.length)), .val (.int ((Int32.ofNat i) + (1 : Int32))), .val (.int x)] [])
    simp only [oi_succ (show i + 1 < 2147483648 by omega)]
    have f103 := (V1.other W102 ne12)
    exact ih (i + 1) (by omega) T102 h102 _ _ _ _ (One.val rfl) X102 e102 O102 N102 K102 J102 B102 f103 V102 hK hN

theorem pn0 : plainName "java/lang/StringUTF16" = true := by first | (simp [plainName, overriddenIn]; done) | decide +kernel
theorem d7_0 : decode jdk_52_method_21_code 0 = .ok (.iconst 0, 1) := by decide +kernel
theorem d7_1 : decode jdk_52_method_21_code 1 = .ok (.istore 5, 2) := by decide +kernel
set_option maxRecDepth 65536 in
set_option maxHeartbeats 40000000 in
theorem rm7 (l : Launch) (Z : State) (a0 : Array Value) (hw : ∀ d ∈ tables_1, d.before a0 Z = true) (ws : List Jvm.Cond) (a1 a2 : Addr) (k1 k2 : ClassId) (cs : List Int32) (ms : List Addr) (h0 : Heap) (n0 : Nat) (O0 : Old Z n0 h0) (nb : Nat) (hb0 : n0 ≤ nb) (hnb : nb ≤ h0.size) (fr_a2 : nb ≤ a2) (hm_a2 : a2 ∈ ms) (hn : cs.length ≤ 3) (hr : ∀ x ∈ cs, ¬ x < 0 ∧ ¬ 255 < x) (ne12 : a1 ≠ a2) (V1 : Arv Z h0 a1 k1 .char (Int32.ofNat cs.length) (cs.map Value.int) (.int 0)) (V2 : Arv Z h0 a2 k2 .byte (Int32.ofNat cs.length) [] (.int 0)) :
    Con l Z ms (⟨"java/lang/StringUTF16", "compress", "([CI[BII)I"⟩ : MethodName) jdk_52_method_21_code 7 (some .int) ws ({ frames := 0, cells := 0, slots := 0, locals := 0 } : Room) #[(.ref a1), (.int (0 : Int32)), (.ref a2), (.int (0 : Int32)), (.int (Int32.ofNat cs.length))] h0 (fun v vm h L => v = some (.int (Int32.ofNat cs.length)) ∧ Fr nb L ∧ Keep h0 h [a2] ∧ Arv Z h a2 k2 .byte (Int32.ofNat cs.length) (cs.map fun x => Value.int (lo8 x)) (.int 0)) := by
  refine Con.mk (plainFor_of_name pn0) ?_
  intro p e s m below meth c s₁ Cc X0 e0 eb J0 B0 M0
  obtain ⟨hx, hZ, hown, hby, hml, hnm, hret, hlk⟩ := id Cc
  have N0 := Fr.nil nb
  have K0 := Keep.refl h0 [a2]
  show Go p e s below _ _ _ _ s₁ (mkF m 0 #[.val (.ref a1), .val (.int (0 : Int32)), .val (.ref a2), .val (.int (0 : Int32)), .val (.int (Int32.ofNat cs.length)), .unset, .unset] [])
  refine Go.of (fun _ hr => XS.iconst X0.here hx rfl (hb hby d7_0) hr) ?_
  show Go p e s below _ _ _ _ s₁ (mkF m 1 #[.val (.ref a1), .val (.int (0 : Int32)), .val (.ref a2), .val (.int (0 : Int32)), .val (.int (Int32.ofNat cs.length)), .unset, .unset] [(.int (0 : Int32))])
  refine Go.of (fun _ hr => XS.istore X0.here hx rfl (hb hby d7_1) rfl (l' := #[.val (.ref a1), .val (.int (0 : Int32)), .val (.ref a2), .val (.int (0 : Int32)), .val (.int (Int32.ofNat cs.length)), .val (.int (0 : Int32)), .unset]) rfl hr) ?_
  show Go p e s below _ _ _ _ s₁ (mkF m 3 #[.val (.ref a1), .val (.int (0 : Int32)), .val (.ref a2), .val (.int (0 : Int32)), .val (.int (Int32.ofNat cs.length)), .val (.int (0 : Int32)), .unset] [])
  exact cloop Cc a1 a2 k1 k2 cs hn hr ne12 hb0 hnb fr_a2 hm_a2 (fun vm h L q1 q2 q3 => ⟨rfl, q2, q1, q3⟩) cs.length 0 (Nat.zero_add _) s₁ h0 _ _ _ _ One.u X0 e0 O0 N0 K0 J0 B0 V1 V2 (by decide) (by decide)

theorem d6_0 : decode jdk_52_method_16_code 0 = .ok (.iload_n 2, 1) := by decide +kernel
theorem d6_1 : decode jdk_52_method_16_code 1 = .ok (.newarray .byte, 2) := by decide +kernel
theorem d6_3 : decode jdk_52_method_16_code 3 = .ok (.astore_n 3, 1) := by decide +kernel
theorem d6_4 : decode jdk_52_method_16_code 4 = .ok (.aload_n 0, 1) := by decide +kernel
theorem d6_5 : decode jdk_52_method_16_code 5 = .ok (.iload_n 1, 1) := by decide +kernel
theorem d6_6 : decode jdk_52_method_16_code 6 = .ok (.aload_n 3, 1) := by decide +kernel
theorem d6_7 : decode jdk_52_method_16_code 7 = .ok (.iconst 0, 1) := by decide +kernel
theorem d6_8 : decode jdk_52_method_16_code 8 = .ok (.iload_n 2, 1) := by decide +kernel
theorem d6_9 : decode jdk_52_method_16_code 9 = .ok (.invokestatic 115, 3) := by decide +kernel
theorem pd0 : parseMethodDescriptor "([CI[BII)I" = some ⟨[(.array .char), .int, (.array .byte), .int, .int], some .int⟩ := by decide +kernel
theorem d6_12 : decode jdk_52_method_16_code 12 = .ok (.istore 4, 2) := by decide +kernel
theorem d6_14 : decode jdk_52_method_16_code 14 = .ok (.iload 4, 2) := by decide +kernel
theorem d6_16 : decode jdk_52_method_16_code 16 = .ok (.iload_n 2, 1) := by decide +kernel
theorem d6_17 : decode jdk_52_method_16_code 17 = .ok (.if_icmp .eq 40, 3) := by decide +kernel
theorem d6_57 : decode jdk_52_method_16_code 57 = .ok (.aload_n 3, 1) := by decide +kernel
theorem d6_58 : decode jdk_52_method_16_code 58 = .ok (.areturn, 1) := by decide +kernel
set_option maxRecDepth 65536 in
set_option maxHeartbeats 40000000 in
theorem rm6 (l : Launch) (Z : State) (a0 : Array Value) (hw : ∀ d ∈ tables_1, d.before a0 Z = true) (ws : List Jvm.Cond) (a1 : Addr) (k1 : ClassId) (cs : List Int32) (ms : List Addr) (h0 : Heap) (n0 : Nat) (O0 : Old Z n0 h0) (nb : Nat) (hb0 : n0 ≤ nb) (hnb : nb ≤ h0.size) (hn : cs.length ≤ 3) (hr : ∀ x ∈ cs, ¬ x < 0 ∧ ¬ 255 < x) (V1 : Arv Z h0 a1 k1 .char (Int32.ofNat cs.length) (cs.map Value.int) (.int 0)) :
    Con l Z ms (⟨"java/lang/StringUTF16", "compress", "([CII)[B"⟩ : MethodName) jdk_52_method_16_code 6 (some (.array .byte)) ws ({ frames := 1, cells := 1, slots := 3, locals := 18 } : Room) #[(.ref a1), (.int (0 : Int32)), (.int (Int32.ofNat cs.length))] h0 (fun v vm h L => ∃ d k, v = some (.ref d) ∧ Fr nb L ∧ Ext h0 h ∧ h0.size ≤ d ∧ Arv Z h d k .byte (Int32.ofNat cs.length) (cs.map fun x => Value.int (lo8 x)) (.int 0)) := by
  refine Con.mk (plainFor_of_name pn0) ?_
  intro p e s m below meth c s₁ Cc X0 e0 eb J0 B0 M0
  obtain ⟨hx, hZ, hown, hby, hml, hnm, hret, hlk⟩ := id Cc
  have N0 := Fr.nil h0.size
  have K0 := Keep.refl h0 []
  show Go p e s below _ _ _ _ s₁ (mkF m 0 #[.val (.ref a1), .val (.int (0 : Int32)), .val (.int (Int32.ofNat cs.length)), .unset, .unset, .unset] [])
  refine Go.of (fun _ hr => XS.iloadN X0.here hx rfl (hb hby d6_0) rfl  hr) ?_
  show Go p e s below _ _ _ _ s₁ (mkF m 1 #[.val (.ref a1), .val (.int (0 : Int32)), .val (.int (Int32.ofNat cs.length)), .unset, .unset, .unset] [(.int (Int32.ofNat cs.length))])
  obtain ⟨T101, h101, k101, X101, e101, E101, A101, st101⟩ := newP X0 hx hZ (hw _ (List.mem_of_getElem? (i := 26) rfl)) e0 (g := (mkF m 1 #[.val (.ref a1), .val (.int (0 : Int32)), .val (.int (Int32.ofNat cs.length)), .unset, .unset, .unset] [(.int (Int32.ofNat cs.length))])) rfl (hb hby d6_1) rfl (oi_nn (by omega)) (cap := 3) (by rw [oi_nat (by omega)]; exact hn) (by decide) (by decide) (by decide)
  obtain ⟨o101, g101⟩ : ∃ z, z = h0.size := ⟨_, rfl⟩
  rw [← g101] at A101 st101
  have ne_a1_o101 : a1 ≠ o101 := Nat.ne_of_lt (Nat.lt_of_lt_of_le V1.lt (Nat.le_of_eq g101.symm))
  have V101 := Arv.new A101 (oi_nn (by omega))
  have lt101 : o101 < h101.size := A101.lt
  have J101 := J0.add E101 g101 lt101
  have B101 := B0.mono E101.1
  have O101 := O0.ext E101
  have sz101 : h0.size ≤ o101 := Nat.le_trans K0.1 (Nat.le_of_eq g101.symm)
  have fr101 : h0.size ≤ o101 := sz101
  have K101 := K0.ext E101
  refine Go.of (fun _ hr => st101 _ hr) ?_
  show Go p e s below _ _ _ _ T101 (mkF m 3 #[.val (.ref a1), .val (.int (0 : Int32)), .val (.int (Int32.ofNat cs.length)), .unset, .unset, .unset] [(.ref o101)])
  refine Go.of (fun _ hr => XS.astoreN X101.here hx rfl (hb hby d6_3) rfl rfl (l' := #[.val (.ref a1), .val (.int (0 : Int32)), .val (.int (Int32.ofNat cs.length)), .val (.ref o101), .unset, .unset]) rfl hr) ?_
  show Go p e s below _ _ _ _ T101 (mkF m 4 #[.val (.ref a1), .val (.int (0 : Int32)), .val (.int (Int32.ofNat cs.length)), .val (.ref o101), .unset, .unset] [])
  refine Go.of (fun _ hr => XS.aloadN X101.here hx rfl (hb hby d6_4) rfl rfl hr) ?_
  show Go p e s below _ _ _ _ T101 (mkF m 5 #[.val (.ref a1), .val (.int (0 : Int32)), .val (.int (Int32.ofNat cs.length)), .val (.ref o101), .unset, .unset] [(.ref a1)])
  refine Go.of (fun _ hr => XS.iloadN X101.here hx rfl (hb hby d6_5) rfl  hr) ?_
  show Go p e s below _ _ _ _ T101 (mkF m 6 #[.val (.ref a1), .val (.int (0 : Int32)), .val (.int (Int32.ofNat cs.length)), .val (.ref o101), .unset, .unset] [(.int (0 : Int32)), (.ref a1)])
  refine Go.of (fun _ hr => XS.aloadN X101.here hx rfl (hb hby d6_6) rfl rfl hr) ?_
  show Go p e s below _ _ _ _ T101 (mkF m 7 #[.val (.ref a1), .val (.int (0 : Int32)), .val (.int (Int32.ofNat cs.length)), .val (.ref o101), .unset, .unset] [(.ref o101), (.int (0 : Int32)), (.ref a1)])
  refine Go.of (fun _ hr => XS.iconst X101.here hx rfl (hb hby d6_7) hr) ?_
  show Go p e s below _ _ _ _ T101 (mkF m 8 #[.val (.ref a1), .val (.int (0 : Int32)), .val (.int (Int32.ofNat cs.length)), .val (.ref o101), .unset, .unset] [(.int (0 : Int32)), (.ref o101), (.int (0 : Int32)), (.ref a1)])
  refine Go.of (fun _ hr => XS.iloadN X101.here hx rfl (hb hby d6_8) rfl  hr) ?_
  show Go p e s below _ _ _ _ T101 (mkF m 9 #[.val (.ref a1), .val (.int (0 : Int32)), .val (.int (Int32.ofNat cs.length)), .val (.ref o101), .unset, .unset] [(.int (Int32.ofNat cs.length)), (.int (0 : Int32)), (.ref o101), (.int (0 : Int32)), (.ref a1)])
  have f103 := (V1.ext E101)
  obtain ⟨_, b102, T102, h102, L102, e102, Cc102, X102, B102, J102, g102, hQ102, st102⟩ := own_callS Cc B101 J101 X101 (hw _ (List.mem_of_getElem? (i := 27) rfl)) (hw _ (List.mem_of_getElem? (i := 28) rfl)) (hw _ (List.mem_of_getElem? (i := 24) rfl)) (hw _ (List.mem_of_getElem? (i := 29) rfl)) (by decide) (rm7 l Z a0 hw [] a1 o101 _ _ cs _ h101 n0 O101 h0.size (own_ole O0) K101.1 fr101 (List.mem_cons_self ..) hn hr ne_a1_o101 f103 V101) e101 (g := (mkF m 9 #[.val (.ref a1), .val (.int (0 : Int32)), .val (.int (Int32.ofNat cs.length)), .val (.ref o101), .unset, .unset] [(.int (Int32.ofNat cs.length)), (.int (0 : Int32)), (.ref o101), (.int (0 : Int32)), (.ref a1)])) rfl (by rw [hml]; rfl) (argsL := [(.ref a1), (.int (0 : Int32)), (.ref o101), (.int (0 : Int32)), (.int (Int32.ofNat cs.length))]) (rest := []) (lenOf pd0 rfl) rfl (W := 0) (by show 2 * 0 + _ ≤ _; exact Nat.le_of_eq rfl) (hb hby d6_9) (by decide) (by decide) (by decide) (by decide)
  obtain ⟨rfl, Nq102, Kq102, Vd102⟩ := hQ102
  have N102 := Fr.app N0 Nq102
  obtain ⟨hx, hZ, hown, hby, hml, hnm, hret, hlk⟩ := id Cc102
  have K102 := K101.trans Kq102 (allS (Or.inr sz101) all0)
  have O102 := O101.keep Kq102 (allS (Nat.le_trans (own_ole O0) fr101) all0)
  refine Go.of st102 ?_
  show Go p e s below _ _ _ _ T102 (mkF m 12 #[.val (.ref a1), .val (.int (0 : Int32)), .val (.int (Int32.ofNat cs.length)), .val (.ref o101), .unset, .unset] [(.int (Int32.ofNat cs.length))])
  refine Go.of (fun _ hr => XS.istore X102.here hx rfl (hb hby d6_12) rfl (l' := #[.val (.ref a1), .val (.int (0 : Int32)), .val (.int (Int32.ofNat cs.length)), .val (.ref o101), .val (.int (Int32.ofNat cs.length)), .unset]) rfl hr) ?_
  show Go p e s below _ _ _ _ T102 (mkF m 14 #[.val (.ref a1), .val (.int (0 : Int32)), .val (.int (Int32.ofNat cs.length)), .val (.ref o101), .val (.int (Int32.ofNat cs.length)), .unset] [])
  refine Go.of (fun _ hr => XS.iload X102.here hx rfl (hb hby d6_14) rfl  hr) ?_
  show Go p e s below _ _ _ _ T102 (mkF m 16 #[.val (.ref a1), .val (.int (0 : Int32)), .val (.int (Int32.ofNat cs.length)), .val (.ref o101), .val (.int (Int32.ofNat cs.length)), .unset] [(.int (Int32.ofNat cs.length))])
  refine Go.of (fun _ hr => XS.iloadN X102.here hx rfl (hb hby d6_16) rfl  hr) ?_
  show Go p e s below _ _ _ _ T102 (mkF m 17 #[.val (.ref a1), .val (.int (0 : Int32)), .val (.int (Int32.ofNat cs.length)), .val (.ref o101), .val (.int (Int32.ofNat cs.length)), .unset] [(.int (Int32.ofNat cs.length)), (.int (Int32.ofNat cs.length))])
  refine Go.of (fun _ hr => XS.icmpYes X102.here hx rfl (pc0 := 17) (pc' := 57) rfl (hb hby d6_17) rfl (teq rfl).1 (by decide) (by decide) hr) ?_
  show Go p e s below _ _ _ _ T102 (mkF m 57 #[.val (.ref a1), .val (.int (0 : Int32)), .val (.int (Int32.ofNat cs.length)), .val (.ref o101), .val (.int (Int32.ofNat cs.length)), .unset] [])
  refine Go.of (fun _ hr => XS.aloadN X102.here hx rfl (hb hby d6_57) rfl rfl hr) ?_
  show Go p e s below _ _ _ _ T102 (mkF m 58 #[.val (.ref a1), .val (.int (0 : Int32)), .val (.int (Int32.ofNat cs.length)), .val (.ref o101), .val (.int (Int32.ofNat cs.length)), .unset] [(.ref o101)])
  exact Go.retA X102 hx hlk B102 (J102.sub fun x hx => (List.mem_cons_of_mem _ hx)) e102 hret rfl rfl (hb hby d6_58) (by decide) (by decide) (fun vm_ hw_ => ⟨_, _, rfl, (fun y hy => Nat.le_trans hnb (N102 y hy)), keep_ext K102, sz101, Vd102⟩)

theorem d8_0 : decode jdk_52_method_15_code 0 = .ok (.iload_n 1, 1) := by decide +kernel
theorem d8_1 : decode jdk_52_method_15_code 1 = .ok (.aload_n 0, 1) := by decide +kernel
theorem d8_2 : decode jdk_52_method_15_code 2 = .ok (.arraylength, 1) := by decide +kernel
theorem d8_3 : decode jdk_52_method_15_code 3 = .ok (.isub, 1) := by decide +kernel
theorem d8_4 : decode jdk_52_method_15_code 4 = .ok (.bipush 31, 2) := by decide +kernel
theorem d8_6 : decode jdk_52_method_15_code 6 = .ok (.iushr, 1) := by decide +kernel
theorem d8_7 : decode jdk_52_method_15_code 7 = .ok (.i2b, 1) := by decide +kernel
theorem d8_8 : decode jdk_52_method_15_code 8 = .ok (.ireturn, 1) := by decide +kernel
set_option maxRecDepth 65536 in
set_option maxHeartbeats 40000000 in
theorem rm8 (l : Launch) (Z : State) (a0 : Array Value) (hw : ∀ d ∈ tables_1, d.before a0 Z = true) (ws : List Jvm.Cond) (a1 : Addr) (k1 : ClassId) (z1 : Int32) (vs : List Value) (dv : Value) (ms : List Addr) (h0 : Heap) (n0 : Nat) (O0 : Old Z n0 h0) (nb : Nat) (hb0 : n0 ≤ nb) (hnb : nb ≤ h0.size) (V1 : Arv Z h0 a1 k1 .byte z1 vs dv) :
    Con l Z ms (⟨"java/lang/StringUTF16", "coderFromArrayLen", "([BI)B"⟩ : MethodName) jdk_52_method_15_code 2 (some .byte) ws ({ frames := 0, cells := 0, slots := 0, locals := 0 } : Room) #[(.ref a1), (.int z1)] h0 (fun v vm h L => v = some (.int 0) ∧ Fr nb L ∧ h = h0) := by
  refine Con.mk (plainFor_of_name pn0) ?_
  intro p e s m below meth c s₁ Cc X0 e0 eb J0 B0 M0
  obtain ⟨hx, hZ, hown, hby, hml, hnm, hret, hlk⟩ := id Cc
  have N0 := Fr.nil h0.size
  have K0 := Keep.refl h0 []
  show Go p e s below _ _ _ _ s₁ (mkF m 0 #[.val (.ref a1), .val (.int z1)] [])
  refine Go.of (fun _ hr => XS.iloadN X0.here hx rfl (hb hby d8_0) rfl  hr) ?_
  show Go p e s below _ _ _ _ s₁ (mkF m 1 #[.val (.ref a1), .val (.int z1)] [(.int z1)])
  refine Go.of (fun _ hr => XS.aloadN X0.here hx rfl (hb hby d8_1) rfl rfl hr) ?_
  show Go p e s below _ _ _ _ s₁ (mkF m 2 #[.val (.ref a1), .val (.int z1)] [(.ref a1), (.int z1)])
  obtain ⟨cl101, Ar101, q101, S101, N101_, H101, G101⟩ := id V1
  refine Go.of (fun _ hr => X0.arraylength hx (by rw [e0]; exact Ar101.1) (State.isArrayOf_alike hZ.alike Ar101.2.1) (g := (mkF m 2 #[.val (.ref a1), .val (.int z1)] [(.ref a1), (.int z1)])) rfl rfl (hb hby d8_2) _ hr) ?_
  rw [len_of S101 N101_]
  show Go p e s below _ _ _ _ s₁ (mkF m 3 #[.val (.ref a1), .val (.int z1)] [(.int z1), (.int z1)])
  refine Go.of (fun _ hr => XS.isub X0.here hx rfl (hb hby d8_3) rfl hr) ?_
  show Go p e s below _ _ _ _ s₁ (mkF m 4 #[.val (.ref a1), .val (.int z1)] [(.int (z1 - z1))])
  rw [Int32.sub_self]
  show Go p e s below _ _ _ _ s₁ (mkF m 4 #[.val (.ref a1), .val (.int z1)] [(.int (0 : Int32))])
  refine Go.of (fun _ hr => XS.bipush X0.here hx rfl (hb hby d8_4) hr) ?_
  show Go p e s below _ _ _ _ s₁ (mkF m 6 #[.val (.ref a1), .val (.int z1)] [(.int (31 : Int32)), (.int (0 : Int32))])
  refine Go.of (fun _ hr => XS.iushr X0.here hx rfl (hb hby d8_6) rfl hr) ?_
  show Go p e s below _ _ _ _ s₁ (mkF m 7 #[.val (.ref a1), .val (.int z1)] [(.int (((0 : Int32).toUInt32 >>> ((31 : Int32) &&& 31).toUInt32).toInt32))])
  refine Go.of (fun _ hr => XS.i2b X0.here hx rfl (hb hby d8_7) rfl hr) ?_
  show Go p e s below _ _ _ _ s₁ (mkF m 8 #[.val (.ref a1), .val (.int z1)] [(.int ((((0 : Int32).toUInt32 >>> ((31 : Int32) &&& 31).toUInt32).toInt32).toInt8.toInt32))])
  exact Go.retN X0 hx hlk B0 J0 e0 (t := .byte) (z' := ((((0 : Int32).toUInt32 >>> ((31 : Int32) &&& 31).toUInt32).toInt32).toInt8.toInt32)) hret (by simp) (hb hby d8_8) (by decide) (by decide) (by decide) (fun vm_ hw_ => ⟨rfl, (fun y hy => Nat.le_trans hnb (N0 y hy)), rfl⟩)

theorem pn1 : plainName "java/lang/String" = true := by first | (simp [plainName, overriddenIn]; done) | decide +kernel
theorem d4_0 : decode jdk_42_method_149_code 0 = .ok (.aload_n 0, 1) := by decide +kernel
theorem d4_1 : decode jdk_42_method_149_code 1 = .ok (.invokespecial 1, 3) := by decide +kernel
theorem d4_4 : decode jdk_42_method_149_code 4 = .ok (.iload_n 3, 1) := by decide +kernel
theorem d4_5 : decode jdk_42_method_149_code 5 = .ok (.ifCond .ne 22, 3) := by decide +kernel
theorem d4_27 : decode jdk_42_method_149_code 27 = .ok (.getstatic 38, 3) := by decide +kernel
theorem d4_30 : decode jdk_42_method_149_code 30 = .ok (.ifCond .eq 28, 3) := by decide +kernel
theorem d4_33 : decode jdk_42_method_149_code 33 = .ok (.aload_n 1, 1) := by decide +kernel
theorem d4_34 : decode jdk_42_method_149_code 34 = .ok (.iload_n 2, 1) := by decide +kernel
theorem d4_35 : decode jdk_42_method_149_code 35 = .ok (.iload_n 3, 1) := by decide +kernel
theorem d4_36 : decode jdk_42_method_149_code 36 = .ok (.invokestatic 177, 3) := by decide +kernel
theorem pd1 : parseMethodDescriptor "([CII)[B" = some ⟨[(.array .char), .int, .int], some (.array .byte)⟩ := by decide +kernel
theorem d4_39 : decode jdk_42_method_149_code 39 = .ok (.astore 5, 2) := by decide +kernel
theorem d4_41 : decode jdk_42_method_149_code 41 = .ok (.aload_n 0, 1) := by decide +kernel
theorem d4_42 : decode jdk_42_method_149_code 42 = .ok (.aload 5, 2) := by decide +kernel
theorem d4_44 : decode jdk_42_method_149_code 44 = .ok (.iload_n 3, 1) := by decide +kernel
theorem d4_45 : decode jdk_42_method_149_code 45 = .ok (.invokestatic 47, 3) := by decide +kernel
theorem pd2 : parseMethodDescriptor "([BI)B" = some ⟨[(.array .byte), .int], some .byte⟩ := by decide +kernel
theorem d4_48 : decode jdk_42_method_149_code 48 = .ok (.putfield 15, 3) := by decide +kernel
theorem d4_51 : decode jdk_42_method_149_code 51 = .ok (.aload_n 0, 1) := by decide +kernel
theorem d4_52 : decode jdk_42_method_149_code 52 = .ok (.aload 5, 2) := by decide +kernel
theorem d4_54 : decode jdk_42_method_149_code 54 = .ok (.putfield 9, 3) := by decide +kernel
theorem d4_57 : decode jdk_42_method_149_code 57 = .ok (.return_, 1) := by decide +kernel
set_option maxRecDepth 65536 in
set_option maxHeartbeats 40000000 in
theorem rm4 (l : Launch) (Z : State) (a0 : Array Value) (hw : ∀ d ∈ tables_1, d.before a0 Z = true) (ws : List Jvm.Cond) (a1 a2 : Addr) (k2 : ClassId) (cs : List Int32) (u1 u2 : Value) (zc : Int32) (ms : List Addr) (h0 : Heap) (n0 : Nat) (O0 : Old Z n0 h0) (nb : Nat) (hb0 : n0 ≤ nb) (hnb : nb ≤ h0.size) (fr_a1 : nb ≤ a1) (hm_a1 : a1 ∈ ms) (hn : cs.length ≤ 3) (hr : ∀ x ∈ cs, ¬ x < 0 ∧ ¬ 255 < x) (hpos : 0 < cs.length) (V1 : Arv Z h0 a2 k2 .char (Int32.ofNat cs.length) (cs.map Value.int) (.int 0)) (ne12 : a2 ≠ a1) (E1 : Exa Z h0 a1 "java/lang/String") (F1 : Fld Z h0 a1 "java/lang/String" "value" "[B" u1) (F2 : Fld Z h0 a1 "java/lang/String" "coder" "B" u2) (S_C : Sta Z Z.heap "java/lang/String" "COMPACT_STRINGS" "Z" (.int zc)) (hzc : ¬ zc = 0) :
    Con l Z ms (⟨"java/lang/String", "<init>", "([CIILjava/lang/Void;)V"⟩ : MethodName) jdk_42_method_149_code 6 none ws ({ frames := 2, cells := 1, slots := 3, locals := 35 } : Room) #[(.ref a1), (.ref a2), (.int (0 : Int32)), (.int (Int32.ofNat cs.length)), .null] h0 (fun v vm h L => v = none ∧ Fr nb L ∧ Keep h0 h [a1] ∧ ∃ t k, t ∉ ms ∧ Fld Z h a1 "java/lang/String" "value" "[B" (.ref t) ∧ Fld Z h a1 "java/lang/String" "coder" "B" (.int 0) ∧ Arv Z h t k .byte (Int32.ofNat (cs.map lo8).length) ((cs.map lo8).map Value.int) (.int 0)) := by
  refine Con.mk (plainFor_of_name pn1) ?_
  intro p e s m below meth c s₁ Cc X0 e0 eb J0 B0 M0
  obtain ⟨hx, hZ, hown, hby, hml, hnm, hret, hlk⟩ := id Cc
  have N0 := Fr.nil nb
  have K0 := Keep.refl h0 [a1]
  show Go p e s below _ _ _ _ s₁ (mkF m 0 #[.val (.ref a1), .val (.ref a2), .val (.int (0 : Int32)), .val (.int (Int32.ofNat cs.length)), .val .null, .unset] [])
  refine Go.of (fun _ hr => XS.aloadN X0.here hx rfl (hb hby d4_0) rfl rfl hr) ?_
  show Go p e s below _ _ _ _ s₁ (mkF m 1 #[.val (.ref a1), .val (.ref a2), .val (.int (0 : Int32)), .val (.int (Int32.ofNat cs.length)), .val .null, .unset] [(.ref a1)])
  obtain ⟨T101, X101, e101, st101⟩ := initO X0 hx hZ hown (hw _ (List.mem_of_getElem? (i := 18) rfl)) (hw _ (List.mem_of_getElem? (i := 19) rfl)) (hw _ (List.mem_of_getElem? (i := 20) rfl)) e0 (g := (mkF m 1 #[.val (.ref a1), .val (.ref a2), .val (.int (0 : Int32)), .val (.int (Int32.ofNat cs.length)), .val .null, .unset] [(.ref a1)])) rfl (by rw [hml]; rfl) rfl (hb hby d4_1) (by decide) (W := 0) (by show 2 * 0 + _ ≤ _; exact Nat.le_of_eq rfl) (by decide)
  refine Go.of (fun _ hr => st101 _ hr) ?_
  show Go p e s below _ _ _ _ T101 (mkF m 4 #[.val (.ref a1), .val (.ref a2), .val (.int (0 : Int32)), .val (.int (Int32.ofNat cs.length)), .val .null, .unset] [])
  refine Go.of (fun _ hr => XS.iloadN X101.here hx rfl (hb hby d4_4) rfl  hr) ?_
  show Go p e s below _ _ _ _ T101 (mkF m 5 #[.val (.ref a1), .val (.ref a2), .val (.int (0 : Int32)), .val (.int (Int32.ofNat cs.length)), .val .null, .unset] [(.int (Int32.ofNat cs.length))])
  refine Go.of (fun _ hr => XS.ifYes X101.here hx rfl (pc0 := 5) (pc' := 27) rfl (hb hby d4_5) rfl ((if0 _ _).trans (feq (fun q => by have r := congrArg Int32.toInt q; rw [oi_toInt (by omega), Int32.toInt_zero] at r; omega)).2) (by decide) (by decide) hr) ?_
  show Go p e s below _ _ _ _ T101 (mkF m 27 #[.val (.ref a1), .val (.ref a2), .val (.int (0 : Int32)), .val (.int (Int32.ofNat cs.length)), .val .null, .unset] [])
  obtain ⟨T102, X102, e102, st102⟩ := getS2 X101 hx hZ hown (host := "") (Or.inl (hw _ (List.mem_of_getElem? (i := 21) rfl))) Via.refl e101 (S_C.ext O0.2) (g := (mkF m 27 #[.val (.ref a1), .val (.ref a2), .val (.int (0 : Int32)), .val (.int (Int32.ofNat cs.length)), .val .null, .unset] [])) rfl (hb hby d4_27)
  refine Go.of (fun _ hr => st102 _ hr) ?_
  show Go p e s below _ _ _ _ T102 (mkF m 30 #[.val (.ref a1), .val (.ref a2), .val (.int (0 : Int32)), .val (.int (Int32.ofNat cs.length)), .val .null, .unset] [(.int zc)])
  refine Go.of (fun _ hr => XS.ifNo X102.here hx rfl (hb hby d4_30) rfl ((if0 _ _).trans (feq hzc).1) hr) ?_
  show Go p e s below _ _ _ _ T102 (mkF m 33 #[.val (.ref a1), .val (.ref a2), .val (.int (0 : Int32)), .val (.int (Int32.ofNat cs.length)), .val .null, .unset] [])
  refine Go.of (fun _ hr => XS.aloadN X102.here hx rfl (hb hby d4_33) rfl rfl hr) ?_
  show Go p e s below _ _ _ _ T102 (mkF m 34 #[.val (.ref a1), .val (.ref a2), .val (.int (0 : Int32)), .val (.int (Int32.ofNat cs.length)), .val .null, .unset] [(.ref a2)])
  refine Go.of (fun _ hr => XS.iloadN X102.here hx rfl (hb hby d4_34) rfl  hr) ?_
  show Go p e s below _ _ _ _ T102 (mkF m 35 #[.val (.ref a1), .val (.ref a2), .val (.int (0 : Int32)), .val (.int (Int32.ofNat cs.length)), .val .null, .unset] [(.int (0 : Int32)), (.ref a2)])
  refine Go.of (fun _ hr => XS.iloadN X102.here hx rfl (hb hby d4_35) rfl  hr) ?_
  show Go p e s below _ _ _ _ T102 (mkF m 36 #[.val (.ref a1), .val (.ref a2), .val (.int (0 : Int32)), .val (.int (Int32.ofNat cs.length)), .val .null, .unset] [(.int (Int32.ofNat cs.length)), (.int (0 : Int32)), (.ref a2)])
  obtain ⟨_, b103, T103, h103, L103, e103, Cc103, X103, B103, J103, g103, hQ103, st103⟩ := own_callS Cc B0 J0 X102 (hw _ (List.mem_of_getElem? (i := 22) rfl)) (hw _ (List.mem_of_getElem? (i := 23) rfl)) (hw _ (List.mem_of_getElem? (i := 24) rfl)) (hw _ (List.mem_of_getElem? (i := 25) rfl)) (by decide) (rm6 l Z a0 hw [] a2 _ cs _ h0 n0 O0 h0.size (own_ole O0) K0.1 hn hr V1) e102 (g := (mkF m 36 #[.val (.ref a1), .val (.ref a2), .val (.int (0 : Int32)), .val (.int (Int32.ofNat cs.length)), .val .null, .unset] [(.int (Int32.ofNat cs.length)), (.int (0 : Int32)), (.ref a2)])) rfl (by rw [hml]; rfl) (argsL := [(.ref a2), (.int (0 : Int32)), (.int (Int32.ofNat cs.length))]) (rest := []) (lenOf pd1 rfl) rfl (W := 0) (by show 2 * 0 + _ ≤ _; exact Nat.le_of_eq rfl) (hb hby d4_36) (by decide) (by decide) (by decide) (by decide)
  obtain ⟨r103, kr103, rfl, Nq103, Eq103, R_r103, Vr103⟩ := hQ103
  have N103 := Fr.app N0 (show Fr nb _ from fun y hy => Nat.le_trans hnb (Nq103 y hy))
  have NS103 := Fr.app (Fr.nil _) Nq103
  obtain ⟨hx, hZ, hown, hby, hml, hnm, hret, hlk⟩ := id Cc103
  have sz_r103 : h0.size ≤ r103 := Nat.le_trans K0.1 R_r103
  have fr_r103 : nb ≤ r103 := Nat.le_trans hnb sz_r103
  have ne_a1_r103 : a1 ≠ r103 := Nat.ne_of_lt (Nat.lt_of_lt_of_le E1.lt R_r103)
  have ne_a2_r103 : a2 ≠ r103 := Nat.ne_of_lt (Nat.lt_of_lt_of_le V1.lt R_r103)
  have K103 := K0.ext Eq103
  have O103 := O0.ext Eq103
  refine Go.of st103 ?_
  show Go p e s below _ _ _ _ T103 (mkF m 39 #[.val (.ref a1), .val (.ref a2), .val (.int (0 : Int32)), .val (.int (Int32.ofNat cs.length)), .val .null, .unset] [(.ref r103)])
  refine Go.of (fun _ hr => XS.astore X103.here hx rfl (hb hby d4_39) rfl rfl (l' := #[.val (.ref a1), .val (.ref a2), .val (.int (0 : Int32)), .val (.int (Int32.ofNat cs.length)), .val .null, .val (.ref r103)]) rfl hr) ?_
  show Go p e s below _ _ _ _ T103 (mkF m 41 #[.val (.ref a1), .val (.ref a2), .val (.int (0 : Int32)), .val (.int (Int32.ofNat cs.length)), .val .null, .val (.ref r103)] [])
  refine Go.of (fun _ hr => XS.aloadN X103.here hx rfl (hb hby d4_41) rfl rfl hr) ?_
  show Go p e s below _ _ _ _ T103 (mkF m 42 #[.val (.ref a1), .val (.ref a2), .val (.int (0 : Int32)), .val (.int (Int32.ofNat cs.length)), .val .null, .val (.ref r103)] [(.ref a1)])
  refine Go.of (fun _ hr => XS.aload X103.here hx rfl (hb hby d4_42) rfl rfl hr) ?_
  show Go p e s below _ _ _ _ T103 (mkF m 44 #[.val (.ref a1), .val (.ref a2), .val (.int (0 : Int32)), .val (.int (Int32.ofNat cs.length)), .val .null, .val (.ref r103)] [(.ref r103), (.ref a1)])
  refine Go.of (fun _ hr => XS.iloadN X103.here hx rfl (hb hby d4_44) rfl  hr) ?_
  show Go p e s below _ _ _ _ T103 (mkF m 45 #[.val (.ref a1), .val (.ref a2), .val (.int (0 : Int32)), .val (.int (Int32.ofNat cs.length)), .val .null, .val (.ref r103)] [(.int (Int32.ofNat cs.length)), (.ref r103), (.ref a1)])
  obtain ⟨_, b104, T104, h104, L104, e104, Cc104, X104, B104, J104, g104, hQ104, st104⟩ := own_callS Cc103 B103 J103 X103 (hw _ (List.mem_of_getElem? (i := 30) rfl)) (hw _ (List.mem_of_getElem? (i := 31) rfl)) (hw _ (List.mem_of_getElem? (i := 24) rfl)) (hw _ (List.mem_of_getElem? (i := 32) rfl)) (by decide) (rm8 l Z a0 hw [] r103 _ (Int32.ofNat cs.length) _ _ _ h103 n0 O103 h0.size (own_ole O0) K103.1 Vr103) e103 (g := (mkF m 45 #[.val (.ref a1), .val (.ref a2), .val (.int (0 : Int32)), .val (.int (Int32.ofNat cs.length)), .val .null, .val (.ref r103)] [(.int (Int32.ofNat cs.length)), (.ref r103), (.ref a1)])) rfl (by rw [hml]; rfl) (argsL := [(.ref r103), (.int (Int32.ofNat cs.length))]) (rest := [(.ref a1)]) (lenOf pd2 rfl) rfl (W := 1) (by show 2 * 0 + _ ≤ _; exact Nat.le_of_eq rfl) (hb hby d4_45) (by decide) (by decide) (by decide) (by decide)
  obtain ⟨rfl, Nq104, hh104⟩ := hQ104
  have N104 := Fr.app N103 (show Fr nb _ from fun y hy => Nat.le_trans hnb (Nq104 y hy))
  have NS104 := Fr.app NS103 Nq104
  obtain ⟨hx, hZ, hown, hby, hml, hnm, hret, hlk⟩ := id Cc104
  rw [hh104] at e104 B104 J104
  refine Go.of st104 ?_
  show Go p e s below _ _ _ _ T104 (mkF m 48 #[.val (.ref a1), .val (.ref a2), .val (.int (0 : Int32)), .val (.int (Int32.ofNat cs.length)), .val .null, .val (.ref r103)] [(.int (0 : Int32)), (.ref a1)])
  have f106 := (F2.ext Eq103)
  have f107 := (E1.ext Eq103)
  obtain ⟨T105, h105, X105, e105, W105, st105⟩ := putFN X104 hx hZ hown (hw _ (List.mem_of_getElem? (i := 33) rfl)) Via.refl e104 f106 f107 (Or.inr ⟨(hw _ (List.mem_of_getElem? (i := 34) rfl)), rfl, hnm⟩) (hw _ (List.mem_of_getElem? (i := 9) rfl)) (ty := .byte) (v := (.int (0 : Int32))) (v' := (.int (0 : Int32))) (by decide) rfl rfl (g := (mkF m 48 #[.val (.ref a1), .val (.ref a2), .val (.int (0 : Int32)), .val (.int (Int32.ofNat cs.length)), .val .null, .val (.ref r103)] [(.int (0 : Int32)), (.ref a1)])) rfl rfl (hb hby d4_48)
  have N105 := Fr.snoc X105 N104 fr_a1
  have J105 := J104.wr W105 hm_a1
  have B105 := B104.mono (Nat.le_of_eq W105.size.symm)
  have O105 := O103.wr W105 (Nat.le_trans hb0 fr_a1)
  have K105 := K103.wr W105 (Or.inl (List.mem_of_getElem? (i := 0) rfl))
  have Fw105 := f106.same W105
  refine Go.of (fun _ hr => st105 _ hr) ?_
  show Go p e s below _ _ _ _ T105 (mkF m 51 #[.val (.ref a1), .val (.ref a2), .val (.int (0 : Int32)), .val (.int (Int32.ofNat cs.length)), .val .null, .val (.ref r103)] [])
  refine Go.of (fun _ hr => XS.aloadN X105.here hx rfl (hb hby d4_51) rfl rfl hr) ?_
  show Go p e s below _ _ _ _ T105 (mkF m 52 #[.val (.ref a1), .val (.ref a2), .val (.int (0 : Int32)), .val (.int (Int32.ofNat cs.length)), .val .null, .val (.ref r103)] [(.ref a1)])
  refine Go.of (fun _ hr => XS.aload X105.here hx rfl (hb hby d4_52) rfl rfl hr) ?_
  show Go p e s below _ _ _ _ T105 (mkF m 54 #[.val (.ref a1), .val (.ref a2), .val (.int (0 : Int32)), .val (.int (Int32.ofNat cs.length)), .val .null, .val (.ref r103)] [(.ref r103), (.ref a1)])
  have f109 := ((F1.ext Eq103).other W105 (Or.inr (slot_ne (Or.inr (hw _ (List.mem_of_getElem? (i := 36) rfl))) (Or.inr (hw _ (List.mem_of_getElem? (i := 34) rfl))) (by decide) (t := (.array .byte)) (t' := .byte) (by decide) (by decide))))
  have f110 := (f107.wr W105)
  obtain ⟨T108, h108, X108, e108, W108, st108⟩ := putF X105 hx hZ hown (host := "") (Or.inl (hw _ (List.mem_of_getElem? (i := 35) rfl))) Via.refl e105 f109 f110 (Or.inr ⟨(hw _ (List.mem_of_getElem? (i := 36) rfl)), rfl, hnm⟩) (hw _ (List.mem_of_getElem? (i := 9) rfl)) (ty := (.array .byte)) (by decide) rfl rfl (g := (mkF m 54 #[.val (.ref a1), .val (.ref a2), .val (.int (0 : Int32)), .val (.int (Int32.ofNat cs.length)), .val .null, .val (.ref r103)] [(.ref r103), (.ref a1)])) rfl rfl (hb hby d4_54)
  have N108 := Fr.snoc X108 N105 fr_a1
  have J108 := J105.wr W108 hm_a1
  have B108 := B105.mono (Nat.le_of_eq W108.size.symm)
  have O108 := O105.wr W108 (Nat.le_trans hb0 fr_a1)
  have K108 := K105.wr W108 (Or.inl (List.mem_of_getElem? (i := 0) rfl))
  have Fw108 := f109.same W108
  refine Go.of (fun _ hr => st108 _ hr) ?_
  show Go p e s below _ _ _ _ T108 (mkF m 57 #[.val (.ref a1), .val (.ref a2), .val (.int (0 : Int32)), .val (.int (Int32.ofNat cs.length)), .val .null, .val (.ref r103)] [])
  have f111 := ((Vr103.other W105 (Ne.symm ne_a1_r103)).other W108 (Ne.symm ne_a1_r103))
  have f112 := (Fw105.other W108 (Or.inr (slot_ne (Or.inr (hw _ (List.mem_of_getElem? (i := 34) rfl))) (Or.inr (hw _ (List.mem_of_getElem? (i := 36) rfl))) (by decide) (t := .byte) (t' := (.array .byte)) (by decide) (by decide))))
  exact Go.retV X108 hx hlk B108 J108 e108 hret (hb hby d4_57) (by decide) (by decide) (fun vm_ hw_ => ⟨rfl, N108, K108, _, _, (J0.nms sz_r103), Fw108, f112, asB f111⟩)

theorem d3_0 : decode jdk_42_method_3_code 0 = .ok (.aload_n 0, 1) := by decide +kernel
theorem d3_1 : decode jdk_42_method_3_code 1 = .ok (.aload_n 1, 1) := by decide +kernel
theorem d3_2 : decode jdk_42_method_3_code 2 = .ok (.iconst 0, 1) := by decide +kernel
theorem d3_3 : decode jdk_42_method_3_code 3 = .ok (.aload_n 1, 1) := by decide +kernel
theorem d3_4 : decode jdk_42_method_3_code 4 = .ok (.arraylength, 1) := by decide +kernel
theorem d3_5 : decode jdk_42_method_3_code 5 = .ok (.aconst_null, 1) := by decide +kernel
theorem d3_6 : decode jdk_42_method_3_code 6 = .ok (.invokespecial 27, 3) := by decide +kernel
theorem pd3 : parseMethodDescriptor "([CIILjava/lang/Void;)V" = some ⟨[(.array .char), .int, .int, (.object "java/lang/Void")], none⟩ := by decide +kernel
theorem d3_9 : decode jdk_42_method_3_code 9 = .ok (.return_, 1) := by decide +kernel
set_option maxRecDepth 65536 in
set_option maxHeartbeats 40000000 in
theorem rm3 (l : Launch) (Z : State) (a0 : Array Value) (hw : ∀ d ∈ tables_1, d.before a0 Z = true) (ws : List Jvm.Cond) (a1 a2 : Addr) (k2 : ClassId) (cs : List Int32) (u1 u2 : Value) (zc : Int32) (ms : List Addr) (h0 : Heap) (n0 : Nat) (O0 : Old Z n0 h0) (nb : Nat) (hb0 : n0 ≤ nb) (hnb : nb ≤ h0.size) (fr_a1 : nb ≤ a1) (hm_a1 : a1 ∈ ms) (hn : cs.length ≤ 3) (hr : ∀ x ∈ cs, ¬ x < 0 ∧ ¬ 255 < x) (hpos : 0 < cs.length) (V1 : Arv Z h0 a2 k2 .char (Int32.ofNat cs.length) (cs.map Value.int) (.int 0)) (ne12 : a2 ≠ a1) (E1 : Exa Z h0 a1 "java/lang/String") (F1 : Fld Z h0 a1 "java/lang/String" "value" "[B" u1) (F2 : Fld Z h0 a1 "java/lang/String" "coder" "B" u2) (S_C : Sta Z Z.heap "java/lang/String" "COMPACT_STRINGS" "Z" (.int zc)) (hzc : ¬ zc = 0) :
    Con l Z ms (⟨"java/lang/String", "<init>", "([C)V"⟩ : MethodName) jdk_42_method_3_code 2 none ws ({ frames := 3, cells := 1, slots := 3, locals := 52 } : Room) #[(.ref a1), (.ref a2)] h0 (fun v vm h L => v = none ∧ Fr nb L ∧ Keep h0 h [a1] ∧ ∃ t k, t ∉ ms ∧ Fld Z h a1 "java/lang/String" "value" "[B" (.ref t) ∧ Fld Z h a1 "java/lang/String" "coder" "B" (.int 0) ∧ Arv Z h t k .byte (Int32.ofNat (cs.map lo8).length) ((cs.map lo8).map Value.int) (.int 0)) := by
  refine Con.mk (plainFor_of_name pn1) ?_
  intro p e s m below meth c s₁ Cc X0 e0 eb J0 B0 M0
  obtain ⟨hx, hZ, hown, hby, hml, hnm, hret, hlk⟩ := id Cc
  have N0 := Fr.nil nb
  have K0 := Keep.refl h0 [a1]
  show Go p e s below _ _ _ _ s₁ (mkF m 0 #[.val (.ref a1), .val (.ref a2)] [])
  refine Go.of (fun _ hr => XS.aloadN X0.here hx rfl (hb hby d3_0) rfl rfl hr) ?_
  show Go p e s below _ _ _ _ s₁ (mkF m 1 #[.val (.ref a1), .val (.ref a2)] [(.ref a1)])
  refine Go.of (fun _ hr => XS.aloadN X0.here hx rfl (hb hby d3_1) rfl rfl hr) ?_
  show Go p e s below _ _ _ _ s₁ (mkF m 2 #[.val (.ref a1), .val (.ref a2)] [(.ref a2), (.ref a1)])
  refine Go.of (fun _ hr => XS.iconst X0.here hx rfl (hb hby d3_2) hr) ?_
  show Go p e s below _ _ _ _ s₁ (mkF m 3 #[.val (.ref a1), .val (.ref a2)] [(.int (0 : Int32)), (.ref a2), (.ref a1)])
  refine Go.of (fun _ hr => XS.aloadN X0.here hx rfl (hb hby d3_3) rfl rfl hr) ?_
  show Go p e s below _ _ _ _ s₁ (mkF m 4 #[.val (.ref a1), .val (.ref a2)] [(.ref a2), (.int (0 : Int32)), (.ref a2), (.ref a1)])
  obtain ⟨cl101, Ar101, q101, S101, N101_, H101, G101⟩ := id V1
  refine Go.of (fun _ hr => X0.arraylength hx (by rw [e0]; exact Ar101.1) (State.isArrayOf_alike hZ.alike Ar101.2.1) (g := (mkF m 4 #[.val (.ref a1), .val (.ref a2)] [(.ref a2), (.int (0 : Int32)), (.ref a2), (.ref a1)])) rfl rfl (hb hby d3_4) _ hr) ?_
  rw [len_of S101 N101_]
  show Go p e s below _ _ _ _ s₁ (mkF m 5 #[.val (.ref a1), .val (.ref a2)] [(.int (Int32.ofNat cs.length)), (.int (0 : Int32)), (.ref a2), (.ref a1)])
  refine Go.of (fun _ hr => XS.aconstNull X0.here hx rfl (hb hby d3_5) hr) ?_
  show Go p e s below _ _ _ _ s₁ (mkF m 6 #[.val (.ref a1), .val (.ref a2)] [.null, (.int (Int32.ofNat cs.length)), (.int (0 : Int32)), (.ref a2), (.ref a1)])
  obtain ⟨_, b102, T102, h102, L102, e102, Cc102, X102, B102, J102, g102, hQ102, st102⟩ := own_callI Cc B0 J0 X0 rfl (hw _ (List.mem_of_getElem? (i := 14) rfl)) (hw _ (List.mem_of_getElem? (i := 15) rfl)) (hw _ (List.mem_of_getElem? (i := 10) rfl)) (hw _ (List.mem_of_getElem? (i := 17) rfl)) (by decide) (rm4 l Z a0 hw [] a1 a2 _ cs _ _ zc _ h0 n0 O0 nb hb0 (Nat.le_trans hnb K0.1) fr_a1 hm_a1 hn hr hpos V1 ne12 E1 F1 F2 S_C hzc) e0 (g := (mkF m 6 #[.val (.ref a1), .val (.ref a2)] [.null, (.int (Int32.ofNat cs.length)), (.int (0 : Int32)), (.ref a2), (.ref a1)])) rfl (by rw [hml]; rfl) (argsL := [(.ref a2), (.int (0 : Int32)), (.int (Int32.ofNat cs.length)), .null]) (rest := []) (lenOf pd3 rfl) rfl (W := 0) (by show 2 * 0 + _ ≤ _; exact Nat.le_of_eq rfl) (hb hby d3_6) (by decide) (by decide) (by decide) (by decide)
  obtain ⟨rfl, Nq102, Kq102, t102, kt102, nt102, Fv102, Fc102, Vt102⟩ := hQ102
  have N102 := Fr.app N0 Nq102
  obtain ⟨hx, hZ, hown, hby, hml, hnm, hret, hlk⟩ := id Cc102
  have K102 := K0.trans Kq102 (allS (Or.inl (List.mem_of_getElem? (i := 0) rfl)) all0)
  have O102 := O0.keep Kq102 (allS (Nat.le_trans hb0 fr_a1) all0)
  refine Go.of st102 ?_
  have nx_t102_a1 : t102 ≠ a1 := fun q => nt102 (by rw [q]; exact hm_a1)
  show Go p e s below _ _ _ _ T102 (mkF m 9 #[.val (.ref a1), .val (.ref a2)] [])
  exact Go.retV X102 hx hlk B102 J102 e102 hret (hb hby d3_9) (by decide) (by decide) (fun vm_ hw_ => ⟨rfl, N102, K102, _, _, (fun hz => nt102 hz), Fv102, Fc102, Vt102⟩)

theorem d22_0 : decode jdk_42_method_152_code 0 = .ok (.getstatic 38, 3) := by decide +kernel
theorem d22_3 : decode jdk_42_method_152_code 3 = .ok (.ifCond .eq 10, 3) := by decide +kernel
theorem d22_6 : decode jdk_42_method_152_code 6 = .ok (.aload_n 0, 1) := by decide +kernel
theorem d22_7 : decode jdk_42_method_152_code 7 = .ok (.getfield 15, 3) := by decide +kernel
theorem d22_10 : decode jdk_42_method_152_code 10 = .ok (.goto 4, 3) := by decide +kernel
theorem d22_14 : decode jdk_42_method_152_code 14 = .ok (.ireturn, 1) := by decide +kernel
set_option maxRecDepth 65536 in
set_option maxHeartbeats 40000000 in
theorem rm22 (l : Launch) (Z : State) (a0 : Array Value) (hw : ∀ d ∈ tables_1, d.before a0 Z = true) (ws : List Jvm.Cond) (s1 : Addr) (zc : Int32) (ms : List Addr) (h0 : Heap) (n0 : Nat) (O0 : Old Z n0 h0) (nb : Nat) (hb0 : n0 ≤ nb) (hnb : nb ≤ h0.size) (Fc1 : Fld Z h0 s1 "java/lang/String" "coder" "B" (.int 0)) (S_C : Sta Z Z.heap "java/lang/String" "COMPACT_STRINGS" "Z" (.int zc)) (hzc : ¬ zc = 0) :
    Con l Z ms (⟨"java/lang/String", "coder", "()B"⟩ : MethodName) jdk_42_method_152_code 1 (some .byte) ws ({ frames := 0, cells := 0, slots := 0, locals := 0 } : Room) #[(.ref s1)] h0 (fun v vm h L => v = some (.int 0) ∧ Fr nb L ∧ h = h0) := by
  refine Con.mk (plainFor_of_name pn1) ?_
  intro p e s m below meth c s₁ Cc X0 e0 eb J0 B0 M0
  obtain ⟨hx, hZ, hown, hby, hml, hnm, hret, hlk⟩ := id Cc
  have N0 := Fr.nil h0.size
  have K0 := Keep.refl h0 []
  show Go p e s below _ _ _ _ s₁ (mkF m 0 #[.val (.ref s1)] [])
  obtain ⟨T101, X101, e101, st101⟩ := getS2 X0 hx hZ hown (host := "") (Or.inl (hw _ (List.mem_of_getElem? (i := 21) rfl))) Via.refl e0 (S_C.ext O0.2) (g := (mkF m 0 #[.val (.ref s1)] [])) rfl (hb hby d22_0)
  refine Go.of (fun _ hr => st101 _ hr) ?_
  show Go p e s below _ _ _ _ T101 (mkF m 3 #[.val (.ref s1)] [(.int zc)])
  refine Go.of (fun _ hr => XS.ifNo X101.here hx rfl (hb hby d22_3) rfl ((if0 _ _).trans (feq hzc).1) hr) ?_
  show Go p e s below _ _ _ _ T101 (mkF m 6 #[.val (.ref s1)] [])
  refine Go.of (fun _ hr => XS.aloadN X101.here hx rfl (hb hby d22_6) rfl rfl hr) ?_
  show Go p e s below _ _ _ _ T101 (mkF m 7 #[.val (.ref s1)] [(.ref s1)])
  obtain ⟨T102, X102, e102, st102⟩ := getF X101 hx hZ hown (host := "") (Or.inl (hw _ (List.mem_of_getElem? (i := 33) rfl))) Via.refl e101 Fc1 (g := (mkF m 7 #[.val (.ref s1)] [(.ref s1)])) rfl rfl (hb hby d22_7)
  refine Go.of (fun _ hr => st102 _ hr) ?_
  show Go p e s below _ _ _ _ T102 (mkF m 10 #[.val (.ref s1)] [(.int (0 : Int32))])
  refine Go.of (fun _ hr => XS.goto X102.here hx rfl (pc0 := 10) (pc' := 14) rfl (hb hby d22_10) (by decide) (by decide) hr) ?_
  show Go p e s below _ _ _ _ T102 (mkF m 14 #[.val (.ref s1)] [(.int (0 : Int32))])
  exact Go.retN X102 hx hlk B0 J0 e102 (t := .byte) (z' := (0 : Int32)) hret (by simp) (hb hby d22_14) rfl (by decide) (by decide) (fun vm_ hw_ => ⟨rfl, (fun y hy => Nat.le_trans hnb (N0 y hy)), rfl⟩)

theorem d21_0 : decode jdk_42_method_54_code 0 = .ok (.aload_n 0, 1) := by decide +kernel
theorem d21_1 : decode jdk_42_method_54_code 1 = .ok (.getfield 9, 3) := by decide +kernel
theorem d21_4 : decode jdk_42_method_54_code 4 = .ok (.arraylength, 1) := by decide +kernel
theorem d21_5 : decode jdk_42_method_54_code 5 = .ok (.aload_n 0, 1) := by decide +kernel
theorem d21_6 : decode jdk_42_method_54_code 6 = .ok (.invokevirtual 335, 3) := by decide +kernel
theorem pd4 : parseMethodDescriptor "()B" = some ⟨[], some .byte⟩ := by decide +kernel
theorem d21_9 : decode jdk_42_method_54_code 9 = .ok (.ishr, 1) := by decide +kernel
theorem d21_10 : decode jdk_42_method_54_code 10 = .ok (.ireturn, 1) := by decide +kernel
set_option maxRecDepth 65536 in
set_option maxHeartbeats 40000000 in
theorem rm21 (l : Launch) (Z : State) (a0 : Array Value) (hw : ∀ d ∈ tables_1, d.before a0 Z = true) (ws : List Jvm.Cond) (s1 t1 : Addr) (k1 : ClassId) (b1 : List Int32) (zc : Int32) (ms : List Addr) (h0 : Heap) (n0 : Nat) (O0 : Old Z n0 h0) (nb : Nat) (hb0 : n0 ≤ nb) (hnb : nb ≤ h0.size) (Es1 : Exa Z h0 s1 "java/lang/String") (Fv1 : Fld Z h0 s1 "java/lang/String" "value" "[B" (.ref t1)) (Fc1 : Fld Z h0 s1 "java/lang/String" "coder" "B" (.int 0)) (V1 : Arv Z h0 t1 k1 .byte (Int32.ofNat b1.length) (b1.map Value.int) (.int 0)) (hn1 : b1.length ≤ 1000) (S_C : Sta Z Z.heap "java/lang/String" "COMPACT_STRINGS" "Z" (.int zc)) (hzc : ¬ zc = 0) :
    Con l Z ms (⟨"java/lang/String", "length", "()I"⟩ : MethodName) jdk_42_method_54_code 1 (some .int) ws ({ frames := 1, cells := 0, slots := 0, locals := 14 } : Room) #[(.ref s1)] h0 (fun v vm h L => v = some (.int (Int32.ofNat b1.length)) ∧ Fr nb L ∧ h = h0) := by
  refine Con.mk (plainFor_of_name pn1) ?_
  intro p e s m below meth c s₁ Cc X0 e0 eb J0 B0 M0
  obtain ⟨hx, hZ, hown, hby, hml, hnm, hret, hlk⟩ := id Cc
  have N0 := Fr.nil h0.size
  have K0 := Keep.refl h0 []
  show Go p e s below _ _ _ _ s₁ (mkF m 0 #[.val (.ref s1)] [])
  refine Go.of (fun _ hr => XS.aloadN X0.here hx rfl (hb hby d21_0) rfl rfl hr) ?_
  show Go p e s below _ _ _ _ s₁ (mkF m 1 #[.val (.ref s1)] [(.ref s1)])
  obtain ⟨T101, X101, e101, st101⟩ := getF X0 hx hZ hown (host := "") (Or.inl (hw _ (List.mem_of_getElem? (i := 35) rfl))) Via.refl e0 Fv1 (g := (mkF m 1 #[.val (.ref s1)] [(.ref s1)])) rfl rfl (hb hby d21_1)
  refine Go.of (fun _ hr => st101 _ hr) ?_
  show Go p e s below _ _ _ _ T101 (mkF m 4 #[.val (.ref s1)] [(.ref t1)])
  obtain ⟨cl102, Ar102, q102, S102, N102_, H102, G102⟩ := id V1
  refine Go.of (fun _ hr => X101.arraylength hx (by rw [e101]; exact Ar102.1) (State.isArrayOf_alike hZ.alike Ar102.2.1) (g := (mkF m 4 #[.val (.ref s1)] [(.ref t1)])) rfl rfl (hb hby d21_4) _ hr) ?_
  rw [len_of S102 N102_]
  show Go p e s below _ _ _ _ T101 (mkF m 5 #[.val (.ref s1)] [(.int (Int32.ofNat b1.length))])
  refine Go.of (fun _ hr => XS.aloadN X101.here hx rfl (hb hby d21_5) rfl rfl hr) ?_
  show Go p e s below _ _ _ _ T101 (mkF m 6 #[.val (.ref s1)] [(.ref s1), (.int (Int32.ofNat b1.length))])
  obtain ⟨_, b103, T103, h103, L103, e103, Cc103, X103, B103, J103, g103, hQ103, st103⟩ := own_callV Cc B0 J0 X101 (hw _ (List.mem_of_getElem? (i := 108) rfl)) (hw _ (List.mem_of_getElem? (i := 109) rfl)) (notFace_of_selects (args := #[]) (mvT hZ (hw _ (List.mem_of_getElem? (i := 111) rfl)))) (hw _ (List.mem_of_getElem? (i := 111) rfl)) (hw _ (List.mem_of_getElem? (i := 110) rfl)) (hw _ (List.mem_of_getElem? (i := 10) rfl)) (hw _ (List.mem_of_getElem? (i := 112) rfl)) (by decide) Es1 (rm22 l Z a0 hw [] s1 zc _ h0 n0 O0 h0.size (own_ole O0) K0.1 Fc1 S_C hzc) e101 (g := (mkF m 6 #[.val (.ref s1)] [(.ref s1), (.int (Int32.ofNat b1.length))])) rfl (by rw [hml]; rfl) (argsL := []) (rest := [(.int (Int32.ofNat b1.length))]) (lenOf pd4 rfl) rfl (W := 1) (by show 2 * 0 + _ ≤ _; exact Nat.le_of_eq rfl) (hb hby d21_6) (by decide) (by decide) (by decide) (by decide)
  obtain ⟨rfl, Nq103, hh103⟩ := hQ103
  have N103 := Fr.app N0 Nq103
  obtain ⟨hx, hZ, hown, hby, hml, hnm, hret, hlk⟩ := id Cc103
  rw [hh103] at e103 B103 J103
  refine Go.of st103 ?_
  show Go p e s below _ _ _ _ T103 (mkF m 9 #[.val (.ref s1)] [(.int (0 : Int32)), (.int (Int32.ofNat b1.length))])
  refine Go.of (fun _ hr => XS.ishr X103.here hx rfl (hb hby d21_9) rfl hr) ?_
  show Go p e s below _ _ _ _ T103 (mkF m 10 #[.val (.ref s1)] [(.int ((Int32.ofNat b1.length) >>> ((0 : Int32) &&& 31)))])
  rw [own_sh0]
  show Go p e s below _ _ _ _ T103 (mkF m 10 #[.val (.ref s1)] [(.int (Int32.ofNat b1.length))])
  exact Go.retI X103 hx hlk B103 J103 e103 hret (hb hby d21_10) (by decide) (by decide) (fun vm_ hw_ => ⟨rfl, (fun y hy => Nat.le_trans hnb (N103 y hy)), rfl⟩)

theorem d16_0 : decode jdk_42_method_154_code 0 = .ok (.getstatic 38, 3) := by decide +kernel
theorem d16_3 : decode jdk_42_method_154_code 3 = .ok (.ifCond .eq 14, 3) := by decide +kernel
theorem d16_6 : decode jdk_42_method_154_code 6 = .ok (.aload_n 0, 1) := by decide +kernel
theorem d16_7 : decode jdk_42_method_154_code 7 = .ok (.getfield 15, 3) := by decide +kernel
theorem d16_10 : decode jdk_42_method_154_code 10 = .ok (.ifCond .ne 7, 3) := by decide +kernel
theorem d16_13 : decode jdk_42_method_154_code 13 = .ok (.iconst 1, 1) := by decide +kernel
theorem d16_14 : decode jdk_42_method_154_code 14 = .ok (.goto 4, 3) := by decide +kernel
theorem d16_18 : decode jdk_42_method_154_code 18 = .ok (.ireturn, 1) := by decide +kernel
set_option maxRecDepth 65536 in
set_option maxHeartbeats 40000000 in
theorem rm16 (l : Launch) (Z : State) (a0 : Array Value) (hw : ∀ d ∈ tables_1, d.before a0 Z = true) (ws : List Jvm.Cond) (s1 : Addr) (zc : Int32) (ms : List Addr) (h0 : Heap) (n0 : Nat) (O0 : Old Z n0 h0) (nb : Nat) (hb0 : n0 ≤ nb) (hnb : nb ≤ h0.size) (Fc1 : Fld Z h0 s1 "java/lang/String" "coder" "B" (.int 0)) (S_C : Sta Z Z.heap "java/lang/String" "COMPACT_STRINGS" "Z" (.int zc)) (hzc : ¬ zc = 0) :
    Con l Z ms (⟨"java/lang/String", "isLatin1", "()Z"⟩ : MethodName) jdk_42_method_154_code 1 (some .boolean) ws ({ frames := 0, cells := 0, slots := 0, locals := 0 } : Room) #[(.ref s1)] h0 (fun v vm h L => v = some (.int 1) ∧ Fr nb L ∧ h = h0) := by
  refine Con.mk (plainFor_of_name pn1) ?_
  intro p e s m below meth c s₁ Cc X0 e0 eb J0 B0 M0
  obtain ⟨hx, hZ, hown, hby, hml, hnm, hret, hlk⟩ := id Cc
  have N0 := Fr.nil h0.size
  have K0 := Keep.refl h0 []
  show Go p e s below _ _ _ _ s₁ (mkF m 0 #[.val (.ref s1)] [])
  obtain ⟨T101, X101, e101, st101⟩ := getS2 X0 hx hZ hown (host := "") (Or.inl (hw _ (List.mem_of_getElem? (i := 21) rfl))) Via.refl e0 (S_C.ext O0.2) (g := (mkF m 0 #[.val (.ref s1)] [])) rfl (hb hby d16_0)
  refine Go.of (fun _ hr => st101 _ hr) ?_
  show Go p e s below _ _ _ _ T101 (mkF m 3 #[.val (.ref s1)] [(.int zc)])
  refine Go.of (fun _ hr => XS.ifNo X101.here hx rfl (hb hby d16_3) rfl ((if0 _ _).trans (feq hzc).1) hr) ?_
  show Go p e s below _ _ _ _ T101 (mkF m 6 #[.val (.ref s1)] [])
  refine Go.of (fun _ hr => XS.aloadN X101.here hx rfl (hb hby d16_6) rfl rfl hr) ?_
  show Go p e s below _ _ _ _ T101 (mkF m 7 #[.val (.ref s1)] [(.ref s1)])
  obtain ⟨T102, X102, e102, st102⟩ := getF X101 hx hZ hown (host := "") (Or.inl (hw _ (List.mem_of_getElem? (i := 33) rfl))) Via.refl e101 Fc1 (g := (mkF m 7 #[.val (.ref s1)] [(.ref s1)])) rfl rfl (hb hby d16_7)
  refine Go.of (fun _ hr => st102 _ hr) ?_
  show Go p e s below _ _ _ _ T102 (mkF m 10 #[.val (.ref s1)] [(.int (0 : Int32))])
  refine Go.of (fun _ hr => XS.ifNo X102.here hx rfl (hb hby d16_10) rfl ((if0 _ _).trans (teq (by decide : ((0 : Int32) = (0 : Int32)))).2) hr) ?_
  show Go p e s below _ _ _ _ T102 (mkF m 13 #[.val (.ref s1)] [])
  refine Go.of (fun _ hr => XS.iconst X102.here hx rfl (hb hby d16_13) hr) ?_
  show Go p e s below _ _ _ _ T102 (mkF m 14 #[.val (.ref s1)] [(.int (1 : Int32))])
  refine Go.of (fun _ hr => XS.goto X102.here hx rfl (pc0 := 14) (pc' := 18) rfl (hb hby d16_14) (by decide) (by decide) hr) ?_
  show Go p e s below _ _ _ _ T102 (mkF m 18 #[.val (.ref s1)] [(.int (1 : Int32))])
  exact Go.retN X102 hx hlk B0 J0 e102 (t := .boolean) (z' := (1 : Int32)) hret (by simp) (hb hby d16_18) rfl (by decide) (by decide) (fun vm_ hw_ => ⟨rfl, (fun y hy => Nat.le_trans hnb (N0 y hy)), rfl⟩)

theorem pn2 : plainName "jdk/internal/util/Preconditions" = true := by first | (simp [plainName, overriddenIn]; done) | decide +kernel
theorem d48_0 : decode jdk_41_method_11_code 0 = .ok (.iload_n 0, 1) := by decide +kernel
theorem d48_1 : decode jdk_41_method_11_code 1 = .ok (.ifCond .lt 8, 3) := by decide +kernel
theorem d48_4 : decode jdk_41_method_11_code 4 = .ok (.iload_n 0, 1) := by decide +kernel
theorem d48_5 : decode jdk_41_method_11_code 5 = .ok (.iload_n 1, 1) := by decide +kernel
theorem d48_6 : decode jdk_41_method_11_code 6 = .ok (.if_icmp .lt 10, 3) := by decide +kernel
theorem d48_16 : decode jdk_41_method_11_code 16 = .ok (.iload_n 0, 1) := by decide +kernel
theorem d48_17 : decode jdk_41_method_11_code 17 = .ok (.ireturn, 1) := by decide +kernel
set_option maxRecDepth 65536 in
set_option maxHeartbeats 40000000 in
theorem rm48 (l : Launch) (Z : State) (a0 : Array Value) (hw : ∀ d ∈ tables_1, d.before a0 Z = true) (ws : List Jvm.Cond) (i1 j1 : Int32) (f1 : Value) (ms : List Addr) (h0 : Heap) (n0 : Nat) (O0 : Old Z n0 h0) (nb : Nat) (hb0 : n0 ≤ nb) (hnb : nb ≤ h0.size) (hfs : f1 = .null ∨ ∃ a, f1 = .ref a) (i0 : ¬ i1 < 0) (i9 : i1 < j1) :
    Con l Z ms (⟨"jdk/internal/util/Preconditions", "checkIndex", "(IILjava/util/function/BiFunction;)I"⟩ : MethodName) jdk_41_method_11_code 3 (some .int) ws ({ frames := 0, cells := 0, slots := 0, locals := 0 } : Room) #[(.int i1), (.int j1), f1] h0 (fun v vm h L => v = some (.int i1) ∧ Fr nb L ∧ h = h0) := by
  rcases hfs with rfl | ⟨fa, rfl⟩
  · refine Con.mk (plainFor_of_name pn2) ?_
    intro p e s m below meth c s₁ Cc X0 e0 eb J0 B0 M0
    obtain ⟨hx, hZ, hown, hby, hml, hnm, hret, hlk⟩ := id Cc
    have N0 := Fr.nil h0.size
    have K0 := Keep.refl h0 []
    show Go p e s below _ _ _ _ s₁ (mkF m 0 #[.val (.int i1), .val (.int j1), .val _] [])
    refine Go.of (fun _ hr => XS.iloadN X0.here hx rfl (hb hby d48_0) rfl  hr) ?_
    show Go p e s below _ _ _ _ s₁ (mkF m 1 #[.val (.int i1), .val (.int j1), .val _] [(.int i1)])
    refine Go.of (fun _ hr => XS.ifNo X0.here hx rfl (hb hby d48_1) rfl ((if0 _ _).trans (flt i0).1) hr) ?_
    show Go p e s below _ _ _ _ s₁ (mkF m 4 #[.val (.int i1), .val (.int j1), .val _] [])
    refine Go.of (fun _ hr => XS.iloadN X0.here hx rfl (hb hby d48_4) rfl  hr) ?_
    show Go p e s below _ _ _ _ s₁ (mkF m 5 #[.val (.int i1), .val (.int j1), .val _] [(.int i1)])
    refine Go.of (fun _ hr => XS.iloadN X0.here hx rfl (hb hby d48_5) rfl  hr) ?_
    show Go p e s below _ _ _ _ s₁ (mkF m 6 #[.val (.int i1), .val (.int j1), .val _] [(.int j1), (.int i1)])
    refine Go.of (fun _ hr => XS.icmpYes X0.here hx rfl (pc0 := 6) (pc' := 16) rfl (hb hby d48_6) rfl (tlt i9).1 (by decide) (by decide) hr) ?_
    show Go p e s below _ _ _ _ s₁ (mkF m 16 #[.val (.int i1), .val (.int j1), .val _] [])
    refine Go.of (fun _ hr => XS.iloadN X0.here hx rfl (hb hby d48_16) rfl  hr) ?_
    show Go p e s below _ _ _ _ s₁ (mkF m 17 #[.val (.int i1), .val (.int j1), .val _] [(.int i1)])
    exact Go.retI X0 hx hlk B0 J0 e0 hret (hb hby d48_17) (by decide) (by decide) (fun vm_ hw_ => ⟨rfl, (fun y hy => Nat.le_trans hnb (N0 y hy)), rfl⟩)
  · refine Con.mk (plainFor_of_name pn2) ?_
    intro p e s m below meth c s₁ Cc X0 e0 eb J0 B0 M0
    obtain ⟨hx, hZ, hown, hby, hml, hnm, hret, hlk⟩ := id Cc
    have N0 := Fr.nil h0.size
    have K0 := Keep.refl h0 []
    show Go p e s below _ _ _ _ s₁ (mkF m 0 #[.val (.int i1), .val (.int j1), .val _] [])
    refine Go.of (fun _ hr => XS.iloadN X0.here hx rfl (hb hby d48_0) rfl  hr) ?_
    show Go p e s below _ _ _ _ s₁ (mkF m 1 #[.val (.int i1), .val (.int j1), .val _] [(.int i1)])
    refine Go.of (fun _ hr => XS.ifNo X0.here hx rfl (hb hby d48_1) rfl ((if0 _ _).trans (flt i0).1) hr) ?_
    show Go p e s below _ _ _ _ s₁ (mkF m 4 #[.val (.int i1), .val (.int j1), .val _] [])
    refine Go.of (fun _ hr => XS.iloadN X0.here hx rfl (hb hby d48_4) rfl  hr) ?_
    show Go p e s below _ _ _ _ s₁ (mkF m 5 #[.val (.int i1), .val (.int j1), .val _] [(.int i1)])
    refine Go.of (fun _ hr => XS.iloadN X0.here hx rfl (hb hby d48_5) rfl  hr) ?_
    show Go p e s below _ _ _ _ s₁ (mkF m 6 #[.val (.int i1), .val (.int j1), .val _] [(.int j1), (.int i1)])
    refine Go.of (fun _ hr => XS.icmpYes X0.here hx rfl (pc0 := 6) (pc' := 16) rfl (hb hby d48_6) rfl (tlt i9).1 (by decide) (by decide) hr) ?_
    show Go p e s below _ _ _ _ s₁ (mkF m 16 #[.val (.int i1), .val (.int j1), .val _] [])
    refine Go.of (fun _ hr => XS.iloadN X0.here hx rfl (hb hby d48_16) rfl  hr) ?_
    show Go p e s below _ _ _ _ s₁ (mkF m 17 #[.val (.int i1), .val (.int j1), .val _] [(.int i1)])
    exact Go.retI X0 hx hlk B0 J0 e0 hret (hb hby d48_17) (by decide) (by decide) (fun vm_ hw_ => ⟨rfl, (fun y hy => Nat.le_trans hnb (N0 y hy)), rfl⟩)

theorem d47_0 : decode jdk_42_method_155_code 0 = .ok (.iload_n 0, 1) := by decide +kernel
theorem d47_1 : decode jdk_42_method_155_code 1 = .ok (.iload_n 1, 1) := by decide +kernel
theorem d47_2 : decode jdk_42_method_155_code 2 = .ok (.getstatic 1053, 3) := by decide +kernel
theorem d47_5 : decode jdk_42_method_155_code 5 = .ok (.invokestatic 1059, 3) := by decide +kernel
theorem pd5 : parseMethodDescriptor "(IILjava/util/function/BiFunction;)I" = some ⟨[.int, .int, (.object "java/util/function/BiFunction")], some .int⟩ := by decide +kernel
theorem d47_8 : decode jdk_42_method_155_code 8 = .ok (.pop, 1) := by decide +kernel
theorem d47_9 : decode jdk_42_method_155_code 9 = .ok (.return_, 1) := by decide +kernel
set_option maxRecDepth 65536 in
set_option maxHeartbeats 40000000 in
theorem rm47 (l : Launch) (Z : State) (a0 : Array Value) (hw : ∀ d ∈ tables_1, d.before a0 Z = true) (ws : List Jvm.Cond) (i1 j1 : Int32) (ms : List Addr) (h0 : Heap) (n0 : Nat) (O0 : Old Z n0 h0) (nb : Nat) (hb0 : n0 ≤ nb) (hnb : nb ≤ h0.size) (fs : Value) (hfs : fs = .null ∨ ∃ a, fs = .ref a) (S_F : Sta Z Z.heap "jdk/internal/util/Preconditions" "SIOOBE_FORMATTER" "Ljava/util/function/BiFunction;" fs) (i0 : ¬ i1 < 0) (i9 : i1 < j1) :
    Con l Z ms (⟨"java/lang/String", "checkIndex", "(II)V"⟩ : MethodName) jdk_42_method_155_code 2 none ws ({ frames := 1, cells := 0, slots := 0, locals := 14 } : Room) #[(.int i1), (.int j1)] h0 (fun v vm h L => v = none ∧ Fr nb L ∧ h = h0) := by
  refine Con.mk (plainFor_of_name pn1) ?_
  intro p e s m below meth c s₁ Cc X0 e0 eb J0 B0 M0
  obtain ⟨hx, hZ, hown, hby, hml, hnm, hret, hlk⟩ := id Cc
  have N0 := Fr.nil h0.size
  have K0 := Keep.refl h0 []
  show Go p e s below _ _ _ _ s₁ (mkF m 0 #[.val (.int i1), .val (.int j1)] [])
  refine Go.of (fun _ hr => XS.iloadN X0.here hx rfl (hb hby d47_0) rfl  hr) ?_
  show Go p e s below _ _ _ _ s₁ (mkF m 1 #[.val (.int i1), .val (.int j1)] [(.int i1)])
  refine Go.of (fun _ hr => XS.iloadN X0.here hx rfl (hb hby d47_1) rfl  hr) ?_
  show Go p e s below _ _ _ _ s₁ (mkF m 2 #[.val (.int i1), .val (.int j1)] [(.int j1), (.int i1)])
  obtain ⟨T101, X101, e101, st101⟩ := getS2 X0 hx hZ hown (host := "") (Or.inl (hw _ (List.mem_of_getElem? (i := 243) rfl))) Via.refl e0 (S_F.ext O0.2) (g := (mkF m 2 #[.val (.int i1), .val (.int j1)] [(.int j1), (.int i1)])) rfl (hb hby d47_2)
  refine Go.of (fun _ hr => st101 _ hr) ?_
  show Go p e s below _ _ _ _ T101 (mkF m 5 #[.val (.int i1), .val (.int j1)] [fs, (.int j1), (.int i1)])
  obtain ⟨_, b102, T102, h102, L102, e102, Cc102, X102, B102, J102, g102, hQ102, st102⟩ := own_callS Cc B0 J0 X101 (hw _ (List.mem_of_getElem? (i := 245) rfl)) (hw _ (List.mem_of_getElem? (i := 246) rfl)) (hw _ (List.mem_of_getElem? (i := 244) rfl)) (hw _ (List.mem_of_getElem? (i := 247) rfl)) (by decide) (rm48 l Z a0 hw [] i1 j1 fs _ h0 n0 O0 h0.size (own_ole O0) K0.1 hfs i0 i9) e101 (g := (mkF m 5 #[.val (.int i1), .val (.int j1)] [fs, (.int j1), (.int i1)])) rfl (by rw [hml]; rfl) (argsL := [(.int i1), (.int j1), fs]) (rest := []) (lenOf pd5 rfl) rfl (W := 0) (by show 2 * 0 + _ ≤ _; exact Nat.le_of_eq rfl) (hb hby d47_5) (by decide) (by decide) (by decide) (by decide)
  obtain ⟨rfl, Nq102, hh102⟩ := hQ102
  have N102 := Fr.app N0 Nq102
  obtain ⟨hx, hZ, hown, hby, hml, hnm, hret, hlk⟩ := id Cc102
  rw [hh102] at e102 B102 J102
  refine Go.of st102 ?_
  show Go p e s below _ _ _ _ T102 (mkF m 8 #[.val (.int i1), .val (.int j1)] [(.int i1)])
  refine Go.of (fun _ hr => XS.pop X102.here hx rfl (hb hby d47_8) rfl rfl hr) ?_
  show Go p e s below _ _ _ _ T102 (mkF m 9 #[.val (.int i1), .val (.int j1)] [])
  exact Go.retV X102 hx hlk B102 J102 e102 hret (hb hby d47_9) (by decide) (by decide) (fun vm_ hw_ => ⟨rfl, (fun y hy => Nat.le_trans hnb (N102 y hy)), rfl⟩)

theorem pn3 : plainName "java/lang/StringLatin1" = true := by first | (simp [plainName, overriddenIn]; done) | decide +kernel
theorem d46_0 : decode jdk_43_method_2_code 0 = .ok (.iload_n 1, 1) := by decide +kernel
theorem d46_1 : decode jdk_43_method_2_code 1 = .ok (.aload_n 0, 1) := by decide +kernel
theorem d46_2 : decode jdk_43_method_2_code 2 = .ok (.arraylength, 1) := by decide +kernel
theorem d46_3 : decode jdk_43_method_2_code 3 = .ok (.invokestatic 9, 3) := by decide +kernel
theorem pd6 : parseMethodDescriptor "(II)V" = some ⟨[.int, .int], none⟩ := by decide +kernel
theorem d46_6 : decode jdk_43_method_2_code 6 = .ok (.aload_n 0, 1) := by decide +kernel
theorem d46_7 : decode jdk_43_method_2_code 7 = .ok (.iload_n 1, 1) := by decide +kernel
theorem d46_8 : decode jdk_43_method_2_code 8 = .ok (.baload, 1) := by decide +kernel
theorem d46_9 : decode jdk_43_method_2_code 9 = .ok (.sipush 255, 3) := by decide +kernel
theorem d46_12 : decode jdk_43_method_2_code 12 = .ok (.iand, 1) := by decide +kernel
theorem d46_13 : decode jdk_43_method_2_code 13 = .ok (.i2c, 1) := by decide +kernel
theorem d46_14 : decode jdk_43_method_2_code 14 = .ok (.ireturn, 1) := by decide +kernel
set_option maxRecDepth 65536 in
set_option maxHeartbeats 40000000 in
theorem rm46 (l : Launch) (Z : State) (a0 : Array Value) (hw : ∀ d ∈ tables_1, d.before a0 Z = true) (ws : List Jvm.Cond) (t1 : Addr) (k1 : ClassId) (b1 : List Int32) (i1 : Int32) (ms : List Addr) (h0 : Heap) (n0 : Nat) (O0 : Old Z n0 h0) (nb : Nat) (hb0 : n0 ≤ nb) (hnb : nb ≤ h0.size) (fs : Value) (hfs : fs = .null ∨ ∃ a, fs = .ref a) (S_F : Sta Z Z.heap "jdk/internal/util/Preconditions" "SIOOBE_FORMATTER" "Ljava/util/function/BiFunction;" fs) (V1 : Arv Z h0 t1 k1 .byte (Int32.ofNat b1.length) (b1.map Value.int) (.int 0)) (i0 : ¬ i1 < 0) (i9 : i1 < Int32.ofNat b1.length) :
    Con l Z ms (⟨"java/lang/StringLatin1", "charAt", "([BI)C"⟩ : MethodName) jdk_43_method_2_code 2 (some .char) ws ({ frames := 2, cells := 0, slots := 0, locals := 27 } : Room) #[(.ref t1), (.int i1)] h0 (fun v vm h L => v = some (.int (chV b1 i1)) ∧ Fr nb L ∧ h = h0) := by
  refine Con.mk (plainFor_of_name pn3) ?_
  intro p e s m below meth c s₁ Cc X0 e0 eb J0 B0 M0
  obtain ⟨hx, hZ, hown, hby, hml, hnm, hret, hlk⟩ := id Cc
  have N0 := Fr.nil h0.size
  have K0 := Keep.refl h0 []
  show Go p e s below _ _ _ _ s₁ (mkF m 0 #[.val (.ref t1), .val (.int i1)] [])
  refine Go.of (fun _ hr => XS.iloadN X0.here hx rfl (hb hby d46_0) rfl  hr) ?_
  show Go p e s below _ _ _ _ s₁ (mkF m 1 #[.val (.ref t1), .val (.int i1)] [(.int i1)])
  refine Go.of (fun _ hr => XS.aloadN X0.here hx rfl (hb hby d46_1) rfl rfl hr) ?_
  show Go p e s below _ _ _ _ s₁ (mkF m 2 #[.val (.ref t1), .val (.int i1)] [(.ref t1), (.int i1)])
  obtain ⟨cl101, Ar101, q101, S101, N101_, H101, G101⟩ := id V1
  refine Go.of (fun _ hr => X0.arraylength hx (by rw [e0]; exact Ar101.1) (State.isArrayOf_alike hZ.alike Ar101.2.1) (g := (mkF m 2 #[.val (.ref t1), .val (.int i1)] [(.ref t1), (.int i1)])) rfl rfl (hb hby d46_2) _ hr) ?_
  rw [len_of S101 N101_]
  show Go p e s below _ _ _ _ s₁ (mkF m 3 #[.val (.ref t1), .val (.int i1)] [(.int (Int32.ofNat b1.length)), (.int i1)])
  obtain ⟨_, b102, T102, h102, L102, e102, Cc102, X102, B102, J102, g102, hQ102, st102⟩ := own_callS Cc B0 J0 X0 (hw _ (List.mem_of_getElem? (i := 240) rfl)) (hw _ (List.mem_of_getElem? (i := 241) rfl)) (hw _ (List.mem_of_getElem? (i := 10) rfl)) (hw _ (List.mem_of_getElem? (i := 242) rfl)) (by decide) (rm47 l Z a0 hw [] i1 (Int32.ofNat b1.length) _ h0 n0 O0 h0.size (own_ole O0) K0.1 fs hfs S_F i0 i9) e0 (g := (mkF m 3 #[.val (.ref t1), .val (.int i1)] [(.int (Int32.ofNat b1.length)), (.int i1)])) rfl (by rw [hml]; rfl) (argsL := [(.int i1), (.int (Int32.ofNat b1.length))]) (rest := []) (lenOf pd6 rfl) rfl (W := 0) (by show 2 * 0 + _ ≤ _; exact Nat.le_of_eq rfl) (hb hby d46_3) (by decide) (by decide) (by decide) (by decide)
  obtain ⟨rfl, Nq102, hh102⟩ := hQ102
  have N102 := Fr.app N0 Nq102
  obtain ⟨hx, hZ, hown, hby, hml, hnm, hret, hlk⟩ := id Cc102
  rw [hh102] at e102 B102 J102
  refine Go.of st102 ?_
  show Go p e s below _ _ _ _ T102 (mkF m 6 #[.val (.ref t1), .val (.int i1)] [])
  refine Go.of (fun _ hr => XS.aloadN X102.here hx rfl (hb hby d46_6) rfl rfl hr) ?_
  show Go p e s below _ _ _ _ T102 (mkF m 7 #[.val (.ref t1), .val (.int i1)] [(.ref t1)])
  refine Go.of (fun _ hr => XS.iloadN X102.here hx rfl (hb hby d46_7) rfl  hr) ?_
  show Go p e s below _ _ _ _ T102 (mkF m 8 #[.val (.ref t1), .val (.int i1)] [(.int i1), (.ref t1)])
  obtain ⟨cl103, Ar103, q103, S103, N103_, H103, G103⟩ := id V1
  have hin103 : ¬ (i1 < 0 ∨ cl103.slots.size ≤ (i1).toNatClampNeg) := inb_of S103 ⟨i0, i9⟩
  refine Go.of (fun _ hr => X102.baloadBytes hx (j := i1) (v := (.int (b1.getD i1.toNatClampNeg 0))) (by rw [e102]; exact Ar103.1) (State.isArrayOf_alike hZ.alike Ar103.2.1) Ar103.2.2 hin103 (H103.at hin103 (getD_int b1 _)) (g := (mkF m 8 #[.val (.ref t1), .val (.int i1)] [(.int i1), (.ref t1)])) rfl rfl (hb hby d46_8) _ hr) ?_
  show Go p e s below _ _ _ _ T102 (mkF m 9 #[.val (.ref t1), .val (.int i1)] [(.int (b1.getD i1.toNatClampNeg 0))])
  refine Go.of (fun _ hr => XS.sipush X102.here hx rfl (hb hby d46_9) hr) ?_
  show Go p e s below _ _ _ _ T102 (mkF m 12 #[.val (.ref t1), .val (.int i1)] [(.int (255 : Int32)), (.int (b1.getD i1.toNatClampNeg 0))])
  refine Go.of (fun _ hr => XS.iand X102.here hx rfl (hb hby d46_12) rfl hr) ?_
  show Go p e s below _ _ _ _ T102 (mkF m 13 #[.val (.ref t1), .val (.int i1)] [(.int ((b1.getD i1.toNatClampNeg 0) &&& (255 : Int32)))])
  refine Go.of (fun _ hr => XS.i2c X102.here hx rfl (hb hby d46_13) rfl hr) ?_
  show Go p e s below _ _ _ _ T102 (mkF m 14 #[.val (.ref t1), .val (.int i1)] [(.int (((b1.getD i1.toNatClampNeg 0) &&& (255 : Int32)).toUInt32.toUInt16.toUInt32.toInt32))])
  exact Go.retN X102 hx hlk B102 J102 e102 (t := .char) (z' := (((b1.getD i1.toNatClampNeg 0) &&& (255 : Int32)).toUInt32.toUInt16.toUInt32.toInt32)) hret (by simp) (hb hby d46_14) (own_c2 _) (by decide) (by decide) (fun vm_ hw_ => ⟨rfl, (fun y hy => Nat.le_trans hnb (N102 y hy)), rfl⟩)

theorem d45_0 : decode jdk_42_method_56_code 0 = .ok (.aload_n 0, 1) := by decide +kernel
theorem d45_1 : decode jdk_42_method_56_code 1 = .ok (.invokevirtual 492, 3) := by decide +kernel
theorem pd7 : parseMethodDescriptor "()Z" = some ⟨[], some .boolean⟩ := by decide +kernel
theorem d45_4 : decode jdk_42_method_56_code 4 = .ok (.ifCond .eq 12, 3) := by decide +kernel
theorem d45_7 : decode jdk_42_method_56_code 7 = .ok (.aload_n 0, 1) := by decide +kernel
theorem d45_8 : decode jdk_42_method_56_code 8 = .ok (.getfield 9, 3) := by decide +kernel
theorem d45_11 : decode jdk_42_method_56_code 11 = .ok (.iload_n 1, 1) := by decide +kernel
theorem d45_12 : decode jdk_42_method_56_code 12 = .ok (.invokestatic 495, 3) := by decide +kernel
theorem pd8 : parseMethodDescriptor "([BI)C" = some ⟨[(.array .byte), .int], some .char⟩ := by decide +kernel
theorem d45_15 : decode jdk_42_method_56_code 15 = .ok (.ireturn, 1) := by decide +kernel
set_option maxRecDepth 65536 in
set_option maxHeartbeats 40000000 in
theorem rm45 (l : Launch) (Z : State) (a0 : Array Value) (hw : ∀ d ∈ tables_1, d.before a0 Z = true) (ws : List Jvm.Cond) (s1 t1 : Addr) (k1 : ClassId) (b1 : List Int32) (i1 : Int32) (zc : Int32) (ms : List Addr) (h0 : Heap) (n0 : Nat) (O0 : Old Z n0 h0) (nb : Nat) (hb0 : n0 ≤ nb) (hnb : nb ≤ h0.size) (fs : Value) (hfs : fs = .null ∨ ∃ a, fs = .ref a) (S_F : Sta Z Z.heap "jdk/internal/util/Preconditions" "SIOOBE_FORMATTER" "Ljava/util/function/BiFunction;" fs) (Es1 : Exa Z h0 s1 "java/lang/String") (Fv1 : Fld Z h0 s1 "java/lang/String" "value" "[B" (.ref t1)) (Fc1 : Fld Z h0 s1 "java/lang/String" "coder" "B" (.int 0)) (V1 : Arv Z h0 t1 k1 .byte (Int32.ofNat b1.length) (b1.map Value.int) (.int 0)) (hn1 : b1.length ≤ 1000) (i0 : ¬ i1 < 0) (i9 : i1 < Int32.ofNat b1.length) (S_C : Sta Z Z.heap "java/lang/String" "COMPACT_STRINGS" "Z" (.int zc)) (hzc : ¬ zc = 0) :
    Con l Z ms (⟨"java/lang/String", "charAt", "(I)C"⟩ : MethodName) jdk_42_method_56_code 2 (some .char) ws ({ frames := 3, cells := 0, slots := 0, locals := 41 } : Room) #[(.ref s1), (.int i1)] h0 (fun v vm h L => v = some (.int (chV b1 i1)) ∧ Fr nb L ∧ h = h0) := by
  refine Con.mk (plainFor_of_name pn1) ?_
  intro p e s m below meth c s₁ Cc X0 e0 eb J0 B0 M0
  obtain ⟨hx, hZ, hown, hby, hml, hnm, hret, hlk⟩ := id Cc
  have N0 := Fr.nil h0.size
  have K0 := Keep.refl h0 []
  show Go p e s below _ _ _ _ s₁ (mkF m 0 #[.val (.ref s1), .val (.int i1)] [])
  refine Go.of (fun _ hr => XS.aloadN X0.here hx rfl (hb hby d45_0) rfl rfl hr) ?_
  show Go p e s below _ _ _ _ s₁ (mkF m 1 #[.val (.ref s1), .val (.int i1)] [(.ref s1)])
  obtain ⟨_, b101, T101, h101, L101, e101, Cc101, X101, B101, J101, g101, hQ101, st101⟩ := own_callV Cc B0 J0 X0 (hw _ (List.mem_of_getElem? (i := 78) rfl)) (hw _ (List.mem_of_getElem? (i := 79) rfl)) (notFace_of_selects (args := #[]) (mvT hZ (hw _ (List.mem_of_getElem? (i := 81) rfl)))) (hw _ (List.mem_of_getElem? (i := 81) rfl)) (hw _ (List.mem_of_getElem? (i := 80) rfl)) (hw _ (List.mem_of_getElem? (i := 10) rfl)) (hw _ (List.mem_of_getElem? (i := 82) rfl)) (by decide) Es1 (rm16 l Z a0 hw [] s1 zc _ h0 n0 O0 h0.size (own_ole O0) K0.1 Fc1 S_C hzc) e0 (g := (mkF m 1 #[.val (.ref s1), .val (.int i1)] [(.ref s1)])) rfl (by rw [hml]; rfl) (argsL := []) (rest := []) (lenOf pd7 rfl) rfl (W := 0) (by show 2 * 0 + _ ≤ _; exact Nat.le_of_eq rfl) (hb hby d45_1) (by decide) (by decide) (by decide) (by decide)
  obtain ⟨rfl, Nq101, hh101⟩ := hQ101
  have N101 := Fr.app N0 Nq101
  obtain ⟨hx, hZ, hown, hby, hml, hnm, hret, hlk⟩ := id Cc101
  rw [hh101] at e101 B101 J101
  refine Go.of st101 ?_
  show Go p e s below _ _ _ _ T101 (mkF m 4 #[.val (.ref s1), .val (.int i1)] [(.int (1 : Int32))])
  refine Go.of (fun _ hr => XS.ifNo X101.here hx rfl (hb hby d45_4) rfl ((if0 _ _).trans (feq (by decide : ¬ ((1 : Int32) = (0 : Int32)))).1) hr) ?_
  show Go p e s below _ _ _ _ T101 (mkF m 7 #[.val (.ref s1), .val (.int i1)] [])
  refine Go.of (fun _ hr => XS.aloadN X101.here hx rfl (hb hby d45_7) rfl rfl hr) ?_
  show Go p e s below _ _ _ _ T101 (mkF m 8 #[.val (.ref s1), .val (.int i1)] [(.ref s1)])
  obtain ⟨T102, X102, e102, st102⟩ := getF X101 hx hZ hown (host := "") (Or.inl (hw _ (List.mem_of_getElem? (i := 35) rfl))) Via.refl e101 Fv1 (g := (mkF m 8 #[.val (.ref s1), .val (.int i1)] [(.ref s1)])) rfl rfl (hb hby d45_8)
  refine Go.of (fun _ hr => st102 _ hr) ?_
  show Go p e s below _ _ _ _ T102 (mkF m 11 #[.val (.ref s1), .val (.int i1)] [(.ref t1)])
  refine Go.of (fun _ hr => XS.iloadN X102.here hx rfl (hb hby d45_11) rfl  hr) ?_
  show Go p e s below _ _ _ _ T102 (mkF m 12 #[.val (.ref s1), .val (.int i1)] [(.int i1), (.ref t1)])
  obtain ⟨_, b103, T103, h103, L103, e103, Cc103, X103, B103, J103, g103, hQ103, st103⟩ := own_callS Cc101 B101 J101 X102 (hw _ (List.mem_of_getElem? (i := 237) rfl)) (hw _ (List.mem_of_getElem? (i := 238) rfl)) (hw _ (List.mem_of_getElem? (i := 85) rfl)) (hw _ (List.mem_of_getElem? (i := 239) rfl)) (by decide) (rm46 l Z a0 hw [] t1 _ b1 i1 _ h0 n0 O0 h0.size (own_ole O0) K0.1 fs hfs S_F V1 i0 i9) e102 (g := (mkF m 12 #[.val (.ref s1), .val (.int i1)] [(.int i1), (.ref t1)])) rfl (by rw [hml]; rfl) (argsL := [(.ref t1), (.int i1)]) (rest := []) (lenOf pd8 rfl) rfl (W := 0) (by show 2 * 0 + _ ≤ _; exact Nat.le_of_eq rfl) (hb hby d45_12) (by decide) (by decide) (by decide) (by decide)
  obtain ⟨rfl, Nq103, hh103⟩ := hQ103
  have N103 := Fr.app N101 Nq103
  obtain ⟨hx, hZ, hown, hby, hml, hnm, hret, hlk⟩ := id Cc103
  rw [hh103] at e103 B103 J103
  refine Go.of st103 ?_
  show Go p e s below _ _ _ _ T103 (mkF m 15 #[.val (.ref s1), .val (.int i1)] [(.int (chV b1 i1))])
  exact Go.retN X103 hx hlk B103 J103 e103 (t := .char) (z' := (chV b1 i1)) hret (by simp) (hb hby d45_15) (own_c2 _) (by decide) (by decide) (fun vm_ hw_ => ⟨rfl, (fun y hy => Nat.le_trans hnb (N103 y hy)), rfl⟩)

theorem pn4 : plainName "java/lang/AbstractStringBuilder" = true := by first | (simp [plainName, overriddenIn]; done) | decide +kernel
theorem d26_0 : decode jdk_68_method_2_code 0 = .ok (.aload_n 0, 1) := by decide +kernel
theorem d26_1 : decode jdk_68_method_2_code 1 = .ok (.invokespecial 3, 3) := by decide +kernel
theorem d26_4 : decode jdk_68_method_2_code 4 = .ok (.getstatic 18, 3) := by decide +kernel
theorem d26_7 : decode jdk_68_method_2_code 7 = .ok (.ifCond .eq 18, 3) := by decide +kernel
theorem d26_10 : decode jdk_68_method_2_code 10 = .ok (.aload_n 0, 1) := by decide +kernel
theorem d26_11 : decode jdk_68_method_2_code 11 = .ok (.iload_n 1, 1) := by decide +kernel
theorem d26_12 : decode jdk_68_method_2_code 12 = .ok (.newarray .byte, 2) := by decide +kernel
theorem d26_14 : decode jdk_68_method_2_code 14 = .ok (.putfield 15, 3) := by decide +kernel
theorem d26_17 : decode jdk_68_method_2_code 17 = .ok (.aload_n 0, 1) := by decide +kernel
theorem d26_18 : decode jdk_68_method_2_code 18 = .ok (.iconst 0, 1) := by decide +kernel
theorem d26_19 : decode jdk_68_method_2_code 19 = .ok (.putfield 22, 3) := by decide +kernel
theorem d26_22 : decode jdk_68_method_2_code 22 = .ok (.goto 16, 3) := by decide +kernel
theorem d26_38 : decode jdk_68_method_2_code 38 = .ok (.return_, 1) := by decide +kernel
set_option maxRecDepth 65536 in
set_option maxHeartbeats 40000000 in
theorem rm26 (l : Launch) (Z : State) (a0 : Array Value) (hw : ∀ d ∈ tables_1, d.before a0 Z = true) (ws : List Jvm.Cond) (a1 : Addr) (u1 u2 : Value) (zc : Int32) (ms : List Addr) (h0 : Heap) (n0 : Nat) (O0 : Old Z n0 h0) (nb : Nat) (hb0 : n0 ≤ nb) (hnb : nb ≤ h0.size) (fr_a1 : nb ≤ a1) (hm_a1 : a1 ∈ ms) (Ea1 : Exa Z h0 a1 "java/lang/StringBuilder") (G1 : Fld Z h0 a1 "java/lang/AbstractStringBuilder" "value" "[B" u1) (G2 : Fld Z h0 a1 "java/lang/AbstractStringBuilder" "coder" "B" u2) (G3 : Fld Z h0 a1 "java/lang/AbstractStringBuilder" "count" "I" (.int 0)) (S_C : Sta Z Z.heap "java/lang/String" "COMPACT_STRINGS" "Z" (.int zc)) (hzc : ¬ zc = 0) :
    Con l Z ms (⟨"java/lang/AbstractStringBuilder", "<init>", "(I)V"⟩ : MethodName) jdk_68_method_2_code 2 none ws ({ frames := 1, cells := 1, slots := 16, locals := 13 } : Room) #[(.ref a1), (.int (16 : Int32))] h0 (fun v vm h L => v = none ∧ Fr nb L ∧ Keep h0 h [a1] ∧ ∃ v1 kv, h0.size ≤ v1 ∧ Fld Z h a1 "java/lang/AbstractStringBuilder" "value" "[B" (.ref v1) ∧ Fld Z h a1 "java/lang/AbstractStringBuilder" "coder" "B" (.int 0) ∧ Fld Z h a1 "java/lang/AbstractStringBuilder" "count" "I" (.int 0) ∧ Arv Z h v1 kv .byte 16 [] (.int 0) ∧ Hd Z (v1 :: ms) vm h) := by
  refine Con.mk (plainFor_of_name pn4) ?_
  intro p e s m below meth c s₁ Cc X0 e0 eb J0 B0 M0
  obtain ⟨hx, hZ, hown, hby, hml, hnm, hret, hlk⟩ := id Cc
  have N0 := Fr.nil nb
  have K0 := Keep.refl h0 [a1]
  show Go p e s below _ _ _ _ s₁ (mkF m 0 #[.val (.ref a1), .val (.int (16 : Int32))] [])
  refine Go.of (fun _ hr => XS.aloadN X0.here hx rfl (hb hby d26_0) rfl rfl hr) ?_
  show Go p e s below _ _ _ _ s₁ (mkF m 1 #[.val (.ref a1), .val (.int (16 : Int32))] [(.ref a1)])
  obtain ⟨T101, X101, e101, st101⟩ := initO X0 hx hZ hown (hw _ (List.mem_of_getElem? (i := 138) rfl)) (hw _ (List.mem_of_getElem? (i := 19) rfl)) (hw _ (List.mem_of_getElem? (i := 20) rfl)) e0 (g := (mkF m 1 #[.val (.ref a1), .val (.int (16 : Int32))] [(.ref a1)])) rfl (by rw [hml]; rfl) rfl (hb hby d26_1) (by decide) (W := 0) (by show 2 * 0 + _ ≤ _; exact Nat.le_of_eq rfl) (by decide)
  refine Go.of (fun _ hr => st101 _ hr) ?_
  show Go p e s below _ _ _ _ T101 (mkF m 4 #[.val (.ref a1), .val (.int (16 : Int32))] [])
  obtain ⟨T102, X102, e102, st102⟩ := getS2 X101 hx hZ hown (host := "") (Or.inl (hw _ (List.mem_of_getElem? (i := 139) rfl))) Via.refl e101 (S_C.ext O0.2) (g := (mkF m 4 #[.val (.ref a1), .val (.int (16 : Int32))] [])) rfl (hb hby d26_4)
  refine Go.of (fun _ hr => st102 _ hr) ?_
  show Go p e s below _ _ _ _ T102 (mkF m 7 #[.val (.ref a1), .val (.int (16 : Int32))] [(.int zc)])
  refine Go.of (fun _ hr => XS.ifNo X102.here hx rfl (hb hby d26_7) rfl ((if0 _ _).trans (feq hzc).1) hr) ?_
  show Go p e s below _ _ _ _ T102 (mkF m 10 #[.val (.ref a1), .val (.int (16 : Int32))] [])
  refine Go.of (fun _ hr => XS.aloadN X102.here hx rfl (hb hby d26_10) rfl rfl hr) ?_
  show Go p e s below _ _ _ _ T102 (mkF m 11 #[.val (.ref a1), .val (.int (16 : Int32))] [(.ref a1)])
  refine Go.of (fun _ hr => XS.iloadN X102.here hx rfl (hb hby d26_11) rfl  hr) ?_
  show Go p e s below _ _ _ _ T102 (mkF m 12 #[.val (.ref a1), .val (.int (16 : Int32))] [(.int (16 : Int32)), (.ref a1)])
  obtain ⟨T103, h103, k103, X103, e103, E103, A103, st103⟩ := newP X102 hx hZ (hw _ (List.mem_of_getElem? (i := 26) rfl)) e102 (g := (mkF m 12 #[.val (.ref a1), .val (.int (16 : Int32))] [(.int (16 : Int32)), (.ref a1)])) rfl (hb hby d26_12) rfl (by decide) (cap := 16) (by decide) (by decide) (by decide) (by decide)
  obtain ⟨o103, g103⟩ : ∃ z, z = h0.size := ⟨_, rfl⟩
  rw [← g103] at A103 st103
  have ne_a1_o103 : a1 ≠ o103 := Nat.ne_of_lt (Nat.lt_of_lt_of_le Ea1.lt (Nat.le_of_eq g103.symm))
  have V103 := Arv.new A103 (by decide)
  have lt103 : o103 < h103.size := A103.lt
  have J103 := J0.add E103 g103 lt103
  have B103 := B0.mono E103.1
  have O103 := O0.ext E103
  have sz103 : h0.size ≤ o103 := Nat.le_trans K0.1 (Nat.le_of_eq g103.symm)
  have fr103 : nb ≤ o103 := Nat.le_trans hnb sz103
  have K103 := K0.ext E103
  refine Go.of (fun _ hr => st103 _ hr) ?_
  show Go p e s below _ _ _ _ T103 (mkF m 14 #[.val (.ref a1), .val (.int (16 : Int32))] [(.ref o103), (.ref a1)])
  have f105 := (G1.ext E103)
  have f106 := (Ea1.ext E103)
  obtain ⟨T104, h104, X104, e104, W104, st104⟩ := putF X103 hx hZ hown (host := "") (Or.inl (hw _ (List.mem_of_getElem? (i := 140) rfl))) Via.refl e103 f105 f106 (Or.inl (hw _ (List.mem_of_getElem? (i := 141) rfl))) (hw _ (List.mem_of_getElem? (i := 127) rfl)) (ty := (.array .byte)) (by decide) rfl rfl (g := (mkF m 14 #[.val (.ref a1), .val (.int (16 : Int32))] [(.ref o103), (.ref a1)])) rfl rfl (hb hby d26_14)
  have N104 := Fr.snoc X104 N0 fr_a1
  have J104 := J103.wr W104 (List.mem_cons_of_mem _ hm_a1)
  have B104 := B103.mono (Nat.le_of_eq W104.size.symm)
  have O104 := O103.wr W104 (Nat.le_trans hb0 fr_a1)
  have K104 := K103.wr W104 (Or.inl (List.mem_of_getElem? (i := 0) rfl))
  have Fw104 := f105.same W104
  refine Go.of (fun _ hr => st104 _ hr) ?_
  show Go p e s below _ _ _ _ T104 (mkF m 17 #[.val (.ref a1), .val (.int (16 : Int32))] [])
  refine Go.of (fun _ hr => XS.aloadN X104.here hx rfl (hb hby d26_17) rfl rfl hr) ?_
  show Go p e s below _ _ _ _ T104 (mkF m 18 #[.val (.ref a1), .val (.int (16 : Int32))] [(.ref a1)])
  refine Go.of (fun _ hr => XS.iconst X104.here hx rfl (hb hby d26_18) hr) ?_
  show Go p e s below _ _ _ _ T104 (mkF m 19 #[.val (.ref a1), .val (.int (16 : Int32))] [(.int (0 : Int32)), (.ref a1)])
  have f108 := ((G2.ext E103).other W104 (Or.inr (slot_ne (Or.inl (hw _ (List.mem_of_getElem? (i := 143) rfl))) (Or.inl (hw _ (List.mem_of_getElem? (i := 141) rfl))) (by decide) (t := .byte) (t' := (.array .byte)) (by decide) (by decide))))
  have f109 := (f106.wr W104)
  obtain ⟨T107, h107, X107, e107, W107, st107⟩ := putFN X104 hx hZ hown (hw _ (List.mem_of_getElem? (i := 142) rfl)) Via.refl e104 f108 f109 (Or.inl (hw _ (List.mem_of_getElem? (i := 143) rfl))) (hw _ (List.mem_of_getElem? (i := 127) rfl)) (ty := .byte) (v := (.int (0 : Int32))) (v' := (.int (0 : Int32))) (by decide) rfl rfl (g := (mkF m 19 #[.val (.ref a1), .val (.int (16 : Int32))] [(.int (0 : Int32)), (.ref a1)])) rfl rfl (hb hby d26_19)
  have N107 := Fr.snoc X107 N104 fr_a1
  have J107 := J104.wr W107 (List.mem_cons_of_mem _ hm_a1)
  have B107 := B104.mono (Nat.le_of_eq W107.size.symm)
  have O107 := O104.wr W107 (Nat.le_trans hb0 fr_a1)
  have K107 := K104.wr W107 (Or.inl (List.mem_of_getElem? (i := 0) rfl))
  have Fw107 := f108.same W107
  refine Go.of (fun _ hr => st107 _ hr) ?_
  show Go p e s below _ _ _ _ T107 (mkF m 22 #[.val (.ref a1), .val (.int (16 : Int32))] [])
  refine Go.of (fun _ hr => XS.goto X107.here hx rfl (pc0 := 22) (pc' := 38) rfl (hb hby d26_22) (by decide) (by decide) hr) ?_
  show Go p e s below _ _ _ _ T107 (mkF m 38 #[.val (.ref a1), .val (.int (16 : Int32))] [])
  have f110 := (Fw104.other W107 (Or.inr (slot_ne (Or.inl (hw _ (List.mem_of_getElem? (i := 141) rfl))) (Or.inl (hw _ (List.mem_of_getElem? (i := 143) rfl))) (by decide) (t := (.array .byte)) (t' := .byte) (by decide) (by decide))))
  have f111 := (((G3.ext E103).other W104 (Or.inr (slot_ne (Or.inl (hw _ (List.mem_of_getElem? (i := 156) rfl))) (Or.inl (hw _ (List.mem_of_getElem? (i := 141) rfl))) (by decide) (t := .int) (t' := (.array .byte)) (by decide) (by decide)))).other W107 (Or.inr (slot_ne (Or.inl (hw _ (List.mem_of_getElem? (i := 156) rfl))) (Or.inl (hw _ (List.mem_of_getElem? (i := 143) rfl))) (by decide) (t := .int) (t' := .byte) (by decide) (by decide))))
  have f112 := ((V103.other W104 (Ne.symm ne_a1_o103)).other W107 (Ne.symm ne_a1_o103))
  exact Go.retV X107 hx hlk B107 (J107.sub fun x hx => (List.mem_cons_of_mem _ hx)) e107 hret (hb hby d26_38) (by decide) (by decide) (fun vm_ hw_ => ⟨rfl, N107, K107, _, _, sz103, f110, Fw107, f111, f112, J107.warm hw_⟩)

theorem pn5 : plainName "java/lang/StringBuilder" = true := by first | (simp [plainName, overriddenIn]; done) | decide +kernel
theorem d25_0 : decode jdk_67_method_1_code 0 = .ok (.aload_n 0, 1) := by decide +kernel
theorem d25_1 : decode jdk_67_method_1_code 1 = .ok (.bipush 16, 2) := by decide +kernel
theorem d25_3 : decode jdk_67_method_1_code 3 = .ok (.invokespecial 1, 3) := by decide +kernel
theorem pd9 : parseMethodDescriptor "(I)V" = some ⟨[.int], none⟩ := by decide +kernel
theorem d25_6 : decode jdk_67_method_1_code 6 = .ok (.return_, 1) := by decide +kernel
set_option maxRecDepth 65536 in
set_option maxHeartbeats 40000000 in
theorem rm25 (l : Launch) (Z : State) (a0 : Array Value) (hw : ∀ d ∈ tables_1, d.before a0 Z = true) (ws : List Jvm.Cond) (a1 : Addr) (u1 u2 : Value) (zc : Int32) (ms : List Addr) (h0 : Heap) (n0 : Nat) (O0 : Old Z n0 h0) (nb : Nat) (hb0 : n0 ≤ nb) (hnb : nb ≤ h0.size) (fr_a1 : nb ≤ a1) (hm_a1 : a1 ∈ ms) (Ea1 : Exa Z h0 a1 "java/lang/StringBuilder") (G1 : Fld Z h0 a1 "java/lang/AbstractStringBuilder" "value" "[B" u1) (G2 : Fld Z h0 a1 "java/lang/AbstractStringBuilder" "coder" "B" u2) (G3 : Fld Z h0 a1 "java/lang/AbstractStringBuilder" "count" "I" (.int 0)) (S_C : Sta Z Z.heap "java/lang/String" "COMPACT_STRINGS" "Z" (.int zc)) (hzc : ¬ zc = 0) :
    Con l Z ms (⟨"java/lang/StringBuilder", "<init>", "()V"⟩ : MethodName) jdk_67_method_1_code 1 none ws ({ frames := 2, cells := 1, slots := 16, locals := 26 } : Room) #[(.ref a1)] h0 (fun v vm h L => v = none ∧ Fr nb L ∧ Keep h0 h [a1] ∧ ∃ v1 kv, h0.size ≤ v1 ∧ Fld Z h a1 "java/lang/AbstractStringBuilder" "value" "[B" (.ref v1) ∧ Fld Z h a1 "java/lang/AbstractStringBuilder" "coder" "B" (.int 0) ∧ Fld Z h a1 "java/lang/AbstractStringBuilder" "count" "I" (.int 0) ∧ Arv Z h v1 kv .byte 16 [] (.int 0) ∧ Hd Z (v1 :: ms) vm h) := by
  refine Con.mk (plainFor_of_name pn5) ?_
  intro p e s m below meth c s₁ Cc X0 e0 eb J0 B0 M0
  obtain ⟨hx, hZ, hown, hby, hml, hnm, hret, hlk⟩ := id Cc
  have N0 := Fr.nil nb
  have K0 := Keep.refl h0 [a1]
  show Go p e s below _ _ _ _ s₁ (mkF m 0 #[.val (.ref a1)] [])
  refine Go.of (fun _ hr => XS.aloadN X0.here hx rfl (hb hby d25_0) rfl rfl hr) ?_
  show Go p e s below _ _ _ _ s₁ (mkF m 1 #[.val (.ref a1)] [(.ref a1)])
  refine Go.of (fun _ hr => XS.bipush X0.here hx rfl (hb hby d25_1) hr) ?_
  show Go p e s below _ _ _ _ s₁ (mkF m 3 #[.val (.ref a1)] [(.int (16 : Int32)), (.ref a1)])
  obtain ⟨_, b101, T101, h101, L101, e101, Cc101, X101, B101, J101, g101, hQ101, st101⟩ := own_callI Cc B0 J0 X0 rfl (hw _ (List.mem_of_getElem? (i := 132) rfl)) (hw _ (List.mem_of_getElem? (i := 133) rfl)) (hw _ (List.mem_of_getElem? (i := 136) rfl)) (hw _ (List.mem_of_getElem? (i := 137) rfl)) (by decide) (rm26 l Z a0 hw [] a1 _ _ zc _ h0 n0 O0 nb hb0 (Nat.le_trans hnb K0.1) fr_a1 hm_a1 Ea1 G1 G2 G3 S_C hzc) e0 (g := (mkF m 3 #[.val (.ref a1)] [(.int (16 : Int32)), (.ref a1)])) rfl (by rw [hml]; rfl) (argsL := [(.int (16 : Int32))]) (rest := []) (lenOf pd9 rfl) rfl (W := 0) (by show 2 * 0 + _ ≤ _; exact Nat.le_of_eq rfl) (hb hby d25_3) (by decide) (by decide) (by decide) (by decide)
  obtain ⟨rfl, Nq101, Kq101, v101, kv101, R_v101, Gv101, Gc101, Gn101, W101_, Jv101⟩ := hQ101
  have N101 := Fr.app N0 Nq101
  obtain ⟨hx, hZ, hown, hby, hml, hnm, hret, hlk⟩ := id Cc101
  have sz_v101 : h0.size ≤ v101 := Nat.le_trans K0.1 R_v101
  have fr_v101 : nb ≤ v101 := Nat.le_trans hnb sz_v101
  have ne_a1_v101 : a1 ≠ v101 := Nat.ne_of_lt (Nat.lt_of_lt_of_le Ea1.lt R_v101)
  have K101 := K0.trans Kq101 (allS (Or.inl (List.mem_of_getElem? (i := 0) rfl)) all0)
  have O101 := O0.keep Kq101 (allS (Nat.le_trans hb0 fr_a1) all0)
  refine Go.of st101 ?_
  show Go p e s below _ _ _ _ T101 (mkF m 6 #[.val (.ref a1)] [])
  exact Go.retV X101 hx hlk B101 (Jv101.sub fun x hx => (List.mem_cons_of_mem _ hx)) e101 hret (hb hby d25_6) (by decide) (by decide) (fun vm_ hw_ => ⟨rfl, N101, K101, _, _, sz_v101, Gv101, Gc101, Gn101, W101_, Jv101.warm hw_⟩)

theorem d29_0 : decode jdk_68_method_9_code 0 = .ok (.aload_n 0, 1) := by decide +kernel
theorem d29_1 : decode jdk_68_method_9_code 1 = .ok (.getfield 15, 3) := by decide +kernel
theorem d29_4 : decode jdk_68_method_9_code 4 = .ok (.arraylength, 1) := by decide +kernel
theorem d29_5 : decode jdk_68_method_9_code 5 = .ok (.aload_n 0, 1) := by decide +kernel
theorem d29_6 : decode jdk_68_method_9_code 6 = .ok (.getfield 22, 3) := by decide +kernel
theorem d29_9 : decode jdk_68_method_9_code 9 = .ok (.ishr, 1) := by decide +kernel
theorem d29_10 : decode jdk_68_method_9_code 10 = .ok (.istore_n 2, 1) := by decide +kernel
theorem d29_11 : decode jdk_68_method_9_code 11 = .ok (.iload_n 1, 1) := by decide +kernel
theorem d29_12 : decode jdk_68_method_9_code 12 = .ok (.iload_n 2, 1) := by decide +kernel
theorem d29_13 : decode jdk_68_method_9_code 13 = .ok (.isub, 1) := by decide +kernel
theorem d29_14 : decode jdk_68_method_9_code 14 = .ok (.ifCond .le 24, 3) := by decide +kernel
theorem d29_38 : decode jdk_68_method_9_code 38 = .ok (.return_, 1) := by decide +kernel
set_option maxRecDepth 65536 in
set_option maxHeartbeats 40000000 in
theorem rm29 (l : Launch) (Z : State) (a0 : Array Value) (hw : ∀ d ∈ tables_1, d.before a0 Z = true) (ws : List Jvm.Cond) (a1 v1 : Addr) (kv : ClassId) (bs : List Int32) (j : Nat) (ms : List Addr) (h0 : Heap) (n0 : Nat) (O0 : Old Z n0 h0) (nb : Nat) (hb0 : n0 ≤ nb) (hnb : nb ≤ h0.size) (Ea1 : Exa Z h0 a1 "java/lang/StringBuilder") (Gv : Fld Z h0 a1 "java/lang/AbstractStringBuilder" "value" "[B" (.ref v1)) (Gc : Fld Z h0 a1 "java/lang/AbstractStringBuilder" "coder" "B" (.int 0)) (Gn : Fld Z h0 a1 "java/lang/AbstractStringBuilder" "count" "I" (.int (Int32.ofNat bs.length))) (W1 : Arv Z h0 v1 kv .byte 16 (bs.map Value.int) (.int 0)) (hj : j ≤ 16) :
    Con l Z ms (⟨"java/lang/AbstractStringBuilder", "ensureCapacityInternal", "(I)V"⟩ : MethodName) jdk_68_method_9_code 3 none ws ({ frames := 0, cells := 0, slots := 0, locals := 0 } : Room) #[(.ref a1), (.int (Int32.ofNat j))] h0 (fun v vm h L => v = none ∧ Fr nb L ∧ h = h0) := by
  refine Con.mk (plainFor_of_name pn4) ?_
  intro p e s m below meth c s₁ Cc X0 e0 eb J0 B0 M0
  obtain ⟨hx, hZ, hown, hby, hml, hnm, hret, hlk⟩ := id Cc
  have N0 := Fr.nil h0.size
  have K0 := Keep.refl h0 []
  show Go p e s below _ _ _ _ s₁ (mkF m 0 #[.val (.ref a1), .val (.int (Int32.ofNat j)), .unset] [])
  refine Go.of (fun _ hr => XS.aloadN X0.here hx rfl (hb hby d29_0) rfl rfl hr) ?_
  show Go p e s below _ _ _ _ s₁ (mkF m 1 #[.val (.ref a1), .val (.int (Int32.ofNat j)), .unset] [(.ref a1)])
  obtain ⟨T101, X101, e101, st101⟩ := getF X0 hx hZ hown (host := "") (Or.inl (hw _ (List.mem_of_getElem? (i := 140) rfl))) Via.refl e0 Gv (g := (mkF m 1 #[.val (.ref a1), .val (.int (Int32.ofNat j)), .unset] [(.ref a1)])) rfl rfl (hb hby d29_1)
  refine Go.of (fun _ hr => st101 _ hr) ?_
  show Go p e s below _ _ _ _ T101 (mkF m 4 #[.val (.ref a1), .val (.int (Int32.ofNat j)), .unset] [(.ref v1)])
  obtain ⟨cl102, Ar102, q102, S102, N102_, H102, G102⟩ := id W1
  refine Go.of (fun _ hr => X101.arraylength hx (by rw [e101]; exact Ar102.1) (State.isArrayOf_alike hZ.alike Ar102.2.1) (g := (mkF m 4 #[.val (.ref a1), .val (.int (Int32.ofNat j)), .unset] [(.ref v1)])) rfl rfl (hb hby d29_4) _ hr) ?_
  rw [len_of S102 N102_]
  show Go p e s below _ _ _ _ T101 (mkF m 5 #[.val (.ref a1), .val (.int (Int32.ofNat j)), .unset] [(.int (16 : Int32))])
  refine Go.of (fun _ hr => XS.aloadN X101.here hx rfl (hb hby d29_5) rfl rfl hr) ?_
  show Go p e s below _ _ _ _ T101 (mkF m 6 #[.val (.ref a1), .val (.int (Int32.ofNat j)), .unset] [(.ref a1), (.int (16 : Int32))])
  obtain ⟨T103, X103, e103, st103⟩ := getF X101 hx hZ hown (host := "") (Or.inl (hw _ (List.mem_of_getElem? (i := 142) rfl))) Via.refl e101 Gc (g := (mkF m 6 #[.val (.ref a1), .val (.int (Int32.ofNat j)), .unset] [(.ref a1), (.int (16 : Int32))])) rfl rfl (hb hby d29_6)
  refine Go.of (fun _ hr => st103 _ hr) ?_
  show Go p e s below _ _ _ _ T103 (mkF m 9 #[.val (.ref a1), .val (.int (Int32.ofNat j)), .unset] [(.int (0 : Int32)), (.int (16 : Int32))])
  refine Go.of (fun _ hr => XS.ishr X103.here hx rfl (hb hby d29_9) rfl hr) ?_
  show Go p e s below _ _ _ _ T103 (mkF m 10 #[.val (.ref a1), .val (.int (Int32.ofNat j)), .unset] [(.int ((16 : Int32) >>> ((0 : Int32) &&& 31)))])
  rw [own_sh0]
  show Go p e s below _ _ _ _ T103 (mkF m 10 #[.val (.ref a1), .val (.int (Int32.ofNat j)), .unset] [(.int (16 : Int32))])
  refine Go.of (fun _ hr => XS.istoreN X103.here hx rfl (hb hby d29_10) rfl (l' := #[.val (.ref a1), .val (.int (Int32.ofNat j)), .val (.int (16 : Int32))]) rfl hr) ?_
  show Go p e s below _ _ _ _ T103 (mkF m 11 #[.val (.ref a1), .val (.int (Int32.ofNat j)), .val (.int (16 : Int32))] [])
  refine Go.of (fun _ hr => XS.iloadN X103.here hx rfl (hb hby d29_11) rfl  hr) ?_
  show Go p e s below _ _ _ _ T103 (mkF m 12 #[.val (.ref a1), .val (.int (Int32.ofNat j)), .val (.int (16 : Int32))] [(.int (Int32.ofNat j))])
  refine Go.of (fun _ hr => XS.iloadN X103.here hx rfl (hb hby d29_12) rfl  hr) ?_
  show Go p e s below _ _ _ _ T103 (mkF m 13 #[.val (.ref a1), .val (.int (Int32.ofNat j)), .val (.int (16 : Int32))] [(.int (16 : Int32)), (.int (Int32.ofNat j))])
  refine Go.of (fun _ hr => XS.isub X103.here hx rfl (hb hby d29_13) rfl hr) ?_
  show Go p e s below _ _ _ _ T103 (mkF m 14 #[.val (.ref a1), .val (.int (Int32.ofNat j)), .val (.int (16 : Int32))] [(.int ((Int32.ofNat j) - (16 : Int32)))])
  refine Go.of (fun _ hr => XS.ifYes X103.here hx rfl (pc0 := 14) (pc' := 38) rfl (hb hby d29_14) rfl ((if0 _ _).trans (flt (own_ens hj)).2.2.2) (by decide) (by decide) hr) ?_
  show Go p e s below _ _ _ _ T103 (mkF m 38 #[.val (.ref a1), .val (.int (Int32.ofNat j)), .val (.int (16 : Int32))] [])
  exact Go.retV X103 hx hlk B0 J0 e103 hret (hb hby d29_38) (by decide) (by decide) (fun vm_ hw_ => ⟨rfl, (fun y hy => Nat.le_trans hnb (N0 y hy)), rfl⟩)

theorem d31_0 : decode jdk_68_method_71_code 0 = .ok (.getstatic 18, 3) := by decide +kernel
theorem d31_3 : decode jdk_68_method_71_code 3 = .ok (.ifCond .eq 18, 3) := by decide +kernel
theorem d31_6 : decode jdk_68_method_71_code 6 = .ok (.aload_n 0, 1) := by decide +kernel
theorem d31_7 : decode jdk_68_method_71_code 7 = .ok (.getfield 22, 3) := by decide +kernel
theorem d31_10 : decode jdk_68_method_71_code 10 = .ok (.aload_n 1, 1) := by decide +kernel
theorem d31_11 : decode jdk_68_method_71_code 11 = .ok (.invokevirtual 40, 3) := by decide +kernel
theorem d31_14 : decode jdk_68_method_71_code 14 = .ok (.if_icmp .eq 7, 3) := by decide +kernel
theorem d31_21 : decode jdk_68_method_71_code 21 = .ok (.return_, 1) := by decide +kernel
set_option maxRecDepth 65536 in
set_option maxHeartbeats 40000000 in
theorem rm31 (l : Launch) (Z : State) (a0 : Array Value) (hw : ∀ d ∈ tables_1, d.before a0 Z = true) (ws : List Jvm.Cond) (a1 v1 : Addr) (kv : ClassId) (bs : List Int32) (s2 t2 : Addr) (k2 : ClassId) (b2 : List Int32) (zc : Int32) (ms : List Addr) (h0 : Heap) (n0 : Nat) (O0 : Old Z n0 h0) (nb : Nat) (hb0 : n0 ≤ nb) (hnb : nb ≤ h0.size) (Ea1 : Exa Z h0 a1 "java/lang/StringBuilder") (Gv : Fld Z h0 a1 "java/lang/AbstractStringBuilder" "value" "[B" (.ref v1)) (Gc : Fld Z h0 a1 "java/lang/AbstractStringBuilder" "coder" "B" (.int 0)) (Gn : Fld Z h0 a1 "java/lang/AbstractStringBuilder" "count" "I" (.int (Int32.ofNat bs.length))) (W1 : Arv Z h0 v1 kv .byte 16 (bs.map Value.int) (.int 0)) (Es2 : Exa Z h0 s2 "java/lang/String") (Fv2 : Fld Z h0 s2 "java/lang/String" "value" "[B" (.ref t2)) (Fc2 : Fld Z h0 s2 "java/lang/String" "coder" "B" (.int 0)) (V2 : Arv Z h0 t2 k2 .byte (Int32.ofNat b2.length) (b2.map Value.int) (.int 0)) (hn2 : b2.length ≤ 1000) (S_C : Sta Z Z.heap "java/lang/String" "COMPACT_STRINGS" "Z" (.int zc)) (hzc : ¬ zc = 0) :
    Con l Z ms (⟨"java/lang/AbstractStringBuilder", "inflateIfNeededFor", "(Ljava/lang/String;)V"⟩ : MethodName) jdk_68_method_71_code 2 none ws ({ frames := 1, cells := 0, slots := 0, locals := 13 } : Room) #[(.ref a1), (.ref s2)] h0 (fun v vm h L => v = none ∧ Fr nb L ∧ h = h0) := by
  refine Con.mk (plainFor_of_name pn4) ?_
  intro p e s m below meth c s₁ Cc X0 e0 eb J0 B0 M0
  obtain ⟨hx, hZ, hown, hby, hml, hnm, hret, hlk⟩ := id Cc
  have N0 := Fr.nil h0.size
  have K0 := Keep.refl h0 []
  show Go p e s below _ _ _ _ s₁ (mkF m 0 #[.val (.ref a1), .val (.ref s2)] [])
  obtain ⟨T101, X101, e101, st101⟩ := getS2 X0 hx hZ hown (host := "") (Or.inl (hw _ (List.mem_of_getElem? (i := 139) rfl))) Via.refl e0 (S_C.ext O0.2) (g := (mkF m 0 #[.val (.ref a1), .val (.ref s2)] [])) rfl (hb hby d31_0)
  refine Go.of (fun _ hr => st101 _ hr) ?_
  show Go p e s below _ _ _ _ T101 (mkF m 3 #[.val (.ref a1), .val (.ref s2)] [(.int zc)])
  refine Go.of (fun _ hr => XS.ifNo X101.here hx rfl (hb hby d31_3) rfl ((if0 _ _).trans (feq hzc).1) hr) ?_
  show Go p e s below _ _ _ _ T101 (mkF m 6 #[.val (.ref a1), .val (.ref s2)] [])
  refine Go.of (fun _ hr => XS.aloadN X101.here hx rfl (hb hby d31_6) rfl rfl hr) ?_
  show Go p e s below _ _ _ _ T101 (mkF m 7 #[.val (.ref a1), .val (.ref s2)] [(.ref a1)])
  obtain ⟨T102, X102, e102, st102⟩ := getF X101 hx hZ hown (host := "") (Or.inl (hw _ (List.mem_of_getElem? (i := 142) rfl))) Via.refl e101 Gc (g := (mkF m 7 #[.val (.ref a1), .val (.ref s2)] [(.ref a1)])) rfl rfl (hb hby d31_7)
  refine Go.of (fun _ hr => st102 _ hr) ?_
  show Go p e s below _ _ _ _ T102 (mkF m 10 #[.val (.ref a1), .val (.ref s2)] [(.int (0 : Int32))])
  refine Go.of (fun _ hr => XS.aloadN X102.here hx rfl (hb hby d31_10) rfl rfl hr) ?_
  show Go p e s below _ _ _ _ T102 (mkF m 11 #[.val (.ref a1), .val (.ref s2)] [(.ref s2), (.int (0 : Int32))])
  obtain ⟨_, b103, T103, h103, L103, e103, Cc103, X103, B103, J103, g103, hQ103, st103⟩ := own_callV Cc B0 J0 X102 (hw _ (List.mem_of_getElem? (i := 172) rfl)) (hw _ (List.mem_of_getElem? (i := 109) rfl)) (notFace_of_selects (args := #[]) (mvT hZ (hw _ (List.mem_of_getElem? (i := 111) rfl)))) (hw _ (List.mem_of_getElem? (i := 111) rfl)) (hw _ (List.mem_of_getElem? (i := 110) rfl)) (hw _ (List.mem_of_getElem? (i := 10) rfl)) (hw _ (List.mem_of_getElem? (i := 112) rfl)) (by decide) Es2 (rm22 l Z a0 hw [] s2 zc _ h0 n0 O0 h0.size (own_ole O0) K0.1 Fc2 S_C hzc) e102 (g := (mkF m 11 #[.val (.ref a1), .val (.ref s2)] [(.ref s2), (.int (0 : Int32))])) rfl (by rw [hml]; rfl) (argsL := []) (rest := [(.int (0 : Int32))]) (lenOf pd4 rfl) rfl (W := 1) (by show 2 * 0 + _ ≤ _; exact Nat.le_of_eq rfl) (hb hby d31_11) (by decide) (by decide) (by decide) (by decide)
  obtain ⟨rfl, Nq103, hh103⟩ := hQ103
  have N103 := Fr.app N0 Nq103
  obtain ⟨hx, hZ, hown, hby, hml, hnm, hret, hlk⟩ := id Cc103
  rw [hh103] at e103 B103 J103
  refine Go.of st103 ?_
  show Go p e s below _ _ _ _ T103 (mkF m 14 #[.val (.ref a1), .val (.ref s2)] [(.int (0 : Int32)), (.int (0 : Int32))])
  refine Go.of (fun _ hr => XS.icmpYes X103.here hx rfl (pc0 := 14) (pc' := 21) rfl (hb hby d31_14) rfl (teq (by decide : ((0 : Int32) = (0 : Int32)))).1 (by decide) (by decide) hr) ?_
  show Go p e s below _ _ _ _ T103 (mkF m 21 #[.val (.ref a1), .val (.ref s2)] [])
  exact Go.retV X103 hx hlk B103 J103 e103 hret (hb hby d31_21) (by decide) (by decide) (fun vm_ hw_ => ⟨rfl, (fun y hy => Nat.le_trans hnb (N103 y hy)), rfl⟩)

theorem d32_0 : decode jdk_42_method_147_code 0 = .ok (.aload_n 0, 1) := by decide +kernel
theorem d32_1 : decode jdk_42_method_147_code 1 = .ok (.invokevirtual 335, 3) := by decide +kernel
theorem d32_4 : decode jdk_42_method_147_code 4 = .ok (.iload_n 3, 1) := by decide +kernel
theorem d32_5 : decode jdk_42_method_147_code 5 = .ok (.if_icmp .ne 23, 3) := by decide +kernel
theorem d32_8 : decode jdk_42_method_147_code 8 = .ok (.aload_n 0, 1) := by decide +kernel
theorem d32_9 : decode jdk_42_method_147_code 9 = .ok (.getfield 9, 3) := by decide +kernel
theorem d32_12 : decode jdk_42_method_147_code 12 = .ok (.iconst 0, 1) := by decide +kernel
theorem d32_13 : decode jdk_42_method_147_code 13 = .ok (.aload_n 1, 1) := by decide +kernel
theorem d32_14 : decode jdk_42_method_147_code 14 = .ok (.iload_n 2, 1) := by decide +kernel
theorem d32_15 : decode jdk_42_method_147_code 15 = .ok (.iload_n 3, 1) := by decide +kernel
theorem d32_16 : decode jdk_42_method_147_code 16 = .ok (.ishl, 1) := by decide +kernel
theorem d32_17 : decode jdk_42_method_147_code 17 = .ok (.aload_n 0, 1) := by decide +kernel
theorem d32_18 : decode jdk_42_method_147_code 18 = .ok (.getfield 9, 3) := by decide +kernel
theorem d32_21 : decode jdk_42_method_147_code 21 = .ok (.arraylength, 1) := by decide +kernel
theorem d32_22 : decode jdk_42_method_147_code 22 = .ok (.invokestatic 212, 3) := by decide +kernel
theorem d32_25 : decode jdk_42_method_147_code 25 = .ok (.goto 18, 3) := by decide +kernel
theorem d32_43 : decode jdk_42_method_147_code 43 = .ok (.return_, 1) := by decide +kernel
set_option maxRecDepth 65536 in
set_option maxHeartbeats 40000000 in
theorem rm32 (l : Launch) (Z : State) (a0 : Array Value) (hw : ∀ d ∈ tables_1, d.before a0 Z = true) (ws : List Jvm.Cond) (v1 : Addr) (kv : ClassId) (bs : List Int32) (s2 t2 : Addr) (k2 : ClassId) (b2 : List Int32) (zc : Int32) (ms : List Addr) (h0 : Heap) (n0 : Nat) (O0 : Old Z n0 h0) (nb : Nat) (hb0 : n0 ≤ nb) (hnb : nb ≤ h0.size) (fr_v1 : nb ≤ v1) (hm_v1 : v1 ∈ ms) (W1 : Arv Z h0 v1 kv .byte 16 (bs.map Value.int) (.int 0)) (Es2 : Exa Z h0 s2 "java/lang/String") (Fv2 : Fld Z h0 s2 "java/lang/String" "value" "[B" (.ref t2)) (Fc2 : Fld Z h0 s2 "java/lang/String" "coder" "B" (.int 0)) (V2 : Arv Z h0 t2 k2 .byte (Int32.ofNat b2.length) (b2.map Value.int) (.int 0)) (hn2 : b2.length ≤ 1000) (hl : bs.length + b2.length ≤ 16) (ne2 : t2 ≠ v1) (S_C : Sta Z Z.heap "java/lang/String" "COMPACT_STRINGS" "Z" (.int zc)) (hzc : ¬ zc = 0) :
    Con l Z ms (⟨"java/lang/String", "getBytes", "([BIB)V"⟩ : MethodName) jdk_42_method_147_code 4 none ws ({ frames := 1, cells := 0, slots := 0, locals := 40 } : Room) #[(.ref s2), (.ref v1), (.int (Int32.ofNat bs.length)), (.int (0 : Int32))] h0 (fun v vm h L => v = none ∧ Fr nb L ∧ Keep h0 h [v1] ∧ Arv Z h v1 kv .byte 16 ((bs ++ b2).map Value.int) (.int 0)) := by
  refine Con.mk (plainFor_of_name pn1) ?_
  intro p e s m below meth c s₁ Cc X0 e0 eb J0 B0 M0
  obtain ⟨hx, hZ, hown, hby, hml, hnm, hret, hlk⟩ := id Cc
  have N0 := Fr.nil nb
  have K0 := Keep.refl h0 [v1]
  show Go p e s below _ _ _ _ s₁ (mkF m 0 #[.val (.ref s2), .val (.ref v1), .val (.int (Int32.ofNat bs.length)), .val (.int (0 : Int32))] [])
  refine Go.of (fun _ hr => XS.aloadN X0.here hx rfl (hb hby d32_0) rfl rfl hr) ?_
  show Go p e s below _ _ _ _ s₁ (mkF m 1 #[.val (.ref s2), .val (.ref v1), .val (.int (Int32.ofNat bs.length)), .val (.int (0 : Int32))] [(.ref s2)])
  obtain ⟨_, b101, T101, h101, L101, e101, Cc101, X101, B101, J101, g101, hQ101, st101⟩ := own_callV Cc B0 J0 X0 (hw _ (List.mem_of_getElem? (i := 108) rfl)) (hw _ (List.mem_of_getElem? (i := 109) rfl)) (notFace_of_selects (args := #[]) (mvT hZ (hw _ (List.mem_of_getElem? (i := 111) rfl)))) (hw _ (List.mem_of_getElem? (i := 111) rfl)) (hw _ (List.mem_of_getElem? (i := 110) rfl)) (hw _ (List.mem_of_getElem? (i := 10) rfl)) (hw _ (List.mem_of_getElem? (i := 112) rfl)) (by decide) Es2 (rm22 l Z a0 hw [] s2 zc _ h0 n0 O0 h0.size (own_ole O0) K0.1 Fc2 S_C hzc) e0 (g := (mkF m 1 #[.val (.ref s2), .val (.ref v1), .val (.int (Int32.ofNat bs.length)), .val (.int (0 : Int32))] [(.ref s2)])) rfl (by rw [hml]; rfl) (argsL := []) (rest := []) (lenOf pd4 rfl) rfl (W := 0) (by show 2 * 0 + _ ≤ _; exact Nat.le_of_eq rfl) (hb hby d32_1) (by decide) (by decide) (by decide) (by decide)
  obtain ⟨rfl, Nq101, hh101⟩ := hQ101
  have N101 := Fr.app N0 (show Fr nb _ from fun y hy => Nat.le_trans hnb (Nq101 y hy))
  have NS101 := Fr.app (Fr.nil _) Nq101
  obtain ⟨hx, hZ, hown, hby, hml, hnm, hret, hlk⟩ := id Cc101
  rw [hh101] at e101 B101 J101
  refine Go.of st101 ?_
  show Go p e s below _ _ _ _ T101 (mkF m 4 #[.val (.ref s2), .val (.ref v1), .val (.int (Int32.ofNat bs.length)), .val (.int (0 : Int32))] [(.int (0 : Int32))])
  refine Go.of (fun _ hr => XS.iloadN X101.here hx rfl (hb hby d32_4) rfl  hr) ?_
  show Go p e s below _ _ _ _ T101 (mkF m 5 #[.val (.ref s2), .val (.ref v1), .val (.int (Int32.ofNat bs.length)), .val (.int (0 : Int32))] [(.int (0 : Int32)), (.int (0 : Int32))])
  refine Go.of (fun _ hr => XS.icmpNo X101.here hx rfl (hb hby d32_5) rfl (teq (by decide : ((0 : Int32) = (0 : Int32)))).2 hr) ?_
  show Go p e s below _ _ _ _ T101 (mkF m 8 #[.val (.ref s2), .val (.ref v1), .val (.int (Int32.ofNat bs.length)), .val (.int (0 : Int32))] [])
  refine Go.of (fun _ hr => XS.aloadN X101.here hx rfl (hb hby d32_8) rfl rfl hr) ?_
  show Go p e s below _ _ _ _ T101 (mkF m 9 #[.val (.ref s2), .val (.ref v1), .val (.int (Int32.ofNat bs.length)), .val (.int (0 : Int32))] [(.ref s2)])
  obtain ⟨T102, X102, e102, st102⟩ := getF X101 hx hZ hown (host := "") (Or.inl (hw _ (List.mem_of_getElem? (i := 35) rfl))) Via.refl e101 Fv2 (g := (mkF m 9 #[.val (.ref s2), .val (.ref v1), .val (.int (Int32.ofNat bs.length)), .val (.int (0 : Int32))] [(.ref s2)])) rfl rfl (hb hby d32_9)
  refine Go.of (fun _ hr => st102 _ hr) ?_
  show Go p e s below _ _ _ _ T102 (mkF m 12 #[.val (.ref s2), .val (.ref v1), .val (.int (Int32.ofNat bs.length)), .val (.int (0 : Int32))] [(.ref t2)])
  refine Go.of (fun _ hr => XS.iconst X102.here hx rfl (hb hby d32_12) hr) ?_
  show Go p e s below _ _ _ _ T102 (mkF m 13 #[.val (.ref s2), .val (.ref v1), .val (.int (Int32.ofNat bs.length)), .val (.int (0 : Int32))] [(.int (0 : Int32)), (.ref t2)])
  refine Go.of (fun _ hr => XS.aloadN X102.here hx rfl (hb hby d32_13) rfl rfl hr) ?_
  show Go p e s below _ _ _ _ T102 (mkF m 14 #[.val (.ref s2), .val (.ref v1), .val (.int (Int32.ofNat bs.length)), .val (.int (0 : Int32))] [(.ref v1), (.int (0 : Int32)), (.ref t2)])
  refine Go.of (fun _ hr => XS.iloadN X102.here hx rfl (hb hby d32_14) rfl  hr) ?_
  show Go p e s below _ _ _ _ T102 (mkF m 15 #[.val (.ref s2), .val (.ref v1), .val (.int (Int32.ofNat bs.length)), .val (.int (0 : Int32))] [(.int (Int32.ofNat bs.length)), (.ref v1), (.int (0 : Int32)), (.ref t2)])
  refine Go.of (fun _ hr => XS.iloadN X102.here hx rfl (hb hby d32_15) rfl  hr) ?_
  show Go p e s below _ _ _ _ T102 (mkF m 16 #[.val (.ref s2), .val (.ref v1), .val (.int (Int32.ofNat bs.length)), .val (.int (0 : Int32))] [(.int (0 : Int32)), (.int (Int32.ofNat bs.length)), (.ref v1), (.int (0 : Int32)), (.ref t2)])
  refine Go.of (fun _ hr => XS.ishl X102.here hx rfl (hb hby d32_16) rfl hr) ?_
  show Go p e s below _ _ _ _ T102 (mkF m 17 #[.val (.ref s2), .val (.ref v1), .val (.int (Int32.ofNat bs.length)), .val (.int (0 : Int32))] [(.int ((Int32.ofNat bs.length) <<< ((0 : Int32) &&& 31))), (.ref v1), (.int (0 : Int32)), (.ref t2)])
  rw [own_sl0]
  show Go p e s below _ _ _ _ T102 (mkF m 17 #[.val (.ref s2), .val (.ref v1), .val (.int (Int32.ofNat bs.length)), .val (.int (0 : Int32))] [(.int (Int32.ofNat bs.length)), (.ref v1), (.int (0 : Int32)), (.ref t2)])
  refine Go.of (fun _ hr => XS.aloadN X102.here hx rfl (hb hby d32_17) rfl rfl hr) ?_
  show Go p e s below _ _ _ _ T102 (mkF m 18 #[.val (.ref s2), .val (.ref v1), .val (.int (Int32.ofNat bs.length)), .val (.int (0 : Int32))] [(.ref s2), (.int (Int32.ofNat bs.length)), (.ref v1), (.int (0 : Int32)), (.ref t2)])
  obtain ⟨T103, X103, e103, st103⟩ := getF X102 hx hZ hown (host := "") (Or.inl (hw _ (List.mem_of_getElem? (i := 35) rfl))) Via.refl e102 Fv2 (g := (mkF m 18 #[.val (.ref s2), .val (.ref v1), .val (.int (Int32.ofNat bs.length)), .val (.int (0 : Int32))] [(.ref s2), (.int (Int32.ofNat bs.length)), (.ref v1), (.int (0 : Int32)), (.ref t2)])) rfl rfl (hb hby d32_18)
  refine Go.of (fun _ hr => st103 _ hr) ?_
  show Go p e s below _ _ _ _ T103 (mkF m 21 #[.val (.ref s2), .val (.ref v1), .val (.int (Int32.ofNat bs.length)), .val (.int (0 : Int32))] [(.ref t2), (.int (Int32.ofNat bs.length)), (.ref v1), (.int (0 : Int32)), (.ref t2)])
  obtain ⟨cl104, Ar104, q104, S104, N104_, H104, G104⟩ := id V2
  refine Go.of (fun _ hr => X103.arraylength hx (by rw [e103]; exact Ar104.1) (State.isArrayOf_alike hZ.alike Ar104.2.1) (g := (mkF m 21 #[.val (.ref s2), .val (.ref v1), .val (.int (Int32.ofNat bs.length)), .val (.int (0 : Int32))] [(.ref t2), (.int (Int32.ofNat bs.length)), (.ref v1), (.int (0 : Int32)), (.ref t2)])) rfl rfl (hb hby d32_21) _ hr) ?_
  rw [len_of S104 N104_]
  show Go p e s below _ _ _ _ T103 (mkF m 22 #[.val (.ref s2), .val (.ref v1), .val (.int (Int32.ofNat bs.length)), .val (.int (0 : Int32))] [(.int (Int32.ofNat b2.length)), (.int (Int32.ofNat bs.length)), (.ref v1), (.int (0 : Int32)), (.ref t2)])
  obtain ⟨T105, h105, L105, X105, e105, N105, Kq105, V105, st105⟩ := cpA X103 hx hZ hown (hw _ (List.mem_of_getElem? (i := 178) rfl)) (hw _ (List.mem_of_getElem? (i := 181) rfl)) (hw _ (List.mem_of_getElem? (i := 179) rfl)) (hw _ (List.mem_of_getElem? (i := 180) rfl)) e103 V2 (W1.pad (pad_rep _ _ b2.length)) (us := b2.map Value.int) (Or.inl ⟨rfl, rfl⟩) (by decide) (oi_nn (by omega)) (oi_nn (by omega)) (cp4 (by omega) (by rw [oi_nat (by omega)]; exact Nat.le_refl _)) (cp5 (by omega) (by omega) (by show _ ≤ 16; omega)) (cpu b2 (by omega)) (cpl bs b2 (by omega) (by omega)) N101 fr_v1 (g := (mkF m 22 #[.val (.ref s2), .val (.ref v1), .val (.int (Int32.ofNat bs.length)), .val (.int (0 : Int32))] [(.int (Int32.ofNat b2.length)), (.int (Int32.ofNat bs.length)), (.ref v1), (.int (0 : Int32)), (.ref t2)])) rfl (by rw [hml]; rfl) rfl (hb hby d32_22) (by decide) (W := 0) (by show 2 * 0 + _ ≤ _; exact Nat.le_of_eq rfl) (by decide)
  have K105 := K0.trans Kq105 (allS (Or.inl (List.mem_of_getElem? (i := 0) rfl)) all0)
  have O105 := O0.keep Kq105 (allS (Nat.le_trans hb0 fr_v1) all0)
  have B105 := B101.mono Kq105.1
  have J105 := Hd.keep J101 Kq105 (allS hm_v1 all0)
  have Vc105 : Arv Z h105 v1 kv .byte (16 : Int32) ((bs ++ b2).map Value.int) (.int 0) := by have q := V105; exact cp_res bs b2 (by omega) (by omega) ▸ q
  refine Go.of (fun _ hr => st105 _ hr) ?_
  show Go p e s below _ _ _ _ T105 (mkF m 25 #[.val (.ref s2), .val (.ref v1), .val (.int (Int32.ofNat bs.length)), .val (.int (0 : Int32))] [])
  refine Go.of (fun _ hr => XS.goto X105.here hx rfl (pc0 := 25) (pc' := 43) rfl (hb hby d32_25) (by decide) (by decide) hr) ?_
  show Go p e s below _ _ _ _ T105 (mkF m 43 #[.val (.ref s2), .val (.ref v1), .val (.int (Int32.ofNat bs.length)), .val (.int (0 : Int32))] [])
  exact Go.retV X105 hx hlk B105 J105 e105 hret (hb hby d32_43) (by decide) (by decide) (fun vm_ hw_ => ⟨rfl, N105, K105, Vc105⟩)

theorem d30_0 : decode jdk_68_method_73_code 0 = .ok (.aload_n 0, 1) := by decide +kernel
theorem d30_1 : decode jdk_68_method_73_code 1 = .ok (.aload_n 2, 1) := by decide +kernel
theorem d30_2 : decode jdk_68_method_73_code 2 = .ok (.invokevirtual 397, 3) := by decide +kernel
theorem pd10 : parseMethodDescriptor "(Ljava/lang/String;)V" = some ⟨[(.object "java/lang/String")], none⟩ := by decide +kernel
theorem d30_5 : decode jdk_68_method_73_code 5 = .ok (.aload_n 2, 1) := by decide +kernel
theorem d30_6 : decode jdk_68_method_73_code 6 = .ok (.aload_n 0, 1) := by decide +kernel
theorem d30_7 : decode jdk_68_method_73_code 7 = .ok (.getfield 15, 3) := by decide +kernel
theorem d30_10 : decode jdk_68_method_73_code 10 = .ok (.iload_n 1, 1) := by decide +kernel
theorem d30_11 : decode jdk_68_method_73_code 11 = .ok (.aload_n 0, 1) := by decide +kernel
theorem d30_12 : decode jdk_68_method_73_code 12 = .ok (.getfield 22, 3) := by decide +kernel
theorem d30_15 : decode jdk_68_method_73_code 15 = .ok (.invokevirtual 399, 3) := by decide +kernel
theorem pd11 : parseMethodDescriptor "([BIB)V" = some ⟨[(.array .byte), .int, .byte], none⟩ := by decide +kernel
theorem d30_18 : decode jdk_68_method_73_code 18 = .ok (.return_, 1) := by decide +kernel
set_option maxRecDepth 65536 in
set_option maxHeartbeats 40000000 in
theorem rm30 (l : Launch) (Z : State) (a0 : Array Value) (hw : ∀ d ∈ tables_1, d.before a0 Z = true) (ws : List Jvm.Cond) (a1 v1 : Addr) (kv : ClassId) (bs : List Int32) (s2 t2 : Addr) (k2 : ClassId) (b2 : List Int32) (zc : Int32) (ms : List Addr) (h0 : Heap) (n0 : Nat) (O0 : Old Z n0 h0) (nb : Nat) (hb0 : n0 ≤ nb) (hnb : nb ≤ h0.size) (fr_v1 : nb ≤ v1) (hm_v1 : v1 ∈ ms) (Ea1 : Exa Z h0 a1 "java/lang/StringBuilder") (Gv : Fld Z h0 a1 "java/lang/AbstractStringBuilder" "value" "[B" (.ref v1)) (Gc : Fld Z h0 a1 "java/lang/AbstractStringBuilder" "coder" "B" (.int 0)) (Gn : Fld Z h0 a1 "java/lang/AbstractStringBuilder" "count" "I" (.int (Int32.ofNat bs.length))) (W1 : Arv Z h0 v1 kv .byte 16 (bs.map Value.int) (.int 0)) (Es2 : Exa Z h0 s2 "java/lang/String") (Fv2 : Fld Z h0 s2 "java/lang/String" "value" "[B" (.ref t2)) (Fc2 : Fld Z h0 s2 "java/lang/String" "coder" "B" (.int 0)) (V2 : Arv Z h0 t2 k2 .byte (Int32.ofNat b2.length) (b2.map Value.int) (.int 0)) (hn2 : b2.length ≤ 1000) (hl : bs.length + b2.length ≤ 16) (ne2 : t2 ≠ v1) (nea : a1 ≠ v1) (nes : s2 ≠ v1) (S_C : Sta Z Z.heap "java/lang/String" "COMPACT_STRINGS" "Z" (.int zc)) (hzc : ¬ zc = 0) :
    Con l Z ms (⟨"java/lang/AbstractStringBuilder", "putStringAt", "(ILjava/lang/String;)V"⟩ : MethodName) jdk_68_method_73_code 3 none ws ({ frames := 2, cells := 0, slots := 0, locals := 55 } : Room) #[(.ref a1), (.int (Int32.ofNat bs.length)), (.ref s2)] h0 (fun v vm h L => v = none ∧ Fr nb L ∧ Keep h0 h [v1] ∧ Arv Z h v1 kv .byte 16 ((bs ++ b2).map Value.int) (.int 0)) := by
  refine Con.mk (plainFor_of_name pn4) ?_
  intro p e s m below meth c s₁ Cc X0 e0 eb J0 B0 M0
  obtain ⟨hx, hZ, hown, hby, hml, hnm, hret, hlk⟩ := id Cc
  have N0 := Fr.nil nb
  have K0 := Keep.refl h0 [v1]
  show Go p e s below _ _ _ _ s₁ (mkF m 0 #[.val (.ref a1), .val (.int (Int32.ofNat bs.length)), .val (.ref s2)] [])
  refine Go.of (fun _ hr => XS.aloadN X0.here hx rfl (hb hby d30_0) rfl rfl hr) ?_
  show Go p e s below _ _ _ _ s₁ (mkF m 1 #[.val (.ref a1), .val (.int (Int32.ofNat bs.length)), .val (.ref s2)] [(.ref a1)])
  refine Go.of (fun _ hr => XS.aloadN X0.here hx rfl (hb hby d30_1) rfl rfl hr) ?_
  show Go p e s below _ _ _ _ s₁ (mkF m 2 #[.val (.ref a1), .val (.int (Int32.ofNat bs.length)), .val (.ref s2)] [(.ref s2), (.ref a1)])
  obtain ⟨_, b101, T101, h101, L101, e101, Cc101, X101, B101, J101, g101, hQ101, st101⟩ := own_callV Cc B0 J0 X0 (hw _ (List.mem_of_getElem? (i := 167) rfl)) (own_decl (hw _ (List.mem_of_getElem? (i := 168) rfl)) (hw _ (List.mem_of_getElem? (i := 171) rfl))) (notFace_of_selects (args := #[]) (mvT hZ (hw _ (List.mem_of_getElem? (i := 170) rfl)))) (hw _ (List.mem_of_getElem? (i := 170) rfl)) (hw _ (List.mem_of_getElem? (i := 168) rfl)) (hw _ (List.mem_of_getElem? (i := 136) rfl)) (hw _ (List.mem_of_getElem? (i := 171) rfl)) (by decide) Ea1 (rm31 l Z a0 hw [] a1 v1 _ bs s2 t2 _ b2 zc _ h0 n0 O0 h0.size (own_ole O0) K0.1 Ea1 Gv Gc Gn W1 Es2 Fv2 Fc2 V2 hn2 S_C hzc) e0 (g := (mkF m 2 #[.val (.ref a1), .val (.int (Int32.ofNat bs.length)), .val (.ref s2)] [(.ref s2), (.ref a1)])) rfl (by rw [hml]; rfl) (argsL := [(.ref s2)]) (rest := []) (lenOf pd10 rfl) rfl (W := 0) (by show 2 * 0 + _ ≤ _; exact Nat.le_of_eq rfl) (hb hby d30_2) (by decide) (by decide) (by decide) (by decide)
  obtain ⟨rfl, Nq101, hh101⟩ := hQ101
  have N101 := Fr.app N0 (show Fr nb _ from fun y hy => Nat.le_trans hnb (Nq101 y hy))
  have NS101 := Fr.app (Fr.nil _) Nq101
  obtain ⟨hx, hZ, hown, hby, hml, hnm, hret, hlk⟩ := id Cc101
  rw [hh101] at e101 B101 J101
  refine Go.of st101 ?_
  show Go p e s below _ _ _ _ T101 (mkF m 5 #[.val (.ref a1), .val (.int (Int32.ofNat bs.length)), .val (.ref s2)] [])
  refine Go.of (fun _ hr => XS.aloadN X101.here hx rfl (hb hby d30_5) rfl rfl hr) ?_
  show Go p e s below _ _ _ _ T101 (mkF m 6 #[.val (.ref a1), .val (.int (Int32.ofNat bs.length)), .val (.ref s2)] [(.ref s2)])
  refine Go.of (fun _ hr => XS.aloadN X101.here hx rfl (hb hby d30_6) rfl rfl hr) ?_
  show Go p e s below _ _ _ _ T101 (mkF m 7 #[.val (.ref a1), .val (.int (Int32.ofNat bs.length)), .val (.ref s2)] [(.ref a1), (.ref s2)])
  obtain ⟨T102, X102, e102, st102⟩ := getF X101 hx hZ hown (host := "") (Or.inl (hw _ (List.mem_of_getElem? (i := 140) rfl))) Via.refl e101 Gv (g := (mkF m 7 #[.val (.ref a1), .val (.int (Int32.ofNat bs.length)), .val (.ref s2)] [(.ref a1), (.ref s2)])) rfl rfl (hb hby d30_7)
  refine Go.of (fun _ hr => st102 _ hr) ?_
  show Go p e s below _ _ _ _ T102 (mkF m 10 #[.val (.ref a1), .val (.int (Int32.ofNat bs.length)), .val (.ref s2)] [(.ref v1), (.ref s2)])
  refine Go.of (fun _ hr => XS.iloadN X102.here hx rfl (hb hby d30_10) rfl  hr) ?_
  show Go p e s below _ _ _ _ T102 (mkF m 11 #[.val (.ref a1), .val (.int (Int32.ofNat bs.length)), .val (.ref s2)] [(.int (Int32.ofNat bs.length)), (.ref v1), (.ref s2)])
  refine Go.of (fun _ hr => XS.aloadN X102.here hx rfl (hb hby d30_11) rfl rfl hr) ?_
  show Go p e s below _ _ _ _ T102 (mkF m 12 #[.val (.ref a1), .val (.int (Int32.ofNat bs.length)), .val (.ref s2)] [(.ref a1), (.int (Int32.ofNat bs.length)), (.ref v1), (.ref s2)])
  obtain ⟨T103, X103, e103, st103⟩ := getF X102 hx hZ hown (host := "") (Or.inl (hw _ (List.mem_of_getElem? (i := 142) rfl))) Via.refl e102 Gc (g := (mkF m 12 #[.val (.ref a1), .val (.int (Int32.ofNat bs.length)), .val (.ref s2)] [(.ref a1), (.int (Int32.ofNat bs.length)), (.ref v1), (.ref s2)])) rfl rfl (hb hby d30_12)
  refine Go.of (fun _ hr => st103 _ hr) ?_
  show Go p e s below _ _ _ _ T103 (mkF m 15 #[.val (.ref a1), .val (.int (Int32.ofNat bs.length)), .val (.ref s2)] [(.int (0 : Int32)), (.int (Int32.ofNat bs.length)), (.ref v1), (.ref s2)])
  obtain ⟨_, b104, T104, h104, L104, e104, Cc104, X104, B104, J104, g104, hQ104, st104⟩ := own_callV Cc101 B101 J101 X103 (hw _ (List.mem_of_getElem? (i := 173) rfl)) (hw _ (List.mem_of_getElem? (i := 174) rfl)) (notFace_of_selects (args := #[]) (mvT hZ (hw _ (List.mem_of_getElem? (i := 176) rfl)))) (hw _ (List.mem_of_getElem? (i := 176) rfl)) (hw _ (List.mem_of_getElem? (i := 175) rfl)) (hw _ (List.mem_of_getElem? (i := 10) rfl)) (hw _ (List.mem_of_getElem? (i := 177) rfl)) (by decide) Es2 (rm32 l Z a0 hw [] v1 _ bs s2 t2 _ b2 zc _ h0 n0 O0 nb hb0 (Nat.le_trans hnb K0.1) fr_v1 hm_v1 W1 Es2 Fv2 Fc2 V2 hn2 hl ne2 S_C hzc) e103 (g := (mkF m 15 #[.val (.ref a1), .val (.int (Int32.ofNat bs.length)), .val (.ref s2)] [(.int (0 : Int32)), (.int (Int32.ofNat bs.length)), (.ref v1), (.ref s2)])) rfl (by rw [hml]; rfl) (argsL := [(.ref v1), (.int (Int32.ofNat bs.length)), (.int (0 : Int32))]) (rest := []) (lenOf pd11 rfl) rfl (W := 0) (by show 2 * 0 + _ ≤ _; exact Nat.le_of_eq rfl) (hb hby d30_15) (by decide) (by decide) (by decide) (by decide)
  obtain ⟨rfl, Nq104, Kq104, Wv104⟩ := hQ104
  have N104 := Fr.app N101 Nq104
  obtain ⟨hx, hZ, hown, hby, hml, hnm, hret, hlk⟩ := id Cc104
  have K104 := K0.trans Kq104 (allS (Or.inl (List.mem_of_getElem? (i := 0) rfl)) all0)
  have O104 := O0.keep Kq104 (allS (Nat.le_trans hb0 fr_v1) all0)
  refine Go.of st104 ?_
  show Go p e s below _ _ _ _ T104 (mkF m 18 #[.val (.ref a1), .val (.int (Int32.ofNat bs.length)), .val (.ref s2)] [])
  exact Go.retV X104 hx hlk B104 J104 e104 hret (hb hby d30_18) (by decide) (by decide) (fun vm_ hw_ => ⟨rfl, N104, K104, Wv104⟩)

theorem d28_0 : decode jdk_68_method_22_code 0 = .ok (.aload_n 1, 1) := by decide +kernel
theorem d28_1 : decode jdk_68_method_22_code 1 = .ok (.ifnonnull 8, 3) := by decide +kernel
theorem d28_9 : decode jdk_68_method_22_code 9 = .ok (.aload_n 1, 1) := by decide +kernel
theorem d28_10 : decode jdk_68_method_22_code 10 = .ok (.invokevirtual 32, 3) := by decide +kernel
theorem pd12 : parseMethodDescriptor "()I" = some ⟨[], some .int⟩ := by decide +kernel
theorem d28_13 : decode jdk_68_method_22_code 13 = .ok (.istore_n 2, 1) := by decide +kernel
theorem d28_14 : decode jdk_68_method_22_code 14 = .ok (.aload_n 0, 1) := by decide +kernel
theorem d28_15 : decode jdk_68_method_22_code 15 = .ok (.aload_n 0, 1) := by decide +kernel
theorem d28_16 : decode jdk_68_method_22_code 16 = .ok (.getfield 79, 3) := by decide +kernel
theorem d28_19 : decode jdk_68_method_22_code 19 = .ok (.iload_n 2, 1) := by decide +kernel
theorem d28_20 : decode jdk_68_method_22_code 20 = .ok (.iadd, 1) := by decide +kernel
theorem d28_21 : decode jdk_68_method_22_code 21 = .ok (.invokevirtual 100, 3) := by decide +kernel
theorem d28_24 : decode jdk_68_method_22_code 24 = .ok (.aload_n 0, 1) := by decide +kernel
theorem d28_25 : decode jdk_68_method_22_code 25 = .ok (.aload_n 0, 1) := by decide +kernel
theorem d28_26 : decode jdk_68_method_22_code 26 = .ok (.getfield 79, 3) := by decide +kernel
theorem d28_29 : decode jdk_68_method_22_code 29 = .ok (.aload_n 1, 1) := by decide +kernel
theorem d28_30 : decode jdk_68_method_22_code 30 = .ok (.invokevirtual 208, 3) := by decide +kernel
theorem pd13 : parseMethodDescriptor "(ILjava/lang/String;)V" = some ⟨[.int, (.object "java/lang/String")], none⟩ := by decide +kernel
theorem d28_33 : decode jdk_68_method_22_code 33 = .ok (.aload_n 0, 1) := by decide +kernel
theorem d28_34 : decode jdk_68_method_22_code 34 = .ok (.dup, 1) := by decide +kernel
theorem d28_35 : decode jdk_68_method_22_code 35 = .ok (.getfield 79, 3) := by decide +kernel
theorem d28_38 : decode jdk_68_method_22_code 38 = .ok (.iload_n 2, 1) := by decide +kernel
theorem d28_39 : decode jdk_68_method_22_code 39 = .ok (.iadd, 1) := by decide +kernel
theorem d28_40 : decode jdk_68_method_22_code 40 = .ok (.putfield 79, 3) := by decide +kernel
theorem d28_43 : decode jdk_68_method_22_code 43 = .ok (.aload_n 0, 1) := by decide +kernel
theorem d28_44 : decode jdk_68_method_22_code 44 = .ok (.areturn, 1) := by decide +kernel
set_option maxRecDepth 65536 in
set_option maxHeartbeats 40000000 in
theorem rm28 (l : Launch) (Z : State) (a0 : Array Value) (hw : ∀ d ∈ tables_1, d.before a0 Z = true) (ws : List Jvm.Cond) (a1 v1 : Addr) (kv : ClassId) (bs : List Int32) (s2 t2 : Addr) (k2 : ClassId) (b2 : List Int32) (zc : Int32) (ms : List Addr) (h0 : Heap) (n0 : Nat) (O0 : Old Z n0 h0) (nb : Nat) (hb0 : n0 ≤ nb) (hnb : nb ≤ h0.size) (fr_a1 : nb ≤ a1) (hm_a1 : a1 ∈ ms) (fr_v1 : nb ≤ v1) (hm_v1 : v1 ∈ ms) (Ea1 : Exa Z h0 a1 "java/lang/StringBuilder") (Gv : Fld Z h0 a1 "java/lang/AbstractStringBuilder" "value" "[B" (.ref v1)) (Gc : Fld Z h0 a1 "java/lang/AbstractStringBuilder" "coder" "B" (.int 0)) (Gn : Fld Z h0 a1 "java/lang/AbstractStringBuilder" "count" "I" (.int (Int32.ofNat bs.length))) (W1 : Arv Z h0 v1 kv .byte 16 (bs.map Value.int) (.int 0)) (Es2 : Exa Z h0 s2 "java/lang/String") (Fv2 : Fld Z h0 s2 "java/lang/String" "value" "[B" (.ref t2)) (Fc2 : Fld Z h0 s2 "java/lang/String" "coder" "B" (.int 0)) (V2 : Arv Z h0 t2 k2 .byte (Int32.ofNat b2.length) (b2.map Value.int) (.int 0)) (hn2 : b2.length ≤ 1000) (hl : bs.length + b2.length ≤ 16) (ne2 : t2 ≠ v1) (nea : a1 ≠ v1) (nes : s2 ≠ v1) (ne2a : t2 ≠ a1) (nesa : s2 ≠ a1) (S_C : Sta Z Z.heap "java/lang/String" "COMPACT_STRINGS" "Z" (.int zc)) (hzc : ¬ zc = 0) :
    Con l Z ms (⟨"java/lang/AbstractStringBuilder", "append", "(Ljava/lang/String;)Ljava/lang/AbstractStringBuilder;"⟩ : MethodName) jdk_68_method_22_code 3 (some (.object "java/lang/AbstractStringBuilder")) ws ({ frames := 3, cells := 0, slots := 0, locals := 69 } : Room) #[(.ref a1), (.ref s2)] h0 (fun v vm h L => v = some (.ref a1) ∧ Fr nb L ∧ Keep h0 h [a1, v1] ∧ Fld Z h a1 "java/lang/AbstractStringBuilder" "value" "[B" (.ref v1) ∧ Fld Z h a1 "java/lang/AbstractStringBuilder" "coder" "B" (.int 0) ∧ Fld Z h a1 "java/lang/AbstractStringBuilder" "count" "I" (.int (Int32.ofNat (bs ++ b2).length)) ∧ Arv Z h v1 kv .byte 16 ((bs ++ b2).map Value.int) (.int 0)) := by
  refine Con.mk (plainFor_of_name pn4) ?_
  intro p e s m below meth c s₁ Cc X0 e0 eb J0 B0 M0
  obtain ⟨hx, hZ, hown, hby, hml, hnm, hret, hlk⟩ := id Cc
  have N0 := Fr.nil nb
  have K0 := Keep.refl h0 [a1, v1]
  show Go p e s below _ _ _ _ s₁ (mkF m 0 #[.val (.ref a1), .val (.ref s2), .unset] [])
  refine Go.of (fun _ hr => XS.aloadN X0.here hx rfl (hb hby d28_0) rfl rfl hr) ?_
  show Go p e s below _ _ _ _ s₁ (mkF m 1 #[.val (.ref a1), .val (.ref s2), .unset] [(.ref s2)])
  refine Go.of (fun _ hr => XS.ifnonnullYes X0.here hx rfl (pc0 := 1) (pc' := 9) rfl (hb hby d28_1) rfl (by decide) (by decide) hr) ?_
  show Go p e s below _ _ _ _ s₁ (mkF m 9 #[.val (.ref a1), .val (.ref s2), .unset] [])
  refine Go.of (fun _ hr => XS.aloadN X0.here hx rfl (hb hby d28_9) rfl rfl hr) ?_
  show Go p e s below _ _ _ _ s₁ (mkF m 10 #[.val (.ref a1), .val (.ref s2), .unset] [(.ref s2)])
  obtain ⟨_, b101, T101, h101, L101, e101, Cc101, X101, B101, J101, g101, hQ101, st101⟩ := own_callV Cc B0 J0 X0 (hw _ (List.mem_of_getElem? (i := 154) rfl)) (hw _ (List.mem_of_getElem? (i := 104) rfl)) (notFace_of_selects (args := #[]) (mvT hZ (hw _ (List.mem_of_getElem? (i := 106) rfl)))) (hw _ (List.mem_of_getElem? (i := 106) rfl)) (hw _ (List.mem_of_getElem? (i := 105) rfl)) (hw _ (List.mem_of_getElem? (i := 10) rfl)) (hw _ (List.mem_of_getElem? (i := 107) rfl)) (by decide) Es2 (rm21 l Z a0 hw [] s2 t2 _ b2 zc _ h0 n0 O0 h0.size (own_ole O0) K0.1 Es2 Fv2 Fc2 V2 hn2 S_C hzc) e0 (g := (mkF m 10 #[.val (.ref a1), .val (.ref s2), .unset] [(.ref s2)])) rfl (by rw [hml]; rfl) (argsL := []) (rest := []) (lenOf pd12 rfl) rfl (W := 0) (by show 2 * 0 + _ ≤ _; exact Nat.le_of_eq rfl) (hb hby d28_10) (by decide) (by decide) (by decide) (by decide)
  obtain ⟨rfl, Nq101, hh101⟩ := hQ101
  have N101 := Fr.app N0 (show Fr nb _ from fun y hy => Nat.le_trans hnb (Nq101 y hy))
  have NS101 := Fr.app (Fr.nil _) Nq101
  obtain ⟨hx, hZ, hown, hby, hml, hnm, hret, hlk⟩ := id Cc101
  rw [hh101] at e101 B101 J101
  refine Go.of st101 ?_
  show Go p e s below _ _ _ _ T101 (mkF m 13 #[.val (.ref a1), .val (.ref s2), .unset] [(.int (Int32.ofNat b2.length))])
  refine Go.of (fun _ hr => XS.istoreN X101.here hx rfl (hb hby d28_13) rfl (l' := #[.val (.ref a1), .val (.ref s2), .val (.int (Int32.ofNat b2.length))]) rfl hr) ?_
  show Go p e s below _ _ _ _ T101 (mkF m 14 #[.val (.ref a1), .val (.ref s2), .val (.int (Int32.ofNat b2.length))] [])
  refine Go.of (fun _ hr => XS.aloadN X101.here hx rfl (hb hby d28_14) rfl rfl hr) ?_
  show Go p e s below _ _ _ _ T101 (mkF m 15 #[.val (.ref a1), .val (.ref s2), .val (.int (Int32.ofNat b2.length))] [(.ref a1)])
  refine Go.of (fun _ hr => XS.aloadN X101.here hx rfl (hb hby d28_15) rfl rfl hr) ?_
  show Go p e s below _ _ _ _ T101 (mkF m 16 #[.val (.ref a1), .val (.ref s2), .val (.int (Int32.ofNat b2.length))] [(.ref a1), (.ref a1)])
  obtain ⟨T102, X102, e102, st102⟩ := getF X101 hx hZ hown (host := "") (Or.inl (hw _ (List.mem_of_getElem? (i := 155) rfl))) Via.refl e101 Gn (g := (mkF m 16 #[.val (.ref a1), .val (.ref s2), .val (.int (Int32.ofNat b2.length))] [(.ref a1), (.ref a1)])) rfl rfl (hb hby d28_16)
  refine Go.of (fun _ hr => st102 _ hr) ?_
  show Go p e s below _ _ _ _ T102 (mkF m 19 #[.val (.ref a1), .val (.ref s2), .val (.int (Int32.ofNat b2.length))] [(.int (Int32.ofNat bs.length)), (.ref a1)])
  refine Go.of (fun _ hr => XS.iloadN X102.here hx rfl (hb hby d28_19) rfl  hr) ?_
  show Go p e s below _ _ _ _ T102 (mkF m 20 #[.val (.ref a1), .val (.ref s2), .val (.int (Int32.ofNat b2.length))] [(.int (Int32.ofNat b2.length)), (.int (Int32.ofNat bs.length)), (.ref a1)])
  refine Go.of (fun _ hr => XS.iadd X102.here hx rfl (hb hby d28_20) rfl hr) ?_
  show Go p e s below _ _ _ _ T102 (mkF m 21 #[.val (.ref a1), .val (.ref s2), .val (.int (Int32.ofNat b2.length))] [(.int ((Int32.ofNat bs.length) + (Int32.ofNat b2.length))), (.ref a1)])
  rw [oi_add (show bs.length + b2.length < 2147483648 by omega)]
  show Go p e s below _ _ _ _ T102 (mkF m 21 #[.val (.ref a1), .val (.ref s2), .val (.int (Int32.ofNat b2.length))] [(.int (Int32.ofNat (bs.length + b2.length))), (.ref a1)])
  obtain ⟨_, b103, T103, h103, L103, e103, Cc103, X103, B103, J103, g103, hQ103, st103⟩ := own_callV Cc101 B101 J101 X102 (hw _ (List.mem_of_getElem? (i := 157) rfl)) (own_decl (hw _ (List.mem_of_getElem? (i := 158) rfl)) (hw _ (List.mem_of_getElem? (i := 161) rfl))) (notFace_of_selects (args := #[]) (mvT hZ (hw _ (List.mem_of_getElem? (i := 160) rfl)))) (hw _ (List.mem_of_getElem? (i := 160) rfl)) (hw _ (List.mem_of_getElem? (i := 158) rfl)) (hw _ (List.mem_of_getElem? (i := 136) rfl)) (hw _ (List.mem_of_getElem? (i := 161) rfl)) (by decide) Ea1 (rm29 l Z a0 hw [] a1 v1 _ bs (bs.length + b2.length) _ h0 n0 O0 h0.size (own_ole O0) K0.1 Ea1 Gv Gc Gn W1 hl) e102 (g := (mkF m 21 #[.val (.ref a1), .val (.ref s2), .val (.int (Int32.ofNat b2.length))] [(.int (Int32.ofNat (bs.length + b2.length))), (.ref a1)])) rfl (by rw [hml]; rfl) (argsL := [(.int (Int32.ofNat (bs.length + b2.length)))]) (rest := []) (lenOf pd9 rfl) rfl (W := 0) (by show 2 * 0 + _ ≤ _; exact Nat.le_of_eq rfl) (hb hby d28_21) (by decide) (by decide) (by decide) (by decide)
  obtain ⟨rfl, Nq103, hh103⟩ := hQ103
  have N103 := Fr.app N101 (show Fr nb _ from fun y hy => Nat.le_trans hnb (Nq103 y hy))
  have NS103 := Fr.app NS101 Nq103
  obtain ⟨hx, hZ, hown, hby, hml, hnm, hret, hlk⟩ := id Cc103
  rw [hh103] at e103 B103 J103
  refine Go.of st103 ?_
  show Go p e s below _ _ _ _ T103 (mkF m 24 #[.val (.ref a1), .val (.ref s2), .val (.int (Int32.ofNat b2.length))] [])
  refine Go.of (fun _ hr => XS.aloadN X103.here hx rfl (hb hby d28_24) rfl rfl hr) ?_
  show Go p e s below _ _ _ _ T103 (mkF m 25 #[.val (.ref a1), .val (.ref s2), .val (.int (Int32.ofNat b2.length))] [(.ref a1)])
  refine Go.of (fun _ hr => XS.aloadN X103.here hx rfl (hb hby d28_25) rfl rfl hr) ?_
  show Go p e s below _ _ _ _ T103 (mkF m 26 #[.val (.ref a1), .val (.ref s2), .val (.int (Int32.ofNat b2.length))] [(.ref a1), (.ref a1)])
  obtain ⟨T104, X104, e104, st104⟩ := getF X103 hx hZ hown (host := "") (Or.inl (hw _ (List.mem_of_getElem? (i := 155) rfl))) Via.refl e103 Gn (g := (mkF m 26 #[.val (.ref a1), .val (.ref s2), .val (.int (Int32.ofNat b2.length))] [(.ref a1), (.ref a1)])) rfl rfl (hb hby d28_26)
  refine Go.of (fun _ hr => st104 _ hr) ?_
  show Go p e s below _ _ _ _ T104 (mkF m 29 #[.val (.ref a1), .val (.ref s2), .val (.int (Int32.ofNat b2.length))] [(.int (Int32.ofNat bs.length)), (.ref a1)])
  refine Go.of (fun _ hr => XS.aloadN X104.here hx rfl (hb hby d28_29) rfl rfl hr) ?_
  show Go p e s below _ _ _ _ T104 (mkF m 30 #[.val (.ref a1), .val (.ref s2), .val (.int (Int32.ofNat b2.length))] [(.ref s2), (.int (Int32.ofNat bs.length)), (.ref a1)])
  obtain ⟨_, b105, T105, h105, L105, e105, Cc105, X105, B105, J105, g105, hQ105, st105⟩ := own_callV Cc103 B103 J103 X104 (hw _ (List.mem_of_getElem? (i := 162) rfl)) (own_decl (hw _ (List.mem_of_getElem? (i := 163) rfl)) (hw _ (List.mem_of_getElem? (i := 166) rfl))) (notFace_of_selects (args := #[]) (mvT hZ (hw _ (List.mem_of_getElem? (i := 165) rfl)))) (hw _ (List.mem_of_getElem? (i := 165) rfl)) (hw _ (List.mem_of_getElem? (i := 163) rfl)) (hw _ (List.mem_of_getElem? (i := 136) rfl)) (hw _ (List.mem_of_getElem? (i := 166) rfl)) (by decide) Ea1 (rm30 l Z a0 hw [] a1 v1 _ bs s2 t2 _ b2 zc _ h0 n0 O0 nb hb0 (Nat.le_trans hnb K0.1) fr_v1 hm_v1 Ea1 Gv Gc Gn W1 Es2 Fv2 Fc2 V2 hn2 hl ne2 nea nes S_C hzc) e104 (g := (mkF m 30 #[.val (.ref a1), .val (.ref s2), .val (.int (Int32.ofNat b2.length))] [(.ref s2), (.int (Int32.ofNat bs.length)), (.ref a1)])) rfl (by rw [hml]; rfl) (argsL := [(.int (Int32.ofNat bs.length)), (.ref s2)]) (rest := []) (lenOf pd13 rfl) rfl (W := 0) (by show 2 * 0 + _ ≤ _; exact Nat.le_of_eq rfl) (hb hby d28_30) (by decide) (by decide) (by decide) (by decide)
  obtain ⟨rfl, Nq105, Kq105, Wv105⟩ := hQ105
  have N105 := Fr.app N103 Nq105
  obtain ⟨hx, hZ, hown, hby, hml, hnm, hret, hlk⟩ := id Cc105
  have K105 := K0.trans Kq105 (allS (Or.inl (List.mem_of_getElem? (i := 1) rfl)) all0)
  have O105 := O0.keep Kq105 (allS (Nat.le_trans hb0 fr_v1) all0)
  refine Go.of st105 ?_
  show Go p e s below _ _ _ _ T105 (mkF m 33 #[.val (.ref a1), .val (.ref s2), .val (.int (Int32.ofNat b2.length))] [])
  refine Go.of (fun _ hr => XS.aloadN X105.here hx rfl (hb hby d28_33) rfl rfl hr) ?_
  show Go p e s below _ _ _ _ T105 (mkF m 34 #[.val (.ref a1), .val (.ref s2), .val (.int (Int32.ofNat b2.length))] [(.ref a1)])
  refine Go.of (fun _ hr => XS.dup X105.here hx rfl (hb hby d28_34) rfl rfl hr) ?_
  show Go p e s below _ _ _ _ T105 (mkF m 35 #[.val (.ref a1), .val (.ref s2), .val (.int (Int32.ofNat b2.length))] [(.ref a1), (.ref a1)])
  have f107 := (Gn.keep Kq105 (ninS nea nin0))
  obtain ⟨T106, X106, e106, st106⟩ := getF X105 hx hZ hown (host := "") (Or.inl (hw _ (List.mem_of_getElem? (i := 155) rfl))) Via.refl e105 f107 (g := (mkF m 35 #[.val (.ref a1), .val (.ref s2), .val (.int (Int32.ofNat b2.length))] [(.ref a1), (.ref a1)])) rfl rfl (hb hby d28_35)
  refine Go.of (fun _ hr => st106 _ hr) ?_
  show Go p e s below _ _ _ _ T106 (mkF m 38 #[.val (.ref a1), .val (.ref s2), .val (.int (Int32.ofNat b2.length))] [(.int (Int32.ofNat bs.length)), (.ref a1)])
  refine Go.of (fun _ hr => XS.iloadN X106.here hx rfl (hb hby d28_38) rfl  hr) ?_
  show Go p e s below _ _ _ _ T106 (mkF m 39 #[.val (.ref a1), .val (.ref s2), .val (.int (Int32.ofNat b2.length))] [(.int (Int32.ofNat b2.length)), (.int (Int32.ofNat bs.length)), (.ref a1)])
  refine Go.of (fun _ hr => XS.iadd X106.here hx rfl (hb hby d28_39) rfl hr) ?_
  show Go p e s below _ _ _ _ T106 (mkF m 40 #[.val (.ref a1), .val (.ref s2), .val (.int (Int32.ofNat b2.length))] [(.int ((Int32.ofNat bs.length) + (Int32.ofNat b2.length))), (.ref a1)])
  rw [oi_add (show bs.length + b2.length < 2147483648 by omega), ← List.length_append]
  show Go p e s below _ _ _ _ T106 (mkF m 40 #[.val (.ref a1), .val (.ref s2), .val (.int (Int32.ofNat b2.length))] [(.int (Int32.ofNat (bs ++ b2).length)), (.ref a1)])
  have f109 := (Ea1.keep Kq105)
  obtain ⟨T108, h108, X108, e108, W108, st108⟩ := putF X106 hx hZ hown (host := "") (Or.inl (hw _ (List.mem_of_getElem? (i := 155) rfl))) Via.refl e106 f107 f109 (Or.inl (hw _ (List.mem_of_getElem? (i := 156) rfl))) (hw _ (List.mem_of_getElem? (i := 127) rfl)) (ty := .int) (by decide) rfl rfl (g := (mkF m 40 #[.val (.ref a1), .val (.ref s2), .val (.int (Int32.ofNat b2.length))] [(.int (Int32.ofNat (bs ++ b2).length)), (.ref a1)])) rfl rfl (hb hby d28_40)
  have N108 := Fr.snoc X108 N105 fr_a1
  have J108 := J105.wr W108 hm_a1
  have B108 := B105.mono (Nat.le_of_eq W108.size.symm)
  have O108 := O105.wr W108 (Nat.le_trans hb0 fr_a1)
  have K108 := K105.wr W108 (Or.inl (List.mem_of_getElem? (i := 0) rfl))
  have Fw108 := f107.same W108
  refine Go.of (fun _ hr => st108 _ hr) ?_
  show Go p e s below _ _ _ _ T108 (mkF m 43 #[.val (.ref a1), .val (.ref s2), .val (.int (Int32.ofNat b2.length))] [])
  refine Go.of (fun _ hr => XS.aloadN X108.here hx rfl (hb hby d28_43) rfl rfl hr) ?_
  show Go p e s below _ _ _ _ T108 (mkF m 44 #[.val (.ref a1), .val (.ref s2), .val (.int (Int32.ofNat b2.length))] [(.ref a1)])
  have f110 := ((Gv.keep Kq105 (ninS nea nin0)).other W108 (Or.inr (slot_ne (Or.inl (hw _ (List.mem_of_getElem? (i := 141) rfl))) (Or.inl (hw _ (List.mem_of_getElem? (i := 156) rfl))) (by decide) (t := (.array .byte)) (t' := .int) (by decide) (by decide))))
  have f111 := ((Gc.keep Kq105 (ninS nea nin0)).other W108 (Or.inr (slot_ne (Or.inl (hw _ (List.mem_of_getElem? (i := 143) rfl))) (Or.inl (hw _ (List.mem_of_getElem? (i := 156) rfl))) (by decide) (t := .byte) (t' := .int) (by decide) (by decide))))
  have f112 := (Wv105.other W108 (Ne.symm nea))
  exact Go.retA X108 hx hlk B108 J108 e108 hret rfl rfl (hb hby d28_44) (by decide) (by decide) (fun vm_ hw_ => ⟨rfl, N108, K108, f110, f111, Fw108, f112⟩)

theorem d27_0 : decode jdk_67_method_7_code 0 = .ok (.aload_n 0, 1) := by decide +kernel
theorem d27_1 : decode jdk_67_method_7_code 1 = .ok (.aload_n 1, 1) := by decide +kernel
theorem d27_2 : decode jdk_67_method_7_code 2 = .ok (.invokespecial 29, 3) := by decide +kernel
theorem pd14 : parseMethodDescriptor "(Ljava/lang/String;)Ljava/lang/AbstractStringBuilder;" = some ⟨[(.object "java/lang/String")], some (.object "java/lang/AbstractStringBuilder")⟩ := by decide +kernel
theorem d27_5 : decode jdk_67_method_7_code 5 = .ok (.pop, 1) := by decide +kernel
theorem d27_6 : decode jdk_67_method_7_code 6 = .ok (.aload_n 0, 1) := by decide +kernel
theorem d27_7 : decode jdk_67_method_7_code 7 = .ok (.areturn, 1) := by decide +kernel
set_option maxRecDepth 65536 in
set_option maxHeartbeats 40000000 in
theorem rm27 (l : Launch) (Z : State) (a0 : Array Value) (hw : ∀ d ∈ tables_1, d.before a0 Z = true) (ws : List Jvm.Cond) (a1 v1 : Addr) (kv : ClassId) (bs : List Int32) (s2 t2 : Addr) (k2 : ClassId) (b2 : List Int32) (zc : Int32) (ms : List Addr) (h0 : Heap) (n0 : Nat) (O0 : Old Z n0 h0) (nb : Nat) (hb0 : n0 ≤ nb) (hnb : nb ≤ h0.size) (fr_a1 : nb ≤ a1) (hm_a1 : a1 ∈ ms) (fr_v1 : nb ≤ v1) (hm_v1 : v1 ∈ ms) (Ea1 : Exa Z h0 a1 "java/lang/StringBuilder") (Gv : Fld Z h0 a1 "java/lang/AbstractStringBuilder" "value" "[B" (.ref v1)) (Gc : Fld Z h0 a1 "java/lang/AbstractStringBuilder" "coder" "B" (.int 0)) (Gn : Fld Z h0 a1 "java/lang/AbstractStringBuilder" "count" "I" (.int (Int32.ofNat bs.length))) (W1 : Arv Z h0 v1 kv .byte 16 (bs.map Value.int) (.int 0)) (Es2 : Exa Z h0 s2 "java/lang/String") (Fv2 : Fld Z h0 s2 "java/lang/String" "value" "[B" (.ref t2)) (Fc2 : Fld Z h0 s2 "java/lang/String" "coder" "B" (.int 0)) (V2 : Arv Z h0 t2 k2 .byte (Int32.ofNat b2.length) (b2.map Value.int) (.int 0)) (hn2 : b2.length ≤ 1000) (hl : bs.length + b2.length ≤ 16) (ne2 : t2 ≠ v1) (nea : a1 ≠ v1) (nes : s2 ≠ v1) (ne2a : t2 ≠ a1) (nesa : s2 ≠ a1) (S_C : Sta Z Z.heap "java/lang/String" "COMPACT_STRINGS" "Z" (.int zc)) (hzc : ¬ zc = 0) :
    Con l Z ms (⟨"java/lang/StringBuilder", "append", "(Ljava/lang/String;)Ljava/lang/StringBuilder;"⟩ : MethodName) jdk_67_method_7_code 2 (some (.object "java/lang/StringBuilder")) ws ({ frames := 4, cells := 0, slots := 0, locals := 83 } : Room) #[(.ref a1), (.ref s2)] h0 (fun v vm h L => v = some (.ref a1) ∧ Fr nb L ∧ Keep h0 h [a1, v1] ∧ Fld Z h a1 "java/lang/AbstractStringBuilder" "value" "[B" (.ref v1) ∧ Fld Z h a1 "java/lang/AbstractStringBuilder" "coder" "B" (.int 0) ∧ Fld Z h a1 "java/lang/AbstractStringBuilder" "count" "I" (.int (Int32.ofNat (bs ++ b2).length)) ∧ Arv Z h v1 kv .byte 16 ((bs ++ b2).map Value.int) (.int 0)) := by
  refine Con.mk (plainFor_of_name pn5) ?_
  intro p e s m below meth c s₁ Cc X0 e0 eb J0 B0 M0
  obtain ⟨hx, hZ, hown, hby, hml, hnm, hret, hlk⟩ := id Cc
  have N0 := Fr.nil nb
  have K0 := Keep.refl h0 [a1, v1]
  show Go p e s below _ _ _ _ s₁ (mkF m 0 #[.val (.ref a1), .val (.ref s2)] [])
  refine Go.of (fun _ hr => XS.aloadN X0.here hx rfl (hb hby d27_0) rfl rfl hr) ?_
  show Go p e s below _ _ _ _ s₁ (mkF m 1 #[.val (.ref a1), .val (.ref s2)] [(.ref a1)])
  refine Go.of (fun _ hr => XS.aloadN X0.here hx rfl (hb hby d27_1) rfl rfl hr) ?_
  show Go p e s below _ _ _ _ s₁ (mkF m 2 #[.val (.ref a1), .val (.ref s2)] [(.ref s2), (.ref a1)])
  obtain ⟨_, b101, T101, h101, L101, e101, Cc101, X101, B101, J101, g101, hQ101, st101⟩ := own_callP Cc B0 J0 X0 (y := (⟨"java/lang/AbstractStringBuilder", "append", "(Ljava/lang/String;)Ljava/lang/AbstractStringBuilder;"⟩ : MethodName)) (hw _ (List.mem_of_getElem? (i := 149) rfl)) (own_sm (hw _ (List.mem_of_getElem? (i := 150) rfl)) (own_nf (hw _ (List.mem_of_getElem? (i := 160) rfl)) rfl) (by decide)) (hw _ (List.mem_of_getElem? (i := 150) rfl)) (hw _ (List.mem_of_getElem? (i := 151) rfl)) (by decide) (hw _ (List.mem_of_getElem? (i := 136) rfl)) (hw _ (List.mem_of_getElem? (i := 153) rfl)) Ea1 (rm28 l Z a0 hw [] a1 v1 _ bs s2 t2 _ b2 zc _ h0 n0 O0 nb hb0 (Nat.le_trans hnb K0.1) fr_a1 hm_a1 fr_v1 hm_v1 Ea1 Gv Gc Gn W1 Es2 Fv2 Fc2 V2 hn2 hl ne2 nea nes ne2a nesa S_C hzc) e0 (g := (mkF m 2 #[.val (.ref a1), .val (.ref s2)] [(.ref s2), (.ref a1)])) rfl (by rw [hml]; rfl) (argsL := [(.ref s2)]) (rest := []) (lenOf pd14 rfl) rfl (W := 0) (by show 2 * 0 + _ ≤ _; exact Nat.le_of_eq rfl) (hb hby d27_2) (by decide) (by decide) (by decide) (by decide)
  obtain ⟨rfl, Nq101, Kq101, Gv101, Gc101, Gn101, Wv101⟩ := hQ101
  have N101 := Fr.app N0 Nq101
  obtain ⟨hx, hZ, hown, hby, hml, hnm, hret, hlk⟩ := id Cc101
  have K101 := K0.trans Kq101 (allS (Or.inl (List.mem_of_getElem? (i := 0) rfl)) (allS (Or.inl (List.mem_of_getElem? (i := 1) rfl)) all0))
  have O101 := O0.keep Kq101 (allS (Nat.le_trans hb0 fr_a1) (allS (Nat.le_trans hb0 fr_v1) all0))
  refine Go.of st101 ?_
  show Go p e s below _ _ _ _ T101 (mkF m 5 #[.val (.ref a1), .val (.ref s2)] [(.ref a1)])
  refine Go.of (fun _ hr => XS.pop X101.here hx rfl (hb hby d27_5) rfl rfl hr) ?_
  show Go p e s below _ _ _ _ T101 (mkF m 6 #[.val (.ref a1), .val (.ref s2)] [])
  refine Go.of (fun _ hr => XS.aloadN X101.here hx rfl (hb hby d27_6) rfl rfl hr) ?_
  show Go p e s below _ _ _ _ T101 (mkF m 7 #[.val (.ref a1), .val (.ref s2)] [(.ref a1)])
  exact Go.retA X101 hx hlk B101 J101 e101 hret rfl rfl (hb hby d27_7) (by decide) (by decide) (fun vm_ hw_ => ⟨rfl, N101, K101, Gv101, Gc101, Gn101, Wv101⟩)

theorem d36_0 : decode jdk_68_method_64_code 0 = .ok (.aload_n 0, 1) := by decide +kernel
theorem d36_1 : decode jdk_68_method_64_code 1 = .ok (.getfield 15, 3) := by decide +kernel
theorem d36_4 : decode jdk_68_method_64_code 4 = .ok (.areturn, 1) := by decide +kernel
set_option maxRecDepth 65536 in
set_option maxHeartbeats 40000000 in
theorem rm36 (l : Launch) (Z : State) (a0 : Array Value) (hw : ∀ d ∈ tables_1, d.before a0 Z = true) (ws : List Jvm.Cond) (a1 v1 : Addr) (kv : ClassId) (bs : List Int32) (ms : List Addr) (h0 : Heap) (n0 : Nat) (O0 : Old Z n0 h0) (nb : Nat) (hb0 : n0 ≤ nb) (hnb : nb ≤ h0.size) (Ea1 : Exa Z h0 a1 "java/lang/StringBuilder") (Gv : Fld Z h0 a1 "java/lang/AbstractStringBuilder" "value" "[B" (.ref v1)) (Gc : Fld Z h0 a1 "java/lang/AbstractStringBuilder" "coder" "B" (.int 0)) (Gn : Fld Z h0 a1 "java/lang/AbstractStringBuilder" "count" "I" (.int (Int32.ofNat bs.length))) (W1 : Arv Z h0 v1 kv .byte 16 (bs.map Value.int) (.int 0)) :
    Con l Z ms (⟨"java/lang/AbstractStringBuilder", "getValue", "()[B"⟩ : MethodName) jdk_68_method_64_code 1 (some (.array .byte)) ws ({ frames := 0, cells := 0, slots := 0, locals := 0 } : Room) #[(.ref a1)] h0 (fun v vm h L => v = some (.ref v1) ∧ Fr nb L ∧ h = h0) := by
  refine Con.mk (plainFor_of_name pn4) ?_
  intro p e s m below meth c s₁ Cc X0 e0 eb J0 B0 M0
  obtain ⟨hx, hZ, hown, hby, hml, hnm, hret, hlk⟩ := id Cc
  have N0 := Fr.nil h0.size
  have K0 := Keep.refl h0 []
  show Go p e s below _ _ _ _ s₁ (mkF m 0 #[.val (.ref a1)] [])
  refine Go.of (fun _ hr => XS.aloadN X0.here hx rfl (hb hby d36_0) rfl rfl hr) ?_
  show Go p e s below _ _ _ _ s₁ (mkF m 1 #[.val (.ref a1)] [(.ref a1)])
  obtain ⟨T101, X101, e101, st101⟩ := getF X0 hx hZ hown (host := "") (Or.inl (hw _ (List.mem_of_getElem? (i := 140) rfl))) Via.refl e0 Gv (g := (mkF m 1 #[.val (.ref a1)] [(.ref a1)])) rfl rfl (hb hby d36_1)
  refine Go.of (fun _ hr => st101 _ hr) ?_
  show Go p e s below _ _ _ _ T101 (mkF m 4 #[.val (.ref a1)] [(.ref v1)])
  exact Go.retA X101 hx hlk B0 J0 e101 hret rfl rfl (hb hby d36_4) (by decide) (by decide) (fun vm_ hw_ => ⟨rfl, (fun y hy => Nat.le_trans hnb (N0 y hy)), rfl⟩)

theorem d38_0 : decode jdk_68_method_6_code 0 = .ok (.aload_n 0, 1) := by decide +kernel
theorem d38_1 : decode jdk_68_method_6_code 1 = .ok (.getfield 79, 3) := by decide +kernel
theorem d38_4 : decode jdk_68_method_6_code 4 = .ok (.ireturn, 1) := by decide +kernel
set_option maxRecDepth 65536 in
set_option maxHeartbeats 40000000 in
theorem rm38 (l : Launch) (Z : State) (a0 : Array Value) (hw : ∀ d ∈ tables_1, d.before a0 Z = true) (ws : List Jvm.Cond) (a1 v1 : Addr) (kv : ClassId) (bs : List Int32) (ms : List Addr) (h0 : Heap) (n0 : Nat) (O0 : Old Z n0 h0) (nb : Nat) (hb0 : n0 ≤ nb) (hnb : nb ≤ h0.size) (Ea1 : Exa Z h0 a1 "java/lang/StringBuilder") (Gv : Fld Z h0 a1 "java/lang/AbstractStringBuilder" "value" "[B" (.ref v1)) (Gc : Fld Z h0 a1 "java/lang/AbstractStringBuilder" "coder" "B" (.int 0)) (Gn : Fld Z h0 a1 "java/lang/AbstractStringBuilder" "count" "I" (.int (Int32.ofNat bs.length))) (W1 : Arv Z h0 v1 kv .byte 16 (bs.map Value.int) (.int 0)) :
    Con l Z ms (⟨"java/lang/AbstractStringBuilder", "length", "()I"⟩ : MethodName) jdk_68_method_6_code 1 (some .int) ws ({ frames := 0, cells := 0, slots := 0, locals := 0 } : Room) #[(.ref a1)] h0 (fun v vm h L => v = some (.int (Int32.ofNat bs.length)) ∧ Fr nb L ∧ h = h0) := by
  refine Con.mk (plainFor_of_name pn4) ?_
  intro p e s m below meth c s₁ Cc X0 e0 eb J0 B0 M0
  obtain ⟨hx, hZ, hown, hby, hml, hnm, hret, hlk⟩ := id Cc
  have N0 := Fr.nil h0.size
  have K0 := Keep.refl h0 []
  show Go p e s below _ _ _ _ s₁ (mkF m 0 #[.val (.ref a1)] [])
  refine Go.of (fun _ hr => XS.aloadN X0.here hx rfl (hb hby d38_0) rfl rfl hr) ?_
  show Go p e s below _ _ _ _ s₁ (mkF m 1 #[.val (.ref a1)] [(.ref a1)])
  obtain ⟨T101, X101, e101, st101⟩ := getF X0 hx hZ hown (host := "") (Or.inl (hw _ (List.mem_of_getElem? (i := 155) rfl))) Via.refl e0 Gn (g := (mkF m 1 #[.val (.ref a1)] [(.ref a1)])) rfl rfl (hb hby d38_1)
  refine Go.of (fun _ hr => st101 _ hr) ?_
  show Go p e s below _ _ _ _ T101 (mkF m 4 #[.val (.ref a1)] [(.int (Int32.ofNat bs.length))])
  exact Go.retI X101 hx hlk B0 J0 e101 hret (hb hby d38_4) (by decide) (by decide) (fun vm_ hw_ => ⟨rfl, (fun y hy => Nat.le_trans hnb (N0 y hy)), rfl⟩)

theorem d37_0 : decode jdk_67_method_93_code 0 = .ok (.aload_n 0, 1) := by decide +kernel
theorem d37_1 : decode jdk_67_method_93_code 1 = .ok (.invokespecial 343, 3) := by decide +kernel
theorem d37_4 : decode jdk_67_method_93_code 4 = .ok (.ireturn, 1) := by decide +kernel
set_option maxRecDepth 65536 in
set_option maxHeartbeats 40000000 in
theorem rm37 (l : Launch) (Z : State) (a0 : Array Value) (hw : ∀ d ∈ tables_1, d.before a0 Z = true) (ws : List Jvm.Cond) (a1 v1 : Addr) (kv : ClassId) (bs : List Int32) (ms : List Addr) (h0 : Heap) (n0 : Nat) (O0 : Old Z n0 h0) (nb : Nat) (hb0 : n0 ≤ nb) (hnb : nb ≤ h0.size) (Ea1 : Exa Z h0 a1 "java/lang/StringBuilder") (Gv : Fld Z h0 a1 "java/lang/AbstractStringBuilder" "value" "[B" (.ref v1)) (Gc : Fld Z h0 a1 "java/lang/AbstractStringBuilder" "coder" "B" (.int 0)) (Gn : Fld Z h0 a1 "java/lang/AbstractStringBuilder" "count" "I" (.int (Int32.ofNat bs.length))) (W1 : Arv Z h0 v1 kv .byte 16 (bs.map Value.int) (.int 0)) :
    Con l Z ms (⟨"java/lang/StringBuilder", "length", "()I"⟩ : MethodName) jdk_67_method_93_code 1 (some .int) ws ({ frames := 1, cells := 0, slots := 0, locals := 12 } : Room) #[(.ref a1)] h0 (fun v vm h L => v = some (.int (Int32.ofNat bs.length)) ∧ Fr nb L ∧ h = h0) := by
  refine Con.mk (plainFor_of_name pn5) ?_
  intro p e s m below meth c s₁ Cc X0 e0 eb J0 B0 M0
  obtain ⟨hx, hZ, hown, hby, hml, hnm, hret, hlk⟩ := id Cc
  have N0 := Fr.nil h0.size
  have K0 := Keep.refl h0 []
  show Go p e s below _ _ _ _ s₁ (mkF m 0 #[.val (.ref a1)] [])
  refine Go.of (fun _ hr => XS.aloadN X0.here hx rfl (hb hby d37_0) rfl rfl hr) ?_
  show Go p e s below _ _ _ _ s₁ (mkF m 1 #[.val (.ref a1)] [(.ref a1)])
  obtain ⟨_, b101, T101, h101, L101, e101, Cc101, X101, B101, J101, g101, hQ101, st101⟩ := own_callP Cc B0 J0 X0 (y := (⟨"java/lang/AbstractStringBuilder", "length", "()I"⟩ : MethodName)) (hw _ (List.mem_of_getElem? (i := 206) rfl)) (own_sm (hw _ (List.mem_of_getElem? (i := 202) rfl)) (own_nf (hw _ (List.mem_of_getElem? (i := 160) rfl)) rfl) (by decide)) (hw _ (List.mem_of_getElem? (i := 202) rfl)) (hw _ (List.mem_of_getElem? (i := 151) rfl)) (by decide) (hw _ (List.mem_of_getElem? (i := 136) rfl)) (hw _ (List.mem_of_getElem? (i := 207) rfl)) Ea1 (rm38 l Z a0 hw [] a1 v1 _ bs _ h0 n0 O0 h0.size (own_ole O0) K0.1 Ea1 Gv Gc Gn W1) e0 (g := (mkF m 1 #[.val (.ref a1)] [(.ref a1)])) rfl (by rw [hml]; rfl) (argsL := []) (rest := []) (lenOf pd12 rfl) rfl (W := 0) (by show 2 * 0 + _ ≤ _; exact Nat.le_of_eq rfl) (hb hby d37_1) (by decide) (by decide) (by decide) (by decide)
  obtain ⟨rfl, Nq101, hh101⟩ := hQ101
  have N101 := Fr.app N0 Nq101
  obtain ⟨hx, hZ, hown, hby, hml, hnm, hret, hlk⟩ := id Cc101
  rw [hh101] at e101 B101 J101
  refine Go.of st101 ?_
  show Go p e s below _ _ _ _ T101 (mkF m 4 #[.val (.ref a1)] [(.int (Int32.ofNat bs.length))])
  exact Go.retI X101 hx hlk B101 J101 e101 hret (hb hby d37_4) (by decide) (by decide) (fun vm_ hw_ => ⟨rfl, (fun y hy => Nat.le_trans hnb (N101 y hy)), rfl⟩)

theorem d39_0 : decode jdk_68_method_68_code 0 = .ok (.getstatic 18, 3) := by decide +kernel
theorem d39_3 : decode jdk_68_method_68_code 3 = .ok (.ifCond .eq 14, 3) := by decide +kernel
theorem d39_6 : decode jdk_68_method_68_code 6 = .ok (.aload_n 0, 1) := by decide +kernel
theorem d39_7 : decode jdk_68_method_68_code 7 = .ok (.getfield 22, 3) := by decide +kernel
theorem d39_10 : decode jdk_68_method_68_code 10 = .ok (.ifCond .ne 7, 3) := by decide +kernel
theorem d39_13 : decode jdk_68_method_68_code 13 = .ok (.iconst 1, 1) := by decide +kernel
theorem d39_14 : decode jdk_68_method_68_code 14 = .ok (.goto 4, 3) := by decide +kernel
theorem d39_18 : decode jdk_68_method_68_code 18 = .ok (.ireturn, 1) := by decide +kernel
set_option maxRecDepth 65536 in
set_option maxHeartbeats 40000000 in
theorem rm39 (l : Launch) (Z : State) (a0 : Array Value) (hw : ∀ d ∈ tables_1, d.before a0 Z = true) (ws : List Jvm.Cond) (a1 v1 : Addr) (kv : ClassId) (bs : List Int32) (zc : Int32) (ms : List Addr) (h0 : Heap) (n0 : Nat) (O0 : Old Z n0 h0) (nb : Nat) (hb0 : n0 ≤ nb) (hnb : nb ≤ h0.size) (Ea1 : Exa Z h0 a1 "java/lang/StringBuilder") (Gv : Fld Z h0 a1 "java/lang/AbstractStringBuilder" "value" "[B" (.ref v1)) (Gc : Fld Z h0 a1 "java/lang/AbstractStringBuilder" "coder" "B" (.int 0)) (Gn : Fld Z h0 a1 "java/lang/AbstractStringBuilder" "count" "I" (.int (Int32.ofNat bs.length))) (W1 : Arv Z h0 v1 kv .byte 16 (bs.map Value.int) (.int 0)) (S_C : Sta Z Z.heap "java/lang/String" "COMPACT_STRINGS" "Z" (.int zc)) (hzc : ¬ zc = 0) :
    Con l Z ms (⟨"java/lang/AbstractStringBuilder", "isLatin1", "()Z"⟩ : MethodName) jdk_68_method_68_code 1 (some .boolean) ws ({ frames := 0, cells := 0, slots := 0, locals := 0 } : Room) #[(.ref a1)] h0 (fun v vm h L => v = some (.int 1) ∧ Fr nb L ∧ h = h0) := by
  refine Con.mk (plainFor_of_name pn4) ?_
  intro p e s m below meth c s₁ Cc X0 e0 eb J0 B0 M0
  obtain ⟨hx, hZ, hown, hby, hml, hnm, hret, hlk⟩ := id Cc
  have N0 := Fr.nil h0.size
  have K0 := Keep.refl h0 []
  show Go p e s below _ _ _ _ s₁ (mkF m 0 #[.val (.ref a1)] [])
  obtain ⟨T101, X101, e101, st101⟩ := getS2 X0 hx hZ hown (host := "") (Or.inl (hw _ (List.mem_of_getElem? (i := 139) rfl))) Via.refl e0 (S_C.ext O0.2) (g := (mkF m 0 #[.val (.ref a1)] [])) rfl (hb hby d39_0)
  refine Go.of (fun _ hr => st101 _ hr) ?_
  show Go p e s below _ _ _ _ T101 (mkF m 3 #[.val (.ref a1)] [(.int zc)])
  refine Go.of (fun _ hr => XS.ifNo X101.here hx rfl (hb hby d39_3) rfl ((if0 _ _).trans (feq hzc).1) hr) ?_
  show Go p e s below _ _ _ _ T101 (mkF m 6 #[.val (.ref a1)] [])
  refine Go.of (fun _ hr => XS.aloadN X101.here hx rfl (hb hby d39_6) rfl rfl hr) ?_
  show Go p e s below _ _ _ _ T101 (mkF m 7 #[.val (.ref a1)] [(.ref a1)])
  obtain ⟨T102, X102, e102, st102⟩ := getF X101 hx hZ hown (host := "") (Or.inl (hw _ (List.mem_of_getElem? (i := 142) rfl))) Via.refl e101 Gc (g := (mkF m 7 #[.val (.ref a1)] [(.ref a1)])) rfl rfl (hb hby d39_7)
  refine Go.of (fun _ hr => st102 _ hr) ?_
  show Go p e s below _ _ _ _ T102 (mkF m 10 #[.val (.ref a1)] [(.int (0 : Int32))])
  refine Go.of (fun _ hr => XS.ifNo X102.here hx rfl (hb hby d39_10) rfl ((if0 _ _).trans (teq (by decide : ((0 : Int32) = (0 : Int32)))).2) hr) ?_
  show Go p e s below _ _ _ _ T102 (mkF m 13 #[.val (.ref a1)] [])
  refine Go.of (fun _ hr => XS.iconst X102.here hx rfl (hb hby d39_13) hr) ?_
  show Go p e s below _ _ _ _ T102 (mkF m 14 #[.val (.ref a1)] [(.int (1 : Int32))])
  refine Go.of (fun _ hr => XS.goto X102.here hx rfl (pc0 := 14) (pc' := 18) rfl (hb hby d39_14) (by decide) (by decide) hr) ?_
  show Go p e s below _ _ _ _ T102 (mkF m 18 #[.val (.ref a1)] [(.int (1 : Int32))])
  exact Go.retN X102 hx hlk B0 J0 e102 (t := .boolean) (z' := (1 : Int32)) hret (by simp) (hb hby d39_18) rfl (by decide) (by decide) (fun vm_ hw_ => ⟨rfl, (fun y hy => Nat.le_trans hnb (N0 y hy)), rfl⟩)

theorem pn6 : plainName "java/util/Arrays" = true := by first | (simp [plainName, overriddenIn]; done) | decide +kernel
theorem d42_0 : decode jdk_65_method_131_code 0 = .ok (.iload_n 1, 1) := by decide +kernel
theorem d42_1 : decode jdk_65_method_131_code 1 = .ok (.iload_n 0, 1) := by decide +kernel
theorem d42_2 : decode jdk_65_method_131_code 2 = .ok (.if_icmp .ge 35, 3) := by decide +kernel
theorem d42_37 : decode jdk_65_method_131_code 37 = .ok (.return_, 1) := by decide +kernel
set_option maxRecDepth 65536 in
set_option maxHeartbeats 40000000 in
theorem rm42 (l : Launch) (Z : State) (a0 : Array Value) (hw : ∀ d ∈ tables_1, d.before a0 Z = true) (ws : List Jvm.Cond) (j : Nat) (ms : List Addr) (h0 : Heap) (n0 : Nat) (O0 : Old Z n0 h0) (nb : Nat) (hb0 : n0 ≤ nb) (hnb : nb ≤ h0.size) (hj : j ≤ 1000) :
    Con l Z ms (⟨"java/util/Arrays", "checkLength", "(II)V"⟩ : MethodName) jdk_65_method_131_code 2 none ws ({ frames := 0, cells := 0, slots := 0, locals := 0 } : Room) #[(.int (0 : Int32)), (.int (Int32.ofNat j))] h0 (fun v vm h L => v = none ∧ Fr nb L ∧ h = h0) := by
  refine Con.mk (plainFor_of_name pn6) ?_
  intro p e s m below meth c s₁ Cc X0 e0 eb J0 B0 M0
  obtain ⟨hx, hZ, hown, hby, hml, hnm, hret, hlk⟩ := id Cc
  have N0 := Fr.nil h0.size
  have K0 := Keep.refl h0 []
  show Go p e s below _ _ _ _ s₁ (mkF m 0 #[.val (.int (0 : Int32)), .val (.int (Int32.ofNat j))] [])
  refine Go.of (fun _ hr => XS.iloadN X0.here hx rfl (hb hby d42_0) rfl  hr) ?_
  show Go p e s below _ _ _ _ s₁ (mkF m 1 #[.val (.int (0 : Int32)), .val (.int (Int32.ofNat j))] [(.int (Int32.ofNat j))])
  refine Go.of (fun _ hr => XS.iloadN X0.here hx rfl (hb hby d42_1) rfl  hr) ?_
  show Go p e s below _ _ _ _ s₁ (mkF m 2 #[.val (.int (0 : Int32)), .val (.int (Int32.ofNat j))] [(.int (0 : Int32)), (.int (Int32.ofNat j))])
  refine Go.of (fun _ hr => XS.icmpYes X0.here hx rfl (pc0 := 2) (pc' := 37) rfl (hb hby d42_2) rfl (flt (oi_nn (by omega))).2.1 (by decide) (by decide) hr) ?_
  show Go p e s below _ _ _ _ s₁ (mkF m 37 #[.val (.int (0 : Int32)), .val (.int (Int32.ofNat j))] [])
  exact Go.retV X0 hx hlk B0 J0 e0 hret (hb hby d42_37) (by decide) (by decide) (fun vm_ hw_ => ⟨rfl, (fun y hy => Nat.le_trans hnb (N0 y hy)), rfl⟩)

theorem d43_0 : decode jdk_29_method_69_code 0 = .ok (.iload_n 0, 1) := by decide +kernel
theorem d43_1 : decode jdk_29_method_69_code 1 = .ok (.iload_n 1, 1) := by decide +kernel
theorem d43_2 : decode jdk_29_method_69_code 2 = .ok (.if_icmp .gt 7, 3) := by decide +kernel
theorem d43_9 : decode jdk_29_method_69_code 9 = .ok (.iload_n 1, 1) := by decide +kernel
theorem d43_10 : decode jdk_29_method_69_code 10 = .ok (.ireturn, 1) := by decide +kernel
set_option maxRecDepth 65536 in
set_option maxHeartbeats 40000000 in
theorem rm43 (l : Launch) (Z : State) (a0 : Array Value) (hw : ∀ d ∈ tables_1, d.before a0 Z = true) (ws : List Jvm.Cond) (j : Nat) (ms : List Addr) (h0 : Heap) (n0 : Nat) (O0 : Old Z n0 h0) (nb : Nat) (hb0 : n0 ≤ nb) (hnb : nb ≤ h0.size) (hj : j < 16) :
    Con l Z ms (⟨"java/lang/Math", "min", "(II)I"⟩ : MethodName) jdk_29_method_69_code 2 (some .int) ws ({ frames := 0, cells := 0, slots := 0, locals := 0 } : Room) #[(.int (16 : Int32)), (.int (Int32.ofNat j))] h0 (fun v vm h L => v = some (.int (Int32.ofNat j)) ∧ Fr nb L ∧ h = h0) := by
  refine Con.mk (by decide +kernel) ?_
  intro p e s m below meth c s₁ Cc X0 e0 eb J0 B0 M0
  obtain ⟨hx, hZ, hown, hby, hml, hnm, hret, hlk⟩ := id Cc
  have N0 := Fr.nil h0.size
  have K0 := Keep.refl h0 []
  show Go p e s below _ _ _ _ s₁ (mkF m 0 #[.val (.int (16 : Int32)), .val (.int (Int32.ofNat j))] [])
  refine Go.of (fun _ hr => XS.iloadN X0.here hx rfl (hb hby d43_0) rfl  hr) ?_
  show Go p e s below _ _ _ _ s₁ (mkF m 1 #[.val (.int (16 : Int32)), .val (.int (Int32.ofNat j))] [(.int (16 : Int32))])
  refine Go.of (fun _ hr => XS.iloadN X0.here hx rfl (hb hby d43_1) rfl  hr) ?_
  show Go p e s below _ _ _ _ s₁ (mkF m 2 #[.val (.int (16 : Int32)), .val (.int (Int32.ofNat j))] [(.int (Int32.ofNat j)), (.int (16 : Int32))])
  refine Go.of (fun _ hr => XS.icmpYes X0.here hx rfl (pc0 := 2) (pc' := 9) rfl (hb hby d43_2) rfl (tlt (own_lt16 hj)).2.2.1 (by decide) (by decide) hr) ?_
  show Go p e s below _ _ _ _ s₁ (mkF m 9 #[.val (.int (16 : Int32)), .val (.int (Int32.ofNat j))] [])
  refine Go.of (fun _ hr => XS.iloadN X0.here hx rfl (hb hby d43_9) rfl  hr) ?_
  show Go p e s below _ _ _ _ s₁ (mkF m 10 #[.val (.int (16 : Int32)), .val (.int (Int32.ofNat j))] [(.int (Int32.ofNat j))])
  exact Go.retI X0 hx hlk B0 J0 e0 hret (hb hby d43_10) (by decide) (by decide) (fun vm_ hw_ => ⟨rfl, (fun y hy => Nat.le_trans hnb (N0 y hy)), rfl⟩)

theorem d41_0 : decode jdk_65_method_133_code 0 = .ok (.iload_n 1, 1) := by decide +kernel
theorem d41_1 : decode jdk_65_method_133_code 1 = .ok (.iload_n 2, 1) := by decide +kernel
theorem d41_2 : decode jdk_65_method_133_code 2 = .ok (.invokestatic 343, 3) := by decide +kernel
theorem d41_5 : decode jdk_65_method_133_code 5 = .ok (.iload_n 2, 1) := by decide +kernel
theorem d41_6 : decode jdk_65_method_133_code 6 = .ok (.iload_n 1, 1) := by decide +kernel
theorem d41_7 : decode jdk_65_method_133_code 7 = .ok (.isub, 1) := by decide +kernel
theorem d41_8 : decode jdk_65_method_133_code 8 = .ok (.istore_n 3, 1) := by decide +kernel
theorem d41_9 : decode jdk_65_method_133_code 9 = .ok (.iload_n 3, 1) := by decide +kernel
theorem d41_10 : decode jdk_65_method_133_code 10 = .ok (.newarray .byte, 2) := by decide +kernel
theorem d41_12 : decode jdk_65_method_133_code 12 = .ok (.astore 4, 2) := by decide +kernel
theorem d41_14 : decode jdk_65_method_133_code 14 = .ok (.aload_n 0, 1) := by decide +kernel
theorem d41_15 : decode jdk_65_method_133_code 15 = .ok (.iload_n 1, 1) := by decide +kernel
theorem d41_16 : decode jdk_65_method_133_code 16 = .ok (.aload 4, 2) := by decide +kernel
theorem d41_18 : decode jdk_65_method_133_code 18 = .ok (.iconst 0, 1) := by decide +kernel
theorem d41_19 : decode jdk_65_method_133_code 19 = .ok (.aload_n 0, 1) := by decide +kernel
theorem d41_20 : decode jdk_65_method_133_code 20 = .ok (.arraylength, 1) := by decide +kernel
theorem d41_21 : decode jdk_65_method_133_code 21 = .ok (.iload_n 1, 1) := by decide +kernel
theorem d41_22 : decode jdk_65_method_133_code 22 = .ok (.isub, 1) := by decide +kernel
theorem d41_23 : decode jdk_65_method_133_code 23 = .ok (.iload_n 3, 1) := by decide +kernel
theorem d41_24 : decode jdk_65_method_133_code 24 = .ok (.invokestatic 304, 3) := by decide +kernel
theorem pd15 : parseMethodDescriptor "(II)I" = some ⟨[.int, .int], some .int⟩ := by decide +kernel
theorem d41_27 : decode jdk_65_method_133_code 27 = .ok (.invokestatic 150, 3) := by decide +kernel
theorem d41_30 : decode jdk_65_method_133_code 30 = .ok (.aload 4, 2) := by decide +kernel
theorem d41_32 : decode jdk_65_method_133_code 32 = .ok (.areturn, 1) := by decide +kernel
set_option maxRecDepth 65536 in
set_option maxHeartbeats 40000000 in
theorem rm41 (l : Launch) (Z : State) (a0 : Array Value) (hw : ∀ d ∈ tables_1, d.before a0 Z = true) (ws : List Jvm.Cond) (v1 : Addr) (kv : ClassId) (bs : List Int32) (ms : List Addr) (h0 : Heap) (n0 : Nat) (O0 : Old Z n0 h0) (nb : Nat) (hb0 : n0 ≤ nb) (hnb : nb ≤ h0.size) (W1 : Arv Z h0 v1 kv .byte 16 (bs.map Value.int) (.int 0)) (hj : bs.length < 16) :
    Con l Z ms (⟨"java/util/Arrays", "copyOfRangeByte", "([BII)[B"⟩ : MethodName) jdk_65_method_133_code 5 (some (.array .byte)) ws ({ frames := 1, cells := 1, slots := 16, locals := 40 } : Room) #[(.ref v1), (.int (0 : Int32)), (.int (Int32.ofNat bs.length))] h0 (fun v vm h L => ∃ r k, v = some (.ref r) ∧ Fr nb L ∧ Ext h0 h ∧ h0.size ≤ r ∧ Arv Z h r k .byte (Int32.ofNat bs.length) (bs.map Value.int) (.int 0)) := by
  refine Con.mk (plainFor_of_name pn6) ?_
  intro p e s m below meth c s₁ Cc X0 e0 eb J0 B0 M0
  obtain ⟨hx, hZ, hown, hby, hml, hnm, hret, hlk⟩ := id Cc
  have N0 := Fr.nil h0.size
  have K0 := Keep.refl h0 []
  show Go p e s below _ _ _ _ s₁ (mkF m 0 #[.val (.ref v1), .val (.int (0 : Int32)), .val (.int (Int32.ofNat bs.length)), .unset, .unset] [])
  refine Go.of (fun _ hr => XS.iloadN X0.here hx rfl (hb hby d41_0) rfl  hr) ?_
  show Go p e s below _ _ _ _ s₁ (mkF m 1 #[.val (.ref v1), .val (.int (0 : Int32)), .val (.int (Int32.ofNat bs.length)), .unset, .unset] [(.int (0 : Int32))])
  refine Go.of (fun _ hr => XS.iloadN X0.here hx rfl (hb hby d41_1) rfl  hr) ?_
  show Go p e s below _ _ _ _ s₁ (mkF m 2 #[.val (.ref v1), .val (.int (0 : Int32)), .val (.int (Int32.ofNat bs.length)), .unset, .unset] [(.int (Int32.ofNat bs.length)), (.int (0 : Int32))])
  obtain ⟨_, b101, T101, h101, L101, e101, Cc101, X101, B101, J101, g101, hQ101, st101⟩ := own_callS Cc B0 J0 X0 (hw _ (List.mem_of_getElem? (i := 220) rfl)) (hw _ (List.mem_of_getElem? (i := 221) rfl)) (hw _ (List.mem_of_getElem? (i := 215) rfl)) (hw _ (List.mem_of_getElem? (i := 222) rfl)) (by decide) (rm42 l Z a0 hw [] bs.length _ h0 n0 O0 h0.size (own_ole O0) K0.1 (by omega)) e0 (g := (mkF m 2 #[.val (.ref v1), .val (.int (0 : Int32)), .val (.int (Int32.ofNat bs.length)), .unset, .unset] [(.int (Int32.ofNat bs.length)), (.int (0 : Int32))])) rfl (by rw [hml]; rfl) (argsL := [(.int (0 : Int32)), (.int (Int32.ofNat bs.length))]) (rest := []) (lenOf pd6 rfl) rfl (W := 0) (by show 2 * 0 + _ ≤ _; exact Nat.le_of_eq rfl) (hb hby d41_2) (by decide) (by decide) (by decide) (by decide)
  obtain ⟨rfl, Nq101, hh101⟩ := hQ101
  have N101 := Fr.app N0 Nq101
  obtain ⟨hx, hZ, hown, hby, hml, hnm, hret, hlk⟩ := id Cc101
  rw [hh101] at e101 B101 J101
  refine Go.of st101 ?_
  show Go p e s below _ _ _ _ T101 (mkF m 5 #[.val (.ref v1), .val (.int (0 : Int32)), .val (.int (Int32.ofNat bs.length)), .unset, .unset] [])
  refine Go.of (fun _ hr => XS.iloadN X101.here hx rfl (hb hby d41_5) rfl  hr) ?_
  show Go p e s below _ _ _ _ T101 (mkF m 6 #[.val (.ref v1), .val (.int (0 : Int32)), .val (.int (Int32.ofNat bs.length)), .unset, .unset] [(.int (Int32.ofNat bs.length))])
  refine Go.of (fun _ hr => XS.iloadN X101.here hx rfl (hb hby d41_6) rfl  hr) ?_
  show Go p e s below _ _ _ _ T101 (mkF m 7 #[.val (.ref v1), .val (.int (0 : Int32)), .val (.int (Int32.ofNat bs.length)), .unset, .unset] [(.int (0 : Int32)), (.int (Int32.ofNat bs.length))])
  refine Go.of (fun _ hr => XS.isub X101.here hx rfl (hb hby d41_7) rfl hr) ?_
  show Go p e s below _ _ _ _ T101 (mkF m 8 #[.val (.ref v1), .val (.int (0 : Int32)), .val (.int (Int32.ofNat bs.length)), .unset, .unset] [(.int ((Int32.ofNat bs.length) - (0 : Int32)))])
  rw [Int32.sub_zero]
  show Go p e s below _ _ _ _ T101 (mkF m 8 #[.val (.ref v1), .val (.int (0 : Int32)), .val (.int (Int32.ofNat bs.length)), .unset, .unset] [(.int (Int32.ofNat bs.length))])
  refine Go.of (fun _ hr => XS.istoreN X101.here hx rfl (hb hby d41_8) rfl (l' := #[.val (.ref v1), .val (.int (0 : Int32)), .val (.int (Int32.ofNat bs.length)), .val (.int (Int32.ofNat bs.length)), .unset]) rfl hr) ?_
  show Go p e s below _ _ _ _ T101 (mkF m 9 #[.val (.ref v1), .val (.int (0 : Int32)), .val (.int (Int32.ofNat bs.length)), .val (.int (Int32.ofNat bs.length)), .unset] [])
  refine Go.of (fun _ hr => XS.iloadN X101.here hx rfl (hb hby d41_9) rfl  hr) ?_
  show Go p e s below _ _ _ _ T101 (mkF m 10 #[.val (.ref v1), .val (.int (0 : Int32)), .val (.int (Int32.ofNat bs.length)), .val (.int (Int32.ofNat bs.length)), .unset] [(.int (Int32.ofNat bs.length))])
  obtain ⟨T102, h102, k102, X102, e102, E102, A102, st102⟩ := newP X101 hx hZ (hw _ (List.mem_of_getElem? (i := 26) rfl)) e101 (g := (mkF m 10 #[.val (.ref v1), .val (.int (0 : Int32)), .val (.int (Int32.ofNat bs.length)), .val (.int (Int32.ofNat bs.length)), .unset] [(.int (Int32.ofNat bs.length))])) rfl (hb hby d41_10) rfl (oi_nn (by omega)) (cap := 16) (by rw [oi_nat (by omega)]; omega) (by decide) (by decide) (by decide)
  obtain ⟨o102, g102⟩ : ∃ z, z = h0.size := ⟨_, rfl⟩
  rw [← g102] at A102 st102
  have ne_v1_o102 : v1 ≠ o102 := Nat.ne_of_lt (Nat.lt_of_lt_of_le W1.lt (Nat.le_of_eq g102.symm))
  have V102 := Arv.new A102 (oi_nn (by omega))
  have lt102 : o102 < h102.size := A102.lt
  have J102 := J101.add E102 g102 lt102
  have B102 := B101.mono E102.1
  have O102 := O0.ext E102
  have sz102 : h0.size ≤ o102 := Nat.le_trans K0.1 (Nat.le_of_eq g102.symm)
  have fr102 : h0.size ≤ o102 := sz102
  have K102 := K0.ext E102
  refine Go.of (fun _ hr => st102 _ hr) ?_
  show Go p e s below _ _ _ _ T102 (mkF m 12 #[.val (.ref v1), .val (.int (0 : Int32)), .val (.int (Int32.ofNat bs.length)), .val (.int (Int32.ofNat bs.length)), .unset] [(.ref o102)])
  refine Go.of (fun _ hr => XS.astore X102.here hx rfl (hb hby d41_12) rfl rfl (l' := #[.val (.ref v1), .val (.int (0 : Int32)), .val (.int (Int32.ofNat bs.length)), .val (.int (Int32.ofNat bs.length)), .val (.ref o102)]) rfl hr) ?_
  show Go p e s below _ _ _ _ T102 (mkF m 14 #[.val (.ref v1), .val (.int (0 : Int32)), .val (.int (Int32.ofNat bs.length)), .val (.int (Int32.ofNat bs.length)), .val (.ref o102)] [])
  refine Go.of (fun _ hr => XS.aloadN X102.here hx rfl (hb hby d41_14) rfl rfl hr) ?_
  show Go p e s below _ _ _ _ T102 (mkF m 15 #[.val (.ref v1), .val (.int (0 : Int32)), .val (.int (Int32.ofNat bs.length)), .val (.int (Int32.ofNat bs.length)), .val (.ref o102)] [(.ref v1)])
  refine Go.of (fun _ hr => XS.iloadN X102.here hx rfl (hb hby d41_15) rfl  hr) ?_
  show Go p e s below _ _ _ _ T102 (mkF m 16 #[.val (.ref v1), .val (.int (0 : Int32)), .val (.int (Int32.ofNat bs.length)), .val (.int (Int32.ofNat bs.length)), .val (.ref o102)] [(.int (0 : Int32)), (.ref v1)])
  refine Go.of (fun _ hr => XS.aload X102.here hx rfl (hb hby d41_16) rfl rfl hr) ?_
  show Go p e s below _ _ _ _ T102 (mkF m 18 #[.val (.ref v1), .val (.int (0 : Int32)), .val (.int (Int32.ofNat bs.length)), .val (.int (Int32.ofNat bs.length)), .val (.ref o102)] [(.ref o102), (.int (0 : Int32)), (.ref v1)])
  refine Go.of (fun _ hr => XS.iconst X102.here hx rfl (hb hby d41_18) hr) ?_
  show Go p e s below _ _ _ _ T102 (mkF m 19 #[.val (.ref v1), .val (.int (0 : Int32)), .val (.int (Int32.ofNat bs.length)), .val (.int (Int32.ofNat bs.length)), .val (.ref o102)] [(.int (0 : Int32)), (.ref o102), (.int (0 : Int32)), (.ref v1)])
  refine Go.of (fun _ hr => XS.aloadN X102.here hx rfl (hb hby d41_19) rfl rfl hr) ?_
  show Go p e s below _ _ _ _ T102 (mkF m 20 #[.val (.ref v1), .val (.int (0 : Int32)), .val (.int (Int32.ofNat bs.length)), .val (.int (Int32.ofNat bs.length)), .val (.ref o102)] [(.ref v1), (.int (0 : Int32)), (.ref o102), (.int (0 : Int32)), (.ref v1)])
  have f104 := (W1.ext E102)
  obtain ⟨cl103, Ar103, q103, S103, N103_, H103, G103⟩ := id f104
  refine Go.of (fun _ hr => X102.arraylength hx (by rw [e102]; exact Ar103.1) (State.isArrayOf_alike hZ.alike Ar103.2.1) (g := (mkF m 20 #[.val (.ref v1), .val (.int (0 : Int32)), .val (.int (Int32.ofNat bs.length)), .val (.int (Int32.ofNat bs.length)), .val (.ref o102)] [(.ref v1), (.int (0 : Int32)), (.ref o102), (.int (0 : Int32)), (.ref v1)])) rfl rfl (hb hby d41_20) _ hr) ?_
  rw [len_of S103 N103_]
  show Go p e s below _ _ _ _ T102 (mkF m 21 #[.val (.ref v1), .val (.int (0 : Int32)), .val (.int (Int32.ofNat bs.length)), .val (.int (Int32.ofNat bs.length)), .val (.ref o102)] [(.int (16 : Int32)), (.int (0 : Int32)), (.ref o102), (.int (0 : Int32)), (.ref v1)])
  refine Go.of (fun _ hr => XS.iloadN X102.here hx rfl (hb hby d41_21) rfl  hr) ?_
  show Go p e s below _ _ _ _ T102 (mkF m 22 #[.val (.ref v1), .val (.int (0 : Int32)), .val (.int (Int32.ofNat bs.length)), .val (.int (Int32.ofNat bs.length)), .val (.ref o102)] [(.int (0 : Int32)), (.int (16 : Int32)), (.int (0 : Int32)), (.ref o102), (.int (0 : Int32)), (.ref v1)])
  refine Go.of (fun _ hr => XS.isub X102.here hx rfl (hb hby d41_22) rfl hr) ?_
  show Go p e s below _ _ _ _ T102 (mkF m 23 #[.val (.ref v1), .val (.int (0 : Int32)), .val (.int (Int32.ofNat bs.length)), .val (.int (Int32.ofNat bs.length)), .val (.ref o102)] [(.int (16 : Int32)), (.int (0 : Int32)), (.ref o102), (.int (0 : Int32)), (.ref v1)])
  refine Go.of (fun _ hr => XS.iloadN X102.here hx rfl (hb hby d41_23) rfl  hr) ?_
  show Go p e s below _ _ _ _ T102 (mkF m 24 #[.val (.ref v1), .val (.int (0 : Int32)), .val (.int (Int32.ofNat bs.length)), .val (.int (Int32.ofNat bs.length)), .val (.ref o102)] [(.int (Int32.ofNat bs.length)), (.int (16 : Int32)), (.int (0 : Int32)), (.ref o102), (.int (0 : Int32)), (.ref v1)])
  obtain ⟨_, b105, T105, h105, L105, e105, Cc105, X105, B105, J105, g105, hQ105, st105⟩ := own_callS Cc101 B102 J102 X102 (hw _ (List.mem_of_getElem? (i := 223) rfl)) (hw _ (List.mem_of_getElem? (i := 224) rfl)) (hw _ (List.mem_of_getElem? (i := 225) rfl)) (hw _ (List.mem_of_getElem? (i := 226) rfl)) (by decide) (rm43 l Z a0 hw [] bs.length _ h102 n0 O102 h0.size (own_ole O0) K102.1 hj) e102 (g := (mkF m 24 #[.val (.ref v1), .val (.int (0 : Int32)), .val (.int (Int32.ofNat bs.length)), .val (.int (Int32.ofNat bs.length)), .val (.ref o102)] [(.int (Int32.ofNat bs.length)), (.int (16 : Int32)), (.int (0 : Int32)), (.ref o102), (.int (0 : Int32)), (.ref v1)])) rfl (by rw [hml]; rfl) (argsL := [(.int (16 : Int32)), (.int (Int32.ofNat bs.length))]) (rest := [(.int (0 : Int32)), (.ref o102), (.int (0 : Int32)), (.ref v1)]) (lenOf pd15 rfl) rfl (W := 4) (by show 2 * 0 + _ ≤ _; exact Nat.le_of_eq rfl) (hb hby d41_24) (by decide) (by decide) (by decide) (by decide)
  obtain ⟨rfl, Nq105, hh105⟩ := hQ105
  have N105 := Fr.app N101 Nq105
  obtain ⟨hx, hZ, hown, hby, hml, hnm, hret, hlk⟩ := id Cc105
  rw [hh105] at e105 B105 J105
  refine Go.of st105 ?_
  show Go p e s below _ _ _ _ T105 (mkF m 27 #[.val (.ref v1), .val (.int (0 : Int32)), .val (.int (Int32.ofNat bs.length)), .val (.int (Int32.ofNat bs.length)), .val (.ref o102)] [(.int (Int32.ofNat bs.length)), (.int (0 : Int32)), (.ref o102), (.int (0 : Int32)), (.ref v1)])
  obtain ⟨T106, h106, L106, X106, e106, N106, Kq106, V106, st106⟩ := cpA X105 hx hZ hown (hw _ (List.mem_of_getElem? (i := 227) rfl)) (hw _ (List.mem_of_getElem? (i := 181) rfl)) (hw _ (List.mem_of_getElem? (i := 179) rfl)) (hw _ (List.mem_of_getElem? (i := 180) rfl)) e105 f104 (V102.pad (pad_rep _ _ bs.length)) (us := bs.map Value.int) (Or.inl ⟨rfl, rfl⟩) (by decide) (by decide) (oi_nn (by omega)) (cp4 (by omega) (by show _ ≤ 16; omega)) (cp4 (by omega) (by rw [oi_nat (by omega)]; exact Nat.le_refl _)) (cpu bs (by omega)) (cpl [] bs (by decide) (by omega)) N105 fr102 (g := (mkF m 27 #[.val (.ref v1), .val (.int (0 : Int32)), .val (.int (Int32.ofNat bs.length)), .val (.int (Int32.ofNat bs.length)), .val (.ref o102)] [(.int (Int32.ofNat bs.length)), (.int (0 : Int32)), (.ref o102), (.int (0 : Int32)), (.ref v1)])) rfl (by rw [hml]; rfl) rfl (hb hby d41_27) (by decide) (W := 0) (by show 2 * 0 + _ ≤ _; exact Nat.le_of_eq rfl) (by decide)
  have K106 := K102.trans Kq106 (allS (Or.inr sz102) all0)
  have O106 := O102.keep Kq106 (allS (Nat.le_trans (own_ole O0) fr102) all0)
  have B106 := B105.mono Kq106.1
  have J106 := Hd.keep J105 Kq106 (allS (List.mem_cons_self ..) all0)
  have Vc106 : Arv Z h106 o102 k102 .byte (Int32.ofNat bs.length) (bs.map Value.int) (.int (0 : Int32)) := by have q := V106; exact cp_res [] bs (by decide) (by omega) ▸ q
  refine Go.of (fun _ hr => st106 _ hr) ?_
  show Go p e s below _ _ _ _ T106 (mkF m 30 #[.val (.ref v1), .val (.int (0 : Int32)), .val (.int (Int32.ofNat bs.length)), .val (.int (Int32.ofNat bs.length)), .val (.ref o102)] [])
  refine Go.of (fun _ hr => XS.aload X106.here hx rfl (hb hby d41_30) rfl rfl hr) ?_
  show Go p e s below _ _ _ _ T106 (mkF m 32 #[.val (.ref v1), .val (.int (0 : Int32)), .val (.int (Int32.ofNat bs.length)), .val (.int (Int32.ofNat bs.length)), .val (.ref o102)] [(.ref o102)])
  exact Go.retA X106 hx hlk B106 (J106.sub fun x hx => (List.mem_cons_of_mem _ hx)) e106 hret rfl rfl (hb hby d41_32) (by decide) (by decide) (fun vm_ hw_ => ⟨_, _, rfl, (fun y hy => Nat.le_trans hnb (N106 y hy)), keep_ext K106, sz102, Vc106⟩)

theorem d40_0 : decode jdk_65_method_132_code 0 = .ok (.iload_n 1, 1) := by decide +kernel
theorem d40_1 : decode jdk_65_method_132_code 1 = .ok (.ifCond .ne 9, 3) := by decide +kernel
theorem d40_4 : decode jdk_65_method_132_code 4 = .ok (.iload_n 2, 1) := by decide +kernel
theorem d40_5 : decode jdk_65_method_132_code 5 = .ok (.aload_n 0, 1) := by decide +kernel
theorem d40_6 : decode jdk_65_method_132_code 6 = .ok (.arraylength, 1) := by decide +kernel
theorem d40_7 : decode jdk_65_method_132_code 7 = .ok (.if_icmp .eq 10, 3) := by decide +kernel
theorem d40_10 : decode jdk_65_method_132_code 10 = .ok (.aload_n 0, 1) := by decide +kernel
theorem d40_11 : decode jdk_65_method_132_code 11 = .ok (.iload_n 1, 1) := by decide +kernel
theorem d40_12 : decode jdk_65_method_132_code 12 = .ok (.iload_n 2, 1) := by decide +kernel
theorem d40_13 : decode jdk_65_method_132_code 13 = .ok (.invokestatic 339, 3) := by decide +kernel
theorem pd16 : parseMethodDescriptor "([BII)[B" = some ⟨[(.array .byte), .int, .int], some (.array .byte)⟩ := by decide +kernel
theorem d40_16 : decode jdk_65_method_132_code 16 = .ok (.areturn, 1) := by decide +kernel
set_option maxRecDepth 65536 in
set_option maxHeartbeats 40000000 in
theorem rm40 (l : Launch) (Z : State) (a0 : Array Value) (hw : ∀ d ∈ tables_1, d.before a0 Z = true) (ws : List Jvm.Cond) (v1 : Addr) (kv : ClassId) (bs : List Int32) (ms : List Addr) (h0 : Heap) (n0 : Nat) (O0 : Old Z n0 h0) (nb : Nat) (hb0 : n0 ≤ nb) (hnb : nb ≤ h0.size) (W1 : Arv Z h0 v1 kv .byte 16 (bs.map Value.int) (.int 0)) (hj : bs.length < 16) :
    Con l Z ms (⟨"java/util/Arrays", "copyOfRange", "([BII)[B"⟩ : MethodName) jdk_65_method_132_code 3 (some (.array .byte)) ws ({ frames := 2, cells := 1, slots := 16, locals := 56 } : Room) #[(.ref v1), (.int (0 : Int32)), (.int (Int32.ofNat bs.length))] h0 (fun v vm h L => ∃ r k, v = some (.ref r) ∧ Fr nb L ∧ Ext h0 h ∧ h0.size ≤ r ∧ Arv Z h r k .byte (Int32.ofNat bs.length) (bs.map Value.int) (.int 0)) := by
  refine Con.mk (plainFor_of_name pn6) ?_
  intro p e s m below meth c s₁ Cc X0 e0 eb J0 B0 M0
  obtain ⟨hx, hZ, hown, hby, hml, hnm, hret, hlk⟩ := id Cc
  have N0 := Fr.nil h0.size
  have K0 := Keep.refl h0 []
  show Go p e s below _ _ _ _ s₁ (mkF m 0 #[.val (.ref v1), .val (.int (0 : Int32)), .val (.int (Int32.ofNat bs.length))] [])
  refine Go.of (fun _ hr => XS.iloadN X0.here hx rfl (hb hby d40_0) rfl  hr) ?_
  show Go p e s below _ _ _ _ s₁ (mkF m 1 #[.val (.ref v1), .val (.int (0 : Int32)), .val (.int (Int32.ofNat bs.length))] [(.int (0 : Int32))])
  refine Go.of (fun _ hr => XS.ifNo X0.here hx rfl (hb hby d40_1) rfl ((if0 _ _).trans (teq (by decide : ((0 : Int32) = (0 : Int32)))).2) hr) ?_
  show Go p e s below _ _ _ _ s₁ (mkF m 4 #[.val (.ref v1), .val (.int (0 : Int32)), .val (.int (Int32.ofNat bs.length))] [])
  refine Go.of (fun _ hr => XS.iloadN X0.here hx rfl (hb hby d40_4) rfl  hr) ?_
  show Go p e s below _ _ _ _ s₁ (mkF m 5 #[.val (.ref v1), .val (.int (0 : Int32)), .val (.int (Int32.ofNat bs.length))] [(.int (Int32.ofNat bs.length))])
  refine Go.of (fun _ hr => XS.aloadN X0.here hx rfl (hb hby d40_5) rfl rfl hr) ?_
  show Go p e s below _ _ _ _ s₁ (mkF m 6 #[.val (.ref v1), .val (.int (0 : Int32)), .val (.int (Int32.ofNat bs.length))] [(.ref v1), (.int (Int32.ofNat bs.length))])
  obtain ⟨cl101, Ar101, q101, S101, N101_, H101, G101⟩ := id W1
  refine Go.of (fun _ hr => X0.arraylength hx (by rw [e0]; exact Ar101.1) (State.isArrayOf_alike hZ.alike Ar101.2.1) (g := (mkF m 6 #[.val (.ref v1), .val (.int (0 : Int32)), .val (.int (Int32.ofNat bs.length))] [(.ref v1), (.int (Int32.ofNat bs.length))])) rfl rfl (hb hby d40_6) _ hr) ?_
  rw [len_of S101 N101_]
  show Go p e s below _ _ _ _ s₁ (mkF m 7 #[.val (.ref v1), .val (.int (0 : Int32)), .val (.int (Int32.ofNat bs.length))] [(.int (16 : Int32)), (.int (Int32.ofNat bs.length))])
  refine Go.of (fun _ hr => XS.icmpNo X0.here hx rfl (hb hby d40_7) rfl (feq (own_ne16 hj)).1 hr) ?_
  show Go p e s below _ _ _ _ s₁ (mkF m 10 #[.val (.ref v1), .val (.int (0 : Int32)), .val (.int (Int32.ofNat bs.length))] [])
  refine Go.of (fun _ hr => XS.aloadN X0.here hx rfl (hb hby d40_10) rfl rfl hr) ?_
  show Go p e s below _ _ _ _ s₁ (mkF m 11 #[.val (.ref v1), .val (.int (0 : Int32)), .val (.int (Int32.ofNat bs.length))] [(.ref v1)])
  refine Go.of (fun _ hr => XS.iloadN X0.here hx rfl (hb hby d40_11) rfl  hr) ?_
  show Go p e s below _ _ _ _ s₁ (mkF m 12 #[.val (.ref v1), .val (.int (0 : Int32)), .val (.int (Int32.ofNat bs.length))] [(.int (0 : Int32)), (.ref v1)])
  refine Go.of (fun _ hr => XS.iloadN X0.here hx rfl (hb hby d40_12) rfl  hr) ?_
  show Go p e s below _ _ _ _ s₁ (mkF m 13 #[.val (.ref v1), .val (.int (0 : Int32)), .val (.int (Int32.ofNat bs.length))] [(.int (Int32.ofNat bs.length)), (.int (0 : Int32)), (.ref v1)])
  obtain ⟨_, b102, T102, h102, L102, e102, Cc102, X102, B102, J102, g102, hQ102, st102⟩ := own_callS Cc B0 J0 X0 (hw _ (List.mem_of_getElem? (i := 217) rfl)) (hw _ (List.mem_of_getElem? (i := 218) rfl)) (hw _ (List.mem_of_getElem? (i := 215) rfl)) (hw _ (List.mem_of_getElem? (i := 219) rfl)) (by decide) (rm41 l Z a0 hw [] v1 _ bs _ h0 n0 O0 h0.size (own_ole O0) K0.1 W1 hj) e0 (g := (mkF m 13 #[.val (.ref v1), .val (.int (0 : Int32)), .val (.int (Int32.ofNat bs.length))] [(.int (Int32.ofNat bs.length)), (.int (0 : Int32)), (.ref v1)])) rfl (by rw [hml]; rfl) (argsL := [(.ref v1), (.int (0 : Int32)), (.int (Int32.ofNat bs.length))]) (rest := []) (lenOf pd16 rfl) rfl (W := 0) (by show 2 * 0 + _ ≤ _; exact Nat.le_of_eq rfl) (hb hby d40_13) (by decide) (by decide) (by decide) (by decide)
  obtain ⟨r102, kr102, rfl, Nq102, Eq102, R_r102, Vr102⟩ := hQ102
  have N102 := Fr.app N0 Nq102
  obtain ⟨hx, hZ, hown, hby, hml, hnm, hret, hlk⟩ := id Cc102
  have sz_r102 : h0.size ≤ r102 := Nat.le_trans K0.1 R_r102
  have fr_r102 : h0.size ≤ r102 := sz_r102
  have ne_v1_r102 : v1 ≠ r102 := Nat.ne_of_lt (Nat.lt_of_lt_of_le W1.lt R_r102)
  have K102 := K0.ext Eq102
  have O102 := O0.ext Eq102
  refine Go.of st102 ?_
  show Go p e s below _ _ _ _ T102 (mkF m 16 #[.val (.ref v1), .val (.int (0 : Int32)), .val (.int (Int32.ofNat bs.length))] [(.ref r102)])
  exact Go.retA X102 hx hlk B102 J102 e102 hret rfl rfl (hb hby d40_16) (by decide) (by decide) (fun vm_ hw_ => ⟨_, _, rfl, (fun y hy => Nat.le_trans hnb (N102 y hy)), keep_ext K102, sz_r102, Vr102⟩)

theorem d35_0 : decode jdk_42_method_150_code 0 = .ok (.aload_n 0, 1) := by decide +kernel
theorem d35_1 : decode jdk_42_method_150_code 1 = .ok (.invokespecial 1, 3) := by decide +kernel
theorem d35_4 : decode jdk_42_method_150_code 4 = .ok (.aload_n 1, 1) := by decide +kernel
theorem d35_5 : decode jdk_42_method_150_code 5 = .ok (.invokevirtual 552, 3) := by decide +kernel
theorem pd17 : parseMethodDescriptor "()[B" = some ⟨[], some (.array .byte)⟩ := by decide +kernel
theorem d35_8 : decode jdk_42_method_150_code 8 = .ok (.astore_n 3, 1) := by decide +kernel
theorem d35_9 : decode jdk_42_method_150_code 9 = .ok (.aload_n 1, 1) := by decide +kernel
theorem d35_10 : decode jdk_42_method_150_code 10 = .ok (.invokevirtual 549, 3) := by decide +kernel
theorem d35_13 : decode jdk_42_method_150_code 13 = .ok (.istore 4, 2) := by decide +kernel
theorem d35_15 : decode jdk_42_method_150_code 15 = .ok (.aload_n 1, 1) := by decide +kernel
theorem d35_16 : decode jdk_42_method_150_code 16 = .ok (.invokevirtual 1047, 3) := by decide +kernel
theorem d35_19 : decode jdk_42_method_150_code 19 = .ok (.ifCond .eq 22, 3) := by decide +kernel
theorem d35_22 : decode jdk_42_method_150_code 22 = .ok (.aload_n 0, 1) := by decide +kernel
theorem d35_23 : decode jdk_42_method_150_code 23 = .ok (.iconst 0, 1) := by decide +kernel
theorem d35_24 : decode jdk_42_method_150_code 24 = .ok (.putfield 15, 3) := by decide +kernel
theorem d35_27 : decode jdk_42_method_150_code 27 = .ok (.aload_n 0, 1) := by decide +kernel
theorem d35_28 : decode jdk_42_method_150_code 28 = .ok (.aload_n 3, 1) := by decide +kernel
theorem d35_29 : decode jdk_42_method_150_code 29 = .ok (.iconst 0, 1) := by decide +kernel
theorem d35_30 : decode jdk_42_method_150_code 30 = .ok (.iload 4, 2) := by decide +kernel
theorem d35_32 : decode jdk_42_method_150_code 32 = .ok (.invokestatic 54, 3) := by decide +kernel
theorem d35_35 : decode jdk_42_method_150_code 35 = .ok (.putfield 9, 3) := by decide +kernel
theorem d35_38 : decode jdk_42_method_150_code 38 = .ok (.goto 59, 3) := by decide +kernel
theorem d35_97 : decode jdk_42_method_150_code 97 = .ok (.return_, 1) := by decide +kernel
set_option maxRecDepth 65536 in
set_option maxHeartbeats 40000000 in
theorem rm35 (l : Launch) (Z : State) (a0 : Array Value) (hw : ∀ d ∈ tables_1, d.before a0 Z = true) (ws : List Jvm.Cond) (x1 : Addr) (u1 u2 : Value) (a1 v1 : Addr) (kv : ClassId) (bs : List Int32) (zc : Int32) (ms : List Addr) (h0 : Heap) (n0 : Nat) (O0 : Old Z n0 h0) (nb : Nat) (hb0 : n0 ≤ nb) (hnb : nb ≤ h0.size) (fr_x1 : nb ≤ x1) (hm_x1 : x1 ∈ ms) (Ea1 : Exa Z h0 a1 "java/lang/StringBuilder") (Gv : Fld Z h0 a1 "java/lang/AbstractStringBuilder" "value" "[B" (.ref v1)) (Gc : Fld Z h0 a1 "java/lang/AbstractStringBuilder" "coder" "B" (.int 0)) (Gn : Fld Z h0 a1 "java/lang/AbstractStringBuilder" "count" "I" (.int (Int32.ofNat bs.length))) (W1 : Arv Z h0 v1 kv .byte 16 (bs.map Value.int) (.int 0)) (E1 : Exa Z h0 x1 "java/lang/String") (F1 : Fld Z h0 x1 "java/lang/String" "value" "[B" u1) (F2 : Fld Z h0 x1 "java/lang/String" "coder" "B" u2) (hj : bs.length < 16) (nex : a1 ≠ x1) (nev : v1 ≠ x1) (S_C : Sta Z Z.heap "java/lang/String" "COMPACT_STRINGS" "Z" (.int zc)) (hzc : ¬ zc = 0) :
    Con l Z ms (⟨"java/lang/String", "<init>", "(Ljava/lang/AbstractStringBuilder;Ljava/lang/Void;)V"⟩ : MethodName) jdk_42_method_150_code 5 none ws ({ frames := 3, cells := 1, slots := 16, locals := 71 } : Room) #[(.ref x1), (.ref a1), .null] h0 (fun v vm h L => v = none ∧ Fr nb L ∧ Keep h0 h [x1] ∧ ∃ t k, h0.size ≤ t ∧ Fld Z h x1 "java/lang/String" "value" "[B" (.ref t) ∧ Fld Z h x1 "java/lang/String" "coder" "B" (.int 0) ∧ Arv Z h t k .byte (Int32.ofNat bs.length) (bs.map Value.int) (.int 0)) := by
  refine Con.mk (plainFor_of_name pn1) ?_
  intro p e s m below meth c s₁ Cc X0 e0 eb J0 B0 M0
  obtain ⟨hx, hZ, hown, hby, hml, hnm, hret, hlk⟩ := id Cc
  have N0 := Fr.nil nb
  have K0 := Keep.refl h0 [x1]
  show Go p e s below _ _ _ _ s₁ (mkF m 0 #[.val (.ref x1), .val (.ref a1), .val .null, .unset, .unset] [])
  refine Go.of (fun _ hr => XS.aloadN X0.here hx rfl (hb hby d35_0) rfl rfl hr) ?_
  show Go p e s below _ _ _ _ s₁ (mkF m 1 #[.val (.ref x1), .val (.ref a1), .val .null, .unset, .unset] [(.ref x1)])
  obtain ⟨T101, X101, e101, st101⟩ := initO X0 hx hZ hown (hw _ (List.mem_of_getElem? (i := 18) rfl)) (hw _ (List.mem_of_getElem? (i := 19) rfl)) (hw _ (List.mem_of_getElem? (i := 20) rfl)) e0 (g := (mkF m 1 #[.val (.ref x1), .val (.ref a1), .val .null, .unset, .unset] [(.ref x1)])) rfl (by rw [hml]; rfl) rfl (hb hby d35_1) (by decide) (W := 0) (by show 2 * 0 + _ ≤ _; exact Nat.le_of_eq rfl) (by decide)
  refine Go.of (fun _ hr => st101 _ hr) ?_
  show Go p e s below _ _ _ _ T101 (mkF m 4 #[.val (.ref x1), .val (.ref a1), .val .null, .unset, .unset] [])
  refine Go.of (fun _ hr => XS.aloadN X101.here hx rfl (hb hby d35_4) rfl rfl hr) ?_
  show Go p e s below _ _ _ _ T101 (mkF m 5 #[.val (.ref x1), .val (.ref a1), .val .null, .unset, .unset] [(.ref a1)])
  obtain ⟨_, b102, T102, h102, L102, e102, Cc102, X102, B102, J102, g102, hQ102, st102⟩ := own_callV Cc B0 J0 X101 (hw _ (List.mem_of_getElem? (i := 195) rfl)) (hw _ (List.mem_of_getElem? (i := 196) rfl)) (notFace_of_selects (args := #[]) (mvT hZ (hw _ (List.mem_of_getElem? (i := 198) rfl)))) (hw _ (List.mem_of_getElem? (i := 198) rfl)) (hw _ (List.mem_of_getElem? (i := 197) rfl)) (hw _ (List.mem_of_getElem? (i := 136) rfl)) (hw _ (List.mem_of_getElem? (i := 199) rfl)) (by decide) Ea1 (rm36 l Z a0 hw [] a1 v1 _ bs _ h0 n0 O0 h0.size (own_ole O0) K0.1 Ea1 Gv Gc Gn W1) e101 (g := (mkF m 5 #[.val (.ref x1), .val (.ref a1), .val .null, .unset, .unset] [(.ref a1)])) rfl (by rw [hml]; rfl) (argsL := []) (rest := []) (lenOf pd17 rfl) rfl (W := 0) (by show 2 * 0 + _ ≤ _; exact Nat.le_of_eq rfl) (hb hby d35_5) (by decide) (by decide) (by decide) (by decide)
  obtain ⟨rfl, Nq102, hh102⟩ := hQ102
  have N102 := Fr.app N0 (show Fr nb _ from fun y hy => Nat.le_trans hnb (Nq102 y hy))
  have NS102 := Fr.app (Fr.nil _) Nq102
  obtain ⟨hx, hZ, hown, hby, hml, hnm, hret, hlk⟩ := id Cc102
  rw [hh102] at e102 B102 J102
  refine Go.of st102 ?_
  show Go p e s below _ _ _ _ T102 (mkF m 8 #[.val (.ref x1), .val (.ref a1), .val .null, .unset, .unset] [(.ref v1)])
  refine Go.of (fun _ hr => XS.astoreN X102.here hx rfl (hb hby d35_8) rfl rfl (l' := #[.val (.ref x1), .val (.ref a1), .val .null, .val (.ref v1), .unset]) rfl hr) ?_
  show Go p e s below _ _ _ _ T102 (mkF m 9 #[.val (.ref x1), .val (.ref a1), .val .null, .val (.ref v1), .unset] [])
  refine Go.of (fun _ hr => XS.aloadN X102.here hx rfl (hb hby d35_9) rfl rfl hr) ?_
  show Go p e s below _ _ _ _ T102 (mkF m 10 #[.val (.ref x1), .val (.ref a1), .val .null, .val (.ref v1), .unset] [(.ref a1)])
  obtain ⟨_, b103, T103, h103, L103, e103, Cc103, X103, B103, J103, g103, hQ103, st103⟩ := own_callV Cc102 B102 J102 X102 (hw _ (List.mem_of_getElem? (i := 200) rfl)) (hw _ (List.mem_of_getElem? (i := 201) rfl)) (own_nf (args := #[]) (mvT hZ (hw _ (List.mem_of_getElem? (i := 160) rfl))) rfl) (hw _ (List.mem_of_getElem? (i := 203) rfl)) (hw _ (List.mem_of_getElem? (i := 204) rfl)) (hw _ (List.mem_of_getElem? (i := 128) rfl)) (hw _ (List.mem_of_getElem? (i := 205) rfl)) (by decide) Ea1 (rm37 l Z a0 hw [] a1 v1 _ bs _ h0 n0 O0 h0.size (own_ole O0) K0.1 Ea1 Gv Gc Gn W1) e102 (g := (mkF m 10 #[.val (.ref x1), .val (.ref a1), .val .null, .val (.ref v1), .unset] [(.ref a1)])) rfl (by rw [hml]; rfl) (argsL := []) (rest := []) (lenOf pd12 rfl) rfl (W := 0) (by show 2 * 0 + _ ≤ _; exact Nat.le_of_eq rfl) (hb hby d35_10) (by decide) (by decide) (by decide) (by decide)
  obtain ⟨rfl, Nq103, hh103⟩ := hQ103
  have N103 := Fr.app N102 (show Fr nb _ from fun y hy => Nat.le_trans hnb (Nq103 y hy))
  have NS103 := Fr.app NS102 Nq103
  obtain ⟨hx, hZ, hown, hby, hml, hnm, hret, hlk⟩ := id Cc103
  rw [hh103] at e103 B103 J103
  refine Go.of st103 ?_
  show Go p e s below _ _ _ _ T103 (mkF m 13 #[.val (.ref x1), .val (.ref a1), .val .null, .val (.ref v1), .unset] [(.int (Int32.ofNat bs.length))])
  refine Go.of (fun _ hr => XS.istore X103.here hx rfl (hb hby d35_13) rfl (l' := #[.val (.ref x1), .val (.ref a1), .val .null, .val (.ref v1), .val (.int (Int32.ofNat bs.length))]) rfl hr) ?_
  show Go p e s below _ _ _ _ T103 (mkF m 15 #[.val (.ref x1), .val (.ref a1), .val .null, .val (.ref v1), .val (.int (Int32.ofNat bs.length))] [])
  refine Go.of (fun _ hr => XS.aloadN X103.here hx rfl (hb hby d35_15) rfl rfl hr) ?_
  show Go p e s below _ _ _ _ T103 (mkF m 16 #[.val (.ref x1), .val (.ref a1), .val .null, .val (.ref v1), .val (.int (Int32.ofNat bs.length))] [(.ref a1)])
  obtain ⟨_, b104, T104, h104, L104, e104, Cc104, X104, B104, J104, g104, hQ104, st104⟩ := own_callV Cc103 B103 J103 X103 (hw _ (List.mem_of_getElem? (i := 208) rfl)) (hw _ (List.mem_of_getElem? (i := 209) rfl)) (notFace_of_selects (args := #[]) (mvT hZ (hw _ (List.mem_of_getElem? (i := 211) rfl)))) (hw _ (List.mem_of_getElem? (i := 211) rfl)) (hw _ (List.mem_of_getElem? (i := 210) rfl)) (hw _ (List.mem_of_getElem? (i := 136) rfl)) (hw _ (List.mem_of_getElem? (i := 212) rfl)) (by decide) Ea1 (rm39 l Z a0 hw [] a1 v1 _ bs zc _ h0 n0 O0 h0.size (own_ole O0) K0.1 Ea1 Gv Gc Gn W1 S_C hzc) e103 (g := (mkF m 16 #[.val (.ref x1), .val (.ref a1), .val .null, .val (.ref v1), .val (.int (Int32.ofNat bs.length))] [(.ref a1)])) rfl (by rw [hml]; rfl) (argsL := []) (rest := []) (lenOf pd7 rfl) rfl (W := 0) (by show 2 * 0 + _ ≤ _; exact Nat.le_of_eq rfl) (hb hby d35_16) (by decide) (by decide) (by decide) (by decide)
  obtain ⟨rfl, Nq104, hh104⟩ := hQ104
  have N104 := Fr.app N103 (show Fr nb _ from fun y hy => Nat.le_trans hnb (Nq104 y hy))
  have NS104 := Fr.app NS103 Nq104
  obtain ⟨hx, hZ, hown, hby, hml, hnm, hret, hlk⟩ := id Cc104
  rw [hh104] at e104 B104 J104
  refine Go.of st104 ?_
  show Go p e s below _ _ _ _ T104 (mkF m 19 #[.val (.ref x1), .val (.ref a1), .val .null, .val (.ref v1), .val (.int (Int32.ofNat bs.length))] [(.int (1 : Int32))])
  refine Go.of (fun _ hr => XS.ifNo X104.here hx rfl (hb hby d35_19) rfl ((if0 _ _).trans (feq (by decide : ¬ ((1 : Int32) = (0 : Int32)))).1) hr) ?_
  show Go p e s below _ _ _ _ T104 (mkF m 22 #[.val (.ref x1), .val (.ref a1), .val .null, .val (.ref v1), .val (.int (Int32.ofNat bs.length))] [])
  refine Go.of (fun _ hr => XS.aloadN X104.here hx rfl (hb hby d35_22) rfl rfl hr) ?_
  show Go p e s below _ _ _ _ T104 (mkF m 23 #[.val (.ref x1), .val (.ref a1), .val .null, .val (.ref v1), .val (.int (Int32.ofNat bs.length))] [(.ref x1)])
  refine Go.of (fun _ hr => XS.iconst X104.here hx rfl (hb hby d35_23) hr) ?_
  show Go p e s below _ _ _ _ T104 (mkF m 24 #[.val (.ref x1), .val (.ref a1), .val .null, .val (.ref v1), .val (.int (Int32.ofNat bs.length))] [(.int (0 : Int32)), (.ref x1)])
  obtain ⟨T105, h105, X105, e105, W105, st105⟩ := putFN X104 hx hZ hown (hw _ (List.mem_of_getElem? (i := 33) rfl)) Via.refl e104 F2 E1 (Or.inr ⟨(hw _ (List.mem_of_getElem? (i := 34) rfl)), rfl, hnm⟩) (hw _ (List.mem_of_getElem? (i := 9) rfl)) (ty := .byte) (v := (.int (0 : Int32))) (v' := (.int (0 : Int32))) (by decide) rfl rfl (g := (mkF m 24 #[.val (.ref x1), .val (.ref a1), .val .null, .val (.ref v1), .val (.int (Int32.ofNat bs.length))] [(.int (0 : Int32)), (.ref x1)])) rfl rfl (hb hby d35_24)
  have N105 := Fr.snoc X105 N104 fr_x1
  have J105 := J104.wr W105 hm_x1
  have B105 := B104.mono (Nat.le_of_eq W105.size.symm)
  have O105 := O0.wr W105 (Nat.le_trans hb0 fr_x1)
  have K105 := K0.wr W105 (Or.inl (List.mem_of_getElem? (i := 0) rfl))
  have Fw105 := F2.same W105
  refine Go.of (fun _ hr => st105 _ hr) ?_
  show Go p e s below _ _ _ _ T105 (mkF m 27 #[.val (.ref x1), .val (.ref a1), .val .null, .val (.ref v1), .val (.int (Int32.ofNat bs.length))] [])
  refine Go.of (fun _ hr => XS.aloadN X105.here hx rfl (hb hby d35_27) rfl rfl hr) ?_
  show Go p e s below _ _ _ _ T105 (mkF m 28 #[.val (.ref x1), .val (.ref a1), .val .null, .val (.ref v1), .val (.int (Int32.ofNat bs.length))] [(.ref x1)])
  refine Go.of (fun _ hr => XS.aloadN X105.here hx rfl (hb hby d35_28) rfl rfl hr) ?_
  show Go p e s below _ _ _ _ T105 (mkF m 29 #[.val (.ref x1), .val (.ref a1), .val .null, .val (.ref v1), .val (.int (Int32.ofNat bs.length))] [(.ref v1), (.ref x1)])
  refine Go.of (fun _ hr => XS.iconst X105.here hx rfl (hb hby d35_29) hr) ?_
  show Go p e s below _ _ _ _ T105 (mkF m 30 #[.val (.ref x1), .val (.ref a1), .val .null, .val (.ref v1), .val (.int (Int32.ofNat bs.length))] [(.int (0 : Int32)), (.ref v1), (.ref x1)])
  refine Go.of (fun _ hr => XS.iload X105.here hx rfl (hb hby d35_30) rfl  hr) ?_
  show Go p e s below _ _ _ _ T105 (mkF m 32 #[.val (.ref x1), .val (.ref a1), .val .null, .val (.ref v1), .val (.int (Int32.ofNat bs.length))] [(.int (Int32.ofNat bs.length)), (.int (0 : Int32)), (.ref v1), (.ref x1)])
  have f107 := (W1.other W105 nev)
  obtain ⟨_, b106, T106, h106, L106, e106, Cc106, X106, B106, J106, g106, hQ106, st106⟩ := own_callS Cc104 B105 J105 X105 (hw _ (List.mem_of_getElem? (i := 213) rfl)) (hw _ (List.mem_of_getElem? (i := 214) rfl)) (hw _ (List.mem_of_getElem? (i := 215) rfl)) (hw _ (List.mem_of_getElem? (i := 216) rfl)) (by decide) (rm40 l Z a0 hw [] v1 _ bs _ h105 n0 O105 h0.size (own_ole O0) K105.1 f107 hj) e105 (g := (mkF m 32 #[.val (.ref x1), .val (.ref a1), .val .null, .val (.ref v1), .val (.int (Int32.ofNat bs.length))] [(.int (Int32.ofNat bs.length)), (.int (0 : Int32)), (.ref v1), (.ref x1)])) rfl (by rw [hml]; rfl) (argsL := [(.ref v1), (.int (0 : Int32)), (.int (Int32.ofNat bs.length))]) (rest := [(.ref x1)]) (lenOf pd16 rfl) rfl (W := 1) (by show 2 * 0 + _ ≤ _; exact Nat.le_of_eq rfl) (hb hby d35_32) (by decide) (by decide) (by decide) (by decide)
  have f108 := (Ea1.wr W105)
  have f109 := (E1.wr W105)
  obtain ⟨r106, kr106, rfl, Nq106, Eq106, R_r106, Vr106⟩ := hQ106
  have N106 := Fr.app N105 (show Fr nb _ from fun y hy => Nat.le_trans hnb (Nq106 y hy))
  obtain ⟨hx, hZ, hown, hby, hml, hnm, hret, hlk⟩ := id Cc106
  have sz_r106 : h0.size ≤ r106 := Nat.le_trans K105.1 R_r106
  have fr_r106 : nb ≤ r106 := Nat.le_trans hnb sz_r106
  have ne_a1_r106 : a1 ≠ r106 := Nat.ne_of_lt (Nat.lt_of_lt_of_le f108.lt R_r106)
  have ne_v1_r106 : v1 ≠ r106 := Nat.ne_of_lt (Nat.lt_of_lt_of_le f107.lt R_r106)
  have ne_x1_r106 : x1 ≠ r106 := Nat.ne_of_lt (Nat.lt_of_lt_of_le f109.lt R_r106)
  have K106 := K105.ext Eq106
  have O106 := O105.ext Eq106
  refine Go.of st106 ?_
  show Go p e s below _ _ _ _ T106 (mkF m 35 #[.val (.ref x1), .val (.ref a1), .val .null, .val (.ref v1), .val (.int (Int32.ofNat bs.length))] [(.ref r106), (.ref x1)])
  have f111 := ((F1.other W105 (Or.inr (slot_ne (Or.inr (hw _ (List.mem_of_getElem? (i := 36) rfl))) (Or.inr (hw _ (List.mem_of_getElem? (i := 34) rfl))) (by decide) (t := (.array .byte)) (t' := .byte) (by decide) (by decide)))).ext Eq106)
  have f112 := (f109.ext Eq106)
  obtain ⟨T110, h110, X110, e110, W110, st110⟩ := putF X106 hx hZ hown (host := "") (Or.inl (hw _ (List.mem_of_getElem? (i := 35) rfl))) Via.refl e106 f111 f112 (Or.inr ⟨(hw _ (List.mem_of_getElem? (i := 36) rfl)), rfl, hnm⟩) (hw _ (List.mem_of_getElem? (i := 9) rfl)) (ty := (.array .byte)) (by decide) rfl rfl (g := (mkF m 35 #[.val (.ref x1), .val (.ref a1), .val .null, .val (.ref v1), .val (.int (Int32.ofNat bs.length))] [(.ref r106), (.ref x1)])) rfl rfl (hb hby d35_35)
  have N110 := Fr.snoc X110 N106 fr_x1
  have J110 := J106.wr W110 hm_x1
  have B110 := B106.mono (Nat.le_of_eq W110.size.symm)
  have O110 := O106.wr W110 (Nat.le_trans hb0 fr_x1)
  have K110 := K106.wr W110 (Or.inl (List.mem_of_getElem? (i := 0) rfl))
  have Fw110 := f111.same W110
  refine Go.of (fun _ hr => st110 _ hr) ?_
  show Go p e s below _ _ _ _ T110 (mkF m 38 #[.val (.ref x1), .val (.ref a1), .val .null, .val (.ref v1), .val (.int (Int32.ofNat bs.length))] [])
  refine Go.of (fun _ hr => XS.goto X110.here hx rfl (pc0 := 38) (pc' := 97) rfl (hb hby d35_38) (by decide) (by decide) hr) ?_
  show Go p e s below _ _ _ _ T110 (mkF m 97 #[.val (.ref x1), .val (.ref a1), .val .null, .val (.ref v1), .val (.int (Int32.ofNat bs.length))] [])
  have f113 := ((Fw105.ext Eq106).other W110 (Or.inr (slot_ne (Or.inr (hw _ (List.mem_of_getElem? (i := 34) rfl))) (Or.inr (hw _ (List.mem_of_getElem? (i := 36) rfl))) (by decide) (t := .byte) (t' := (.array .byte)) (by decide) (by decide))))
  have f114 := (Vr106.other W110 (Ne.symm ne_x1_r106))
  exact Go.retV X110 hx hlk B110 J110 e110 hret (hb hby d35_97) (by decide) (by decide) (fun vm_ hw_ => ⟨rfl, N110, K110, _, _, sz_r106, Fw110, f113, f114⟩)

theorem d34_0 : decode jdk_42_method_53_code 0 = .ok (.aload_n 0, 1) := by decide +kernel
theorem d34_1 : decode jdk_42_method_53_code 1 = .ok (.aload_n 1, 1) := by decide +kernel
theorem d34_2 : decode jdk_42_method_53_code 2 = .ok (.aconst_null, 1) := by decide +kernel
theorem d34_3 : decode jdk_42_method_53_code 3 = .ok (.invokespecial 489, 3) := by decide +kernel
theorem pd18 : parseMethodDescriptor "(Ljava/lang/AbstractStringBuilder;Ljava/lang/Void;)V" = some ⟨[(.object "java/lang/AbstractStringBuilder"), (.object "java/lang/Void")], none⟩ := by decide +kernel
theorem d34_6 : decode jdk_42_method_53_code 6 = .ok (.return_, 1) := by decide +kernel
set_option maxRecDepth 65536 in
set_option maxHeartbeats 40000000 in
theorem rm34 (l : Launch) (Z : State) (a0 : Array Value) (hw : ∀ d ∈ tables_1, d.before a0 Z = true) (ws : List Jvm.Cond) (x1 : Addr) (u1 u2 : Value) (a1 v1 : Addr) (kv : ClassId) (bs : List Int32) (zc : Int32) (ms : List Addr) (h0 : Heap) (n0 : Nat) (O0 : Old Z n0 h0) (nb : Nat) (hb0 : n0 ≤ nb) (hnb : nb ≤ h0.size) (fr_x1 : nb ≤ x1) (hm_x1 : x1 ∈ ms) (Ea1 : Exa Z h0 a1 "java/lang/StringBuilder") (Gv : Fld Z h0 a1 "java/lang/AbstractStringBuilder" "value" "[B" (.ref v1)) (Gc : Fld Z h0 a1 "java/lang/AbstractStringBuilder" "coder" "B" (.int 0)) (Gn : Fld Z h0 a1 "java/lang/AbstractStringBuilder" "count" "I" (.int (Int32.ofNat bs.length))) (W1 : Arv Z h0 v1 kv .byte 16 (bs.map Value.int) (.int 0)) (E1 : Exa Z h0 x1 "java/lang/String") (F1 : Fld Z h0 x1 "java/lang/String" "value" "[B" u1) (F2 : Fld Z h0 x1 "java/lang/String" "coder" "B" u2) (hj : bs.length < 16) (nex : a1 ≠ x1) (nev : v1 ≠ x1) (S_C : Sta Z Z.heap "java/lang/String" "COMPACT_STRINGS" "Z" (.int zc)) (hzc : ¬ zc = 0) :
    Con l Z ms (⟨"java/lang/String", "<init>", "(Ljava/lang/StringBuilder;)V"⟩ : MethodName) jdk_42_method_53_code 2 none ws ({ frames := 4, cells := 1, slots := 16, locals := 87 } : Room) #[(.ref x1), (.ref a1)] h0 (fun v vm h L => v = none ∧ Fr nb L ∧ Keep h0 h [x1] ∧ ∃ t k, h0.size ≤ t ∧ Fld Z h x1 "java/lang/String" "value" "[B" (.ref t) ∧ Fld Z h x1 "java/lang/String" "coder" "B" (.int 0) ∧ Arv Z h t k .byte (Int32.ofNat bs.length) (bs.map Value.int) (.int 0)) := by
  refine Con.mk (plainFor_of_name pn1) ?_
  intro p e s m below meth c s₁ Cc X0 e0 eb J0 B0 M0
  obtain ⟨hx, hZ, hown, hby, hml, hnm, hret, hlk⟩ := id Cc
  have N0 := Fr.nil nb
  have K0 := Keep.refl h0 [x1]
  show Go p e s below _ _ _ _ s₁ (mkF m 0 #[.val (.ref x1), .val (.ref a1)] [])
  refine Go.of (fun _ hr => XS.aloadN X0.here hx rfl (hb hby d34_0) rfl rfl hr) ?_
  show Go p e s below _ _ _ _ s₁ (mkF m 1 #[.val (.ref x1), .val (.ref a1)] [(.ref x1)])
  refine Go.of (fun _ hr => XS.aloadN X0.here hx rfl (hb hby d34_1) rfl rfl hr) ?_
  show Go p e s below _ _ _ _ s₁ (mkF m 2 #[.val (.ref x1), .val (.ref a1)] [(.ref a1), (.ref x1)])
  refine Go.of (fun _ hr => XS.aconstNull X0.here hx rfl (hb hby d34_2) hr) ?_
  show Go p e s below _ _ _ _ s₁ (mkF m 3 #[.val (.ref x1), .val (.ref a1)] [.null, (.ref a1), (.ref x1)])
  obtain ⟨_, b101, T101, h101, L101, e101, Cc101, X101, B101, J101, g101, hQ101, st101⟩ := own_callI Cc B0 J0 X0 rfl (hw _ (List.mem_of_getElem? (i := 192) rfl)) (hw _ (List.mem_of_getElem? (i := 193) rfl)) (hw _ (List.mem_of_getElem? (i := 10) rfl)) (hw _ (List.mem_of_getElem? (i := 194) rfl)) (by decide) (rm35 l Z a0 hw [] x1 _ _ a1 v1 _ bs zc _ h0 n0 O0 nb hb0 (Nat.le_trans hnb K0.1) fr_x1 hm_x1 Ea1 Gv Gc Gn W1 E1 F1 F2 hj nex nev S_C hzc) e0 (g := (mkF m 3 #[.val (.ref x1), .val (.ref a1)] [.null, (.ref a1), (.ref x1)])) rfl (by rw [hml]; rfl) (argsL := [(.ref a1), .null]) (rest := []) (lenOf pd18 rfl) rfl (W := 0) (by show 2 * 0 + _ ≤ _; exact Nat.le_of_eq rfl) (hb hby d34_3) (by decide) (by decide) (by decide) (by decide)
  obtain ⟨rfl, Nq101, Kq101, t101, kt101, R_t101, Fv101, Fc101, Vt101⟩ := hQ101
  have N101 := Fr.app N0 Nq101
  obtain ⟨hx, hZ, hown, hby, hml, hnm, hret, hlk⟩ := id Cc101
  have sz_t101 : h0.size ≤ t101 := Nat.le_trans K0.1 R_t101
  have fr_t101 : nb ≤ t101 := Nat.le_trans hnb sz_t101
  have ne_a1_t101 : a1 ≠ t101 := Nat.ne_of_lt (Nat.lt_of_lt_of_le Ea1.lt R_t101)
  have ne_v1_t101 : v1 ≠ t101 := Nat.ne_of_lt (Nat.lt_of_lt_of_le W1.lt R_t101)
  have ne_x1_t101 : x1 ≠ t101 := Nat.ne_of_lt (Nat.lt_of_lt_of_le E1.lt R_t101)
  have K101 := K0.trans Kq101 (allS (Or.inl (List.mem_of_getElem? (i := 0) rfl)) all0)
  have O101 := O0.keep Kq101 (allS (Nat.le_trans hb0 fr_x1) all0)
  refine Go.of st101 ?_
  show Go p e s below _ _ _ _ T101 (mkF m 6 #[.val (.ref x1), .val (.ref a1)] [])
  exact Go.retV X101 hx hlk B101 J101 e101 hret (hb hby d34_6) (by decide) (by decide) (fun vm_ hw_ => ⟨rfl, N101, K101, _, _, sz_t101, Fv101, Fc101, Vt101⟩)

theorem d33_0 : decode jdk_67_method_42_code 0 = .ok (.new 18, 3) := by decide +kernel
theorem d33_3 : decode jdk_67_method_42_code 3 = .ok (.dup, 1) := by decide +kernel
theorem d33_4 : decode jdk_67_method_42_code 4 = .ok (.aload_n 0, 1) := by decide +kernel
theorem d33_5 : decode jdk_67_method_42_code 5 = .ok (.invokespecial 137, 3) := by decide +kernel
theorem pd19 : parseMethodDescriptor "(Ljava/lang/StringBuilder;)V" = some ⟨[(.object "java/lang/StringBuilder")], none⟩ := by decide +kernel
theorem d33_8 : decode jdk_67_method_42_code 8 = .ok (.areturn, 1) := by decide +kernel
set_option maxRecDepth 65536 in
set_option maxHeartbeats 40000000 in
theorem rm33 (l : Launch) (Z : State) (a0 : Array Value) (hw : ∀ d ∈ tables_1, d.before a0 Z = true) (ws : List Jvm.Cond) (a1 v1 : Addr) (kv : ClassId) (bs : List Int32) (zc : Int32) (ms : List Addr) (h0 : Heap) (n0 : Nat) (O0 : Old Z n0 h0) (nb : Nat) (hb0 : n0 ≤ nb) (hnb : nb ≤ h0.size) (Ea1 : Exa Z h0 a1 "java/lang/StringBuilder") (Gv : Fld Z h0 a1 "java/lang/AbstractStringBuilder" "value" "[B" (.ref v1)) (Gc : Fld Z h0 a1 "java/lang/AbstractStringBuilder" "coder" "B" (.int 0)) (Gn : Fld Z h0 a1 "java/lang/AbstractStringBuilder" "count" "I" (.int (Int32.ofNat bs.length))) (W1 : Arv Z h0 v1 kv .byte 16 (bs.map Value.int) (.int 0)) (hj : bs.length < 16) (S_C : Sta Z Z.heap "java/lang/String" "COMPACT_STRINGS" "Z" (.int zc)) (hzc : ¬ zc = 0) :
    Con l Z ms (⟨"java/lang/StringBuilder", "toString", "()Ljava/lang/String;"⟩ : MethodName) jdk_67_method_42_code 1 (some (.object "java/lang/String")) ws ({ frames := 5, cells := 2, slots := 20, locals := 101 } : Room) #[(.ref a1)] h0 (fun v vm h L => ∃ r t k, v = some (.ref r) ∧ Fr nb L ∧ Ext h0 h ∧ h0.size ≤ r ∧ h0.size ≤ t ∧ Exa Z h r "java/lang/String" ∧ Fld Z h r "java/lang/String" "value" "[B" (.ref t) ∧ Fld Z h r "java/lang/String" "coder" "B" (.int 0) ∧ Arv Z h t k .byte (Int32.ofNat bs.length) (bs.map Value.int) (.int 0)) := by
  refine Con.mk (plainFor_of_name pn5) ?_
  intro p e s m below meth c s₁ Cc X0 e0 eb J0 B0 M0
  obtain ⟨hx, hZ, hown, hby, hml, hnm, hret, hlk⟩ := id Cc
  have N0 := Fr.nil h0.size
  have K0 := Keep.refl h0 []
  show Go p e s below _ _ _ _ s₁ (mkF m 0 #[.val (.ref a1)] [])
  obtain ⟨T101, h101, X101, e101, E101, A101, D101, -, st101⟩ := newO X0 hx hZ hown (hw _ (List.mem_of_getElem? (i := 188) rfl)) (hw _ (List.mem_of_getElem? (i := 9) rfl)) (hw _ (List.mem_of_getElem? (i := 10) rfl)) e0 (g := (mkF m 0 #[.val (.ref a1)] [])) rfl (hb hby d33_0) (by decide) (by decide)
  obtain ⟨o101, g101⟩ : ∃ z, z = h0.size := ⟨_, rfl⟩
  rw [← g101] at A101 D101 st101
  have ne_a1_o101 : a1 ≠ o101 := Nat.ne_of_lt (Nat.lt_of_lt_of_le Ea1.lt (Nat.le_of_eq g101.symm))
  have ne_v1_o101 : v1 ≠ o101 := Nat.ne_of_lt (Nat.lt_of_lt_of_le W1.lt (Nat.le_of_eq g101.symm))
  have lt101 : o101 < h101.size := A101.lt
  have J101 := J0.add E101 g101 lt101
  have B101 := B0.mono E101.1
  have O101 := O0.ext E101
  have sz101 : h0.size ≤ o101 := Nat.le_trans K0.1 (Nat.le_of_eq g101.symm)
  have fr101 : h0.size ≤ o101 := sz101
  have K101 := K0.ext E101
  have F101_coder : Fld Z h101 o101 "java/lang/String" "coder" "B" (.int (0 : Int32)) := D101 (Or.inr (hw _ (List.mem_of_getElem? (i := 34) rfl))) (ty := .byte) (by decide)
  have F101_value : Fld Z h101 o101 "java/lang/String" "value" "[B" .null := D101 (Or.inr (hw _ (List.mem_of_getElem? (i := 36) rfl))) (ty := (.array .byte)) (by decide)
  refine Go.of (fun _ hr => st101 _ hr) ?_
  show Go p e s below _ _ _ _ T101 (mkF m 3 #[.val (.ref a1)] [(.ref o101)])
  refine Go.of (fun _ hr => XS.dup X101.here hx rfl (hb hby d33_3) rfl rfl hr) ?_
  show Go p e s below _ _ _ _ T101 (mkF m 4 #[.val (.ref a1)] [(.ref o101), (.ref o101)])
  refine Go.of (fun _ hr => XS.aloadN X101.here hx rfl (hb hby d33_4) rfl rfl hr) ?_
  show Go p e s below _ _ _ _ T101 (mkF m 5 #[.val (.ref a1)] [(.ref a1), (.ref o101), (.ref o101)])
  have f103 := (Ea1.ext E101)
  have f104 := (Gv.ext E101)
  have f105 := (Gc.ext E101)
  have f106 := (Gn.ext E101)
  have f107 := (W1.ext E101)
  obtain ⟨_, b102, T102, h102, L102, e102, Cc102, X102, B102, J102, g102, hQ102, st102⟩ := own_callI Cc B101 J101 X101 rfl (hw _ (List.mem_of_getElem? (i := 189) rfl)) (hw _ (List.mem_of_getElem? (i := 190) rfl)) (hw _ (List.mem_of_getElem? (i := 10) rfl)) (hw _ (List.mem_of_getElem? (i := 191) rfl)) (by decide) (rm34 l Z a0 hw [] o101 _ _ a1 v1 _ bs zc _ h101 n0 O101 h0.size (own_ole O0) K101.1 fr101 (List.mem_cons_self ..) f103 f104 f105 f106 f107 A101 F101_value F101_coder hj ne_a1_o101 ne_v1_o101 S_C hzc) e101 (g := (mkF m 5 #[.val (.ref a1)] [(.ref a1), (.ref o101), (.ref o101)])) rfl (by rw [hml]; rfl) (argsL := [(.ref a1)]) (rest := [(.ref o101)]) (lenOf pd19 rfl) rfl (W := 1) (by show 2 * 0 + _ ≤ _; exact Nat.le_of_eq rfl) (hb hby d33_5) (by decide) (by decide) (by decide) (by decide)
  obtain ⟨rfl, Nq102, Kq102, t102, kt102, R_t102, Fv102, Fc102, Vt102⟩ := hQ102
  have N102 := Fr.app N0 Nq102
  obtain ⟨hx, hZ, hown, hby, hml, hnm, hret, hlk⟩ := id Cc102
  have sz_t102 : h0.size ≤ t102 := Nat.le_trans K101.1 R_t102
  have fr_t102 : h0.size ≤ t102 := sz_t102
  have ne_a1_t102 : a1 ≠ t102 := Nat.ne_of_lt (Nat.lt_of_lt_of_le f103.lt R_t102)
  have ne_v1_t102 : v1 ≠ t102 := Nat.ne_of_lt (Nat.lt_of_lt_of_le f107.lt R_t102)
  have ne_o101_t102 : o101 ≠ t102 := Nat.ne_of_lt (Nat.lt_of_lt_of_le A101.lt R_t102)
  have K102 := K101.trans Kq102 (allS (Or.inr sz101) all0)
  have O102 := O101.keep Kq102 (allS (Nat.le_trans (own_ole O0) fr101) all0)
  refine Go.of st102 ?_
  show Go p e s below _ _ _ _ T102 (mkF m 8 #[.val (.ref a1)] [(.ref o101)])
  have f108 := (A101.keep Kq102)
  exact Go.retA X102 hx hlk B102 (J102.sub fun x hx => (List.mem_cons_of_mem _ hx)) e102 hret rfl rfl (hb hby d33_8) (by decide) (by decide) (fun vm_ hw_ => ⟨_, _, _, rfl, (fun y hy => Nat.le_trans hnb (N102 y hy)), keep_ext K102, sz101, sz_t102, f108, Fv102, Fc102, Vt102⟩)

def tabA : List Int32 := [1207963663, 1207963663, 1207963663, 1207963663, 1207963663, 1207963663, 1207963663, 1207963663, 1207963663, 1476411407, 1342193679, 1476411407, 1610629135, 1342193679, 1207963663, 1207963663, 1207963663, 1207963663, 1207963663, 1207963663, 1207963663, 1207963663, 1207963663, 1207963663, 1207963663, 1207963663, 1207963663, 1207963663, 1342193679, 1342193679, 1342193679, 1476411407, 1610629132, 1744830488, 1744830488, 671088664, 671113242, 671088664, 1744830488, 1744830488, (-402653163), (-402653162), 1744830488, 536870937, 939524120, 536870932, 939524120, 939524120, 402667017, 402667017, 402667017, 402667017, 402667017, 402667017, 402667017, 402667017, 402667017, 402667017, 939524120, 1744830488, (-402653159), 1744830489, (-402653159), 1744830488, 1744830488, 8552417, 8552417, 8552417, 8552417, 8552417, 8552417, 8552417, 8552417, 8552417, 8552417, 8552417, 8552417, 8552417, 8552417, 8552417, 8552417, 8552417, 8552417, 8552417, 8552417, 8552417, 8552417, 8552417, 8552417, 8552417, 8552417, (-402653163), 1744830488, (-402653162), 1744830491, 1744850967, 1744830491, 8486882, 8486882, 8486882, 8486882, 8486882, 8486882, 8486882, 8486882, 8486882, 8486882, 8486882, 8486882, 8486882, 8486882, 8486882, 8486882, 8486882, 8486882, 8486882, 8486882, 8486882, 8486882, 8486882, 8486882, 8486882, 8486882, (-402653163), 1744830489, (-402653162), 1744830489, 1207963663, 1207963663, 1207963663, 1207963663, 1207963663, 1207963663, 1342181391, 1207963663, 1207963663, 1207963663, 1207963663, 1207963663, 1207963663, 1207963663, 1207963663, 1207963663, 1207963663, 1207963663, 1207963663, 1207963663, 1207963663, 1207963663, 1207963663, 1207963663, 1207963663, 1207963663, 1207963663, 1207963663, 1207963663, 1207963663, 1207963663, 1207963663, 1207963663, 939524108, 1744830488, 671113242, 671113242, 671113242, 671113242, 1744830492, 1744830488, 1744830491, 1744830492, 28677, (-402653155), 1744830489, 1207963664, 1744830492, 1744830491, 671088668, 671088665, 402654731, 402654731, 1744830491, 134049794, 1744830488, 1744830488, 1744830491, 402654475, 28677, (-402653154), 1744832523, 1744832523, 1744832523, 1744830488, 8548353, 8548353, 8548353, 8548353, 8548353, 8548353, 8548353, 8548353, 8548353, 8548353, 8548353, 8548353, 8548353, 8548353, 8548353, 8548353, 8548353, 8548353, 8548353, 8548353, 8548353, 8548353, 8548353, 1744830489, 8548353, 8548353, 8548353, 8548353, 8548353, 8548353, 8548353, 134049794, 8482818, 8482818, 8482818, 8482818, 8482818, 8482818, 8482818, 8482818, 8482818, 8482818, 8482818, 8482818, 8482818, 8482818, 8482818, 8482818, 8482818, 8482818, 8482818, 8482818, 8482818, 8482818, 8482818, 1744830489, 8482818, 8482818, 8482818, 8482818, 8482818, 8482818, 8482818, 102592514]
abbrev rng (x : Int32) : Prop := ¬ x < 0 ∧ ¬ 255 < x
/-- the JDK's word on white space -/
def spV (c : Int32) : Prop := c = 32 ∨ c = 9 ∨ (tabA.getD c.toNatClampNeg 0 &&& (28672 : Int32)) = (16384 : Int32)
/-- the law's own word -/
def wsP (c : Int32) : Prop := (¬ c < 9 ∧ ¬ 13 < c) ∨ (¬ c < 28 ∧ ¬ 32 < c)
theorem sp_all : ∀ n : Fin 256, ¬ ((¬ Int32.ofNat n.val < 9 ∧ ¬ 13 < Int32.ofNat n.val) ∨ (¬ Int32.ofNat n.val < 28 ∧ ¬ 32 < Int32.ofNat n.val)) → ¬ (Int32.ofNat n.val = 32 ∨ Int32.ofNat n.val = 9 ∨ (tabA.getD n.val 0 &&& (28672 : Int32)) = (16384 : Int32)) := by decide +kernel
theorem sp_of_ws {c : Int32} (h : rng c) (q : ¬ wsP c) : ¬ spV c := by
  have e := q_back h.1
  have hn : c.toNatClampNeg < 256 := by
    have a := nat_of h.1
    have b := h.2
    rw [Int32.lt_iff_toInt_lt, show (255 : Int32).toInt = 255 from rfl] at b; omega
  have r := sp_all ⟨c.toNatClampNeg, hn⟩
  simp only [e] at r
  exact r q
theorem i2c_id {x : Int32} (h : rng x) : x.toUInt32.toUInt16.toUInt32.toInt32 = x := nar_c h.1 (le255 h.2)
theorem chV_rng (b : List Int32) (i : Int32) : rng (chV b i) := chr8 _

theorem d18_0 : decode jdk_43_method_44_code 0 = .ok (.aload_n 0, 1) := by decide +kernel
theorem d18_1 : decode jdk_43_method_44_code 1 = .ok (.iload_n 1, 1) := by decide +kernel
theorem d18_2 : decode jdk_43_method_44_code 2 = .ok (.baload, 1) := by decide +kernel
theorem d18_3 : decode jdk_43_method_44_code 3 = .ok (.sipush 255, 3) := by decide +kernel
theorem d18_6 : decode jdk_43_method_44_code 6 = .ok (.iand, 1) := by decide +kernel
theorem d18_7 : decode jdk_43_method_44_code 7 = .ok (.i2c, 1) := by decide +kernel
theorem d18_8 : decode jdk_43_method_44_code 8 = .ok (.ireturn, 1) := by decide +kernel
set_option maxRecDepth 65536 in
set_option maxHeartbeats 40000000 in
theorem rm18 (l : Launch) (Z : State) (a0 : Array Value) (hw : ∀ d ∈ tables_1, d.before a0 Z = true) (ws : List Jvm.Cond) (t1 : Addr) (k1 : ClassId) (b1 : List Int32) (i1 : Int32) (ms : List Addr) (h0 : Heap) (n0 : Nat) (O0 : Old Z n0 h0) (nb : Nat) (hb0 : n0 ≤ nb) (hnb : nb ≤ h0.size) (V1 : Arv Z h0 t1 k1 .byte (Int32.ofNat b1.length) (b1.map Value.int) (.int 0)) (i0 : ¬ i1 < 0) (i9 : i1 < Int32.ofNat b1.length) :
    Con l Z ms (⟨"java/lang/StringLatin1", "getChar", "([BI)C"⟩ : MethodName) jdk_43_method_44_code 2 (some .char) ws ({ frames := 0, cells := 0, slots := 0, locals := 0 } : Room) #[(.ref t1), (.int i1)] h0 (fun v vm h L => v = some (.int (chV b1 i1)) ∧ Fr nb L ∧ h = h0) := by
  refine Con.mk (plainFor_of_name pn3) ?_
  intro p e s m below meth c s₁ Cc X0 e0 eb J0 B0 M0
  obtain ⟨hx, hZ, hown, hby, hml, hnm, hret, hlk⟩ := id Cc
  have N0 := Fr.nil h0.size
  have K0 := Keep.refl h0 []
  show Go p e s below _ _ _ _ s₁ (mkF m 0 #[.val (.ref t1), .val (.int i1)] [])
  refine Go.of (fun _ hr => XS.aloadN X0.here hx rfl (hb hby d18_0) rfl rfl hr) ?_
  show Go p e s below _ _ _ _ s₁ (mkF m 1 #[.val (.ref t1), .val (.int i1)] [(.ref t1)])
  refine Go.of (fun _ hr => XS.iloadN X0.here hx rfl (hb hby d18_1) rfl  hr) ?_
  show Go p e s below _ _ _ _ s₁ (mkF m 2 #[.val (.ref t1), .val (.int i1)] [(.int i1), (.ref t1)])
  obtain ⟨cl101, Ar101, q101, S101, N101_, H101, G101⟩ := id V1
  have hin101 : ¬ (i1 < 0 ∨ cl101.slots.size ≤ (i1).toNatClampNeg) := inb_of S101 ⟨i0, i9⟩
  refine Go.of (fun _ hr => X0.baloadBytes hx (j := i1) (v := (.int (b1.getD i1.toNatClampNeg 0))) (by rw [e0]; exact Ar101.1) (State.isArrayOf_alike hZ.alike Ar101.2.1) Ar101.2.2 hin101 (H101.at hin101 (getD_int b1 _)) (g := (mkF m 2 #[.val (.ref t1), .val (.int i1)] [(.int i1), (.ref t1)])) rfl rfl (hb hby d18_2) _ hr) ?_
  show Go p e s below _ _ _ _ s₁ (mkF m 3 #[.val (.ref t1), .val (.int i1)] [(.int (b1.getD i1.toNatClampNeg 0))])
  refine Go.of (fun _ hr => XS.sipush X0.here hx rfl (hb hby d18_3) hr) ?_
  show Go p e s below _ _ _ _ s₁ (mkF m 6 #[.val (.ref t1), .val (.int i1)] [(.int (255 : Int32)), (.int (b1.getD i1.toNatClampNeg 0))])
  refine Go.of (fun _ hr => XS.iand X0.here hx rfl (hb hby d18_6) rfl hr) ?_
  show Go p e s below _ _ _ _ s₁ (mkF m 7 #[.val (.ref t1), .val (.int i1)] [(.int ((b1.getD i1.toNatClampNeg 0) &&& (255 : Int32)))])
  refine Go.of (fun _ hr => XS.i2c X0.here hx rfl (hb hby d18_7) rfl hr) ?_
  show Go p e s below _ _ _ _ s₁ (mkF m 8 #[.val (.ref t1), .val (.int i1)] [(.int (((b1.getD i1.toNatClampNeg 0) &&& (255 : Int32)).toUInt32.toUInt16.toUInt32.toInt32))])
  exact Go.retN X0 hx hlk B0 J0 e0 (t := .char) (z' := (((b1.getD i1.toNatClampNeg 0) &&& (255 : Int32)).toUInt32.toUInt16.toUInt32.toInt32)) hret (by simp) (hb hby d18_8) (own_c2 _) (by decide) (by decide) (fun vm_ hw_ => ⟨rfl, (fun y hy => Nat.le_trans hnb (N0 y hy)), rfl⟩)

theorem own_lt256 {x : Int32} (h : rng x) : x < 256 := by
  have b := h.2
  rw [Int32.lt_iff_toInt_lt, show (255 : Int32).toInt = 255 from rfl] at b
  rw [Int32.lt_iff_toInt_lt, show (256 : Int32).toInt = 256 from rfl]; omega

theorem pn7 : plainName "java/lang/CharacterDataLatin1" = true := by first | (simp [plainName, overriddenIn]; done) | decide +kernel
theorem d20_0 : decode jdk_116_method_1_code 0 = .ok (.iload_n 1, 1) := by decide +kernel
theorem d20_1 : decode jdk_116_method_1_code 1 = .ok (.i2c, 1) := by decide +kernel
theorem d20_2 : decode jdk_116_method_1_code 2 = .ok (.istore_n 2, 1) := by decide +kernel
theorem d20_3 : decode jdk_116_method_1_code 3 = .ok (.getstatic 1, 3) := by decide +kernel
theorem d20_6 : decode jdk_116_method_1_code 6 = .ok (.iload_n 2, 1) := by decide +kernel
theorem d20_7 : decode jdk_116_method_1_code 7 = .ok (.iaload, 1) := by decide +kernel
theorem d20_8 : decode jdk_116_method_1_code 8 = .ok (.istore_n 3, 1) := by decide +kernel
theorem d20_9 : decode jdk_116_method_1_code 9 = .ok (.iload_n 3, 1) := by decide +kernel
theorem d20_10 : decode jdk_116_method_1_code 10 = .ok (.ireturn, 1) := by decide +kernel
set_option maxRecDepth 65536 in
set_option maxHeartbeats 40000000 in
theorem rm20 (l : Launch) (Z : State) (a0 : Array Value) (hw : ∀ d ∈ tables_1, d.before a0 Z = true) (ws : List Jvm.Cond) (a1 : Addr) (c1 : Int32) (ms : List Addr) (h0 : Heap) (n0 : Nat) (O0 : Old Z n0 h0) (nb : Nat) (hb0 : n0 ≤ nb) (hnb : nb ≤ h0.size) (hc : rng c1) (wi wa : Addr) (ka : ClassId) (S_I : Sta Z Z.heap "java/lang/CharacterDataLatin1" "instance" "Ljava/lang/CharacterDataLatin1;" (.ref wi)) (E_I : Exa Z Z.heap wi "java/lang/CharacterDataLatin1") (S_A : Sta Z Z.heap "java/lang/CharacterDataLatin1" "A" "[I" (.ref wa)) (V_A : Arv Z Z.heap wa ka .int 256 (tabA.map Value.int) (.int 0)) :
    Con l Z ms (⟨"java/lang/CharacterDataLatin1", "getProperties", "(I)I"⟩ : MethodName) jdk_116_method_1_code 4 (some .int) ws ({ frames := 0, cells := 0, slots := 0, locals := 0 } : Room) #[(.ref a1), (.int c1)] h0 (fun v vm h L => v = some (.int (tabA.getD c1.toNatClampNeg 0)) ∧ Fr nb L ∧ h = h0) := by
  refine Con.mk (plainFor_of_name pn7) ?_
  intro p e s m below meth c s₁ Cc X0 e0 eb J0 B0 M0
  obtain ⟨hx, hZ, hown, hby, hml, hnm, hret, hlk⟩ := id Cc
  have N0 := Fr.nil h0.size
  have K0 := Keep.refl h0 []
  show Go p e s below _ _ _ _ s₁ (mkF m 0 #[.val (.ref a1), .val (.int c1), .unset, .unset] [])
  refine Go.of (fun _ hr => XS.iloadN X0.here hx rfl (hb hby d20_0) rfl  hr) ?_
  show Go p e s below _ _ _ _ s₁ (mkF m 1 #[.val (.ref a1), .val (.int c1), .unset, .unset] [(.int c1)])
  refine Go.of (fun _ hr => XS.i2c X0.here hx rfl (hb hby d20_1) rfl hr) ?_
  show Go p e s below _ _ _ _ s₁ (mkF m 2 #[.val (.ref a1), .val (.int c1), .unset, .unset] [(.int (c1.toUInt32.toUInt16.toUInt32.toInt32))])
  rw [i2c_id hc]
  show Go p e s below _ _ _ _ s₁ (mkF m 2 #[.val (.ref a1), .val (.int c1), .unset, .unset] [(.int c1)])
  refine Go.of (fun _ hr => XS.istoreN X0.here hx rfl (hb hby d20_2) rfl (l' := #[.val (.ref a1), .val (.int c1), .val (.int c1), .unset]) rfl hr) ?_
  show Go p e s below _ _ _ _ s₁ (mkF m 3 #[.val (.ref a1), .val (.int c1), .val (.int c1), .unset] [])
  obtain ⟨T101, X101, e101, st101⟩ := getS2 X0 hx hZ hown (host := "") (Or.inl (hw _ (List.mem_of_getElem? (i := 102) rfl))) Via.refl e0 (S_A.ext O0.2) (g := (mkF m 3 #[.val (.ref a1), .val (.int c1), .val (.int c1), .unset] [])) rfl (hb hby d20_3)
  refine Go.of (fun _ hr => st101 _ hr) ?_
  show Go p e s below _ _ _ _ T101 (mkF m 6 #[.val (.ref a1), .val (.int c1), .val (.int c1), .unset] [(.ref wa)])
  refine Go.of (fun _ hr => XS.iloadN X101.here hx rfl (hb hby d20_6) rfl  hr) ?_
  show Go p e s below _ _ _ _ T101 (mkF m 7 #[.val (.ref a1), .val (.int c1), .val (.int c1), .unset] [(.int c1), (.ref wa)])
  obtain ⟨cl102, Ar102, q102, S102, N102_, H102, G102⟩ := id (V_A.ext O0.2)
  have hin102 : ¬ (c1 < 0 ∨ cl102.slots.size ≤ (c1).toNatClampNeg) := inb_of S102 ⟨hc.1, own_lt256 hc⟩
  refine Go.of (fun _ hr => X101.iaload hx (j := c1) (v := (.int (tabA.getD c1.toNatClampNeg 0))) (by rw [e101]; exact Ar102.1) (State.isArrayOf_alike hZ.alike Ar102.2.1) Ar102.2.2 hin102 (H102.at hin102 (getD_int tabA _)) (g := (mkF m 7 #[.val (.ref a1), .val (.int c1), .val (.int c1), .unset] [(.int c1), (.ref wa)])) rfl rfl (hb hby d20_7) _ hr) ?_
  show Go p e s below _ _ _ _ T101 (mkF m 8 #[.val (.ref a1), .val (.int c1), .val (.int c1), .unset] [(.int (tabA.getD c1.toNatClampNeg 0))])
  refine Go.of (fun _ hr => XS.istoreN X101.here hx rfl (hb hby d20_8) rfl (l' := #[.val (.ref a1), .val (.int c1), .val (.int c1), .val (.int (tabA.getD c1.toNatClampNeg 0))]) rfl hr) ?_
  show Go p e s below _ _ _ _ T101 (mkF m 9 #[.val (.ref a1), .val (.int c1), .val (.int c1), .val (.int (tabA.getD c1.toNatClampNeg 0))] [])
  refine Go.of (fun _ hr => XS.iloadN X101.here hx rfl (hb hby d20_9) rfl  hr) ?_
  show Go p e s below _ _ _ _ T101 (mkF m 10 #[.val (.ref a1), .val (.int c1), .val (.int c1), .val (.int (tabA.getD c1.toNatClampNeg 0))] [(.int (tabA.getD c1.toNatClampNeg 0))])
  exact Go.retI X101 hx hlk B0 J0 e101 hret (hb hby d20_10) (by decide) (by decide) (fun vm_ hw_ => ⟨rfl, (fun y hy => Nat.le_trans hnb (N0 y hy)), rfl⟩)

def wtV (c : Int32) : Int32 := if (tabA.getD c.toNatClampNeg 0 &&& (28672 : Int32)) = (16384 : Int32) then 1 else 0

theorem d19_0 : decode jdk_116_method_26_code 0 = .ok (.aload_n 0, 1) := by decide +kernel
theorem d19_1 : decode jdk_116_method_26_code 1 = .ok (.iload_n 1, 1) := by decide +kernel
theorem d19_2 : decode jdk_116_method_26_code 2 = .ok (.invokevirtual 15, 3) := by decide +kernel
theorem pd20 : parseMethodDescriptor "(I)I" = some ⟨[.int], some .int⟩ := by decide +kernel
theorem d19_5 : decode jdk_116_method_26_code 5 = .ok (.istore_n 2, 1) := by decide +kernel
theorem d19_6 : decode jdk_116_method_26_code 6 = .ok (.iload_n 2, 1) := by decide +kernel
theorem d19_7 : decode jdk_116_method_26_code 7 = .ok (.sipush 28672, 3) := by decide +kernel
theorem d19_10 : decode jdk_116_method_26_code 10 = .ok (.iand, 1) := by decide +kernel
theorem d19_11 : decode jdk_116_method_26_code 11 = .ok (.sipush 16384, 3) := by decide +kernel
theorem d19_14 : decode jdk_116_method_26_code 14 = .ok (.if_icmp .ne 7, 3) := by decide +kernel
theorem d19_17 : decode jdk_116_method_26_code 17 = .ok (.iconst 1, 1) := by decide +kernel
theorem d19_18 : decode jdk_116_method_26_code 18 = .ok (.goto 4, 3) := by decide +kernel
theorem d19_22 : decode jdk_116_method_26_code 22 = .ok (.ireturn, 1) := by decide +kernel
theorem d19_21 : decode jdk_116_method_26_code 21 = .ok (.iconst 0, 1) := by decide +kernel
set_option maxRecDepth 65536 in
set_option maxHeartbeats 40000000 in
theorem rm19 (l : Launch) (Z : State) (a0 : Array Value) (hw : ∀ d ∈ tables_1, d.before a0 Z = true) (ws : List Jvm.Cond) (c1 : Int32) (ms : List Addr) (h0 : Heap) (n0 : Nat) (O0 : Old Z n0 h0) (nb : Nat) (hb0 : n0 ≤ nb) (hnb : nb ≤ h0.size) (wi wa : Addr) (ka : ClassId) (S_I : Sta Z Z.heap "java/lang/CharacterDataLatin1" "instance" "Ljava/lang/CharacterDataLatin1;" (.ref wi)) (E_I : Exa Z Z.heap wi "java/lang/CharacterDataLatin1") (S_A : Sta Z Z.heap "java/lang/CharacterDataLatin1" "A" "[I" (.ref wa)) (V_A : Arv Z Z.heap wa ka .int 256 (tabA.map Value.int) (.int 0)) (hc : rng c1) :
    Con l Z ms (⟨"java/lang/CharacterDataLatin1", "isWhitespace", "(I)Z"⟩ : MethodName) jdk_116_method_26_code 3 (some .boolean) ws ({ frames := 1, cells := 0, slots := 0, locals := 15 } : Room) #[(.ref wi), (.int c1)] h0 (fun v vm h L => v = some (.int (wtV c1)) ∧ Fr nb L ∧ h = h0) := by
  refine Con.mk (plainFor_of_name pn7) ?_
  intro p e s m below meth c s₁ Cc X0 e0 eb J0 B0 M0
  obtain ⟨hx, hZ, hown, hby, hml, hnm, hret, hlk⟩ := id Cc
  have N0 := Fr.nil h0.size
  have K0 := Keep.refl h0 []
  show Go p e s below _ _ _ _ s₁ (mkF m 0 #[.val (.ref wi), .val (.int c1), .unset] [])
  refine Go.of (fun _ hr => XS.aloadN X0.here hx rfl (hb hby d19_0) rfl rfl hr) ?_
  show Go p e s below _ _ _ _ s₁ (mkF m 1 #[.val (.ref wi), .val (.int c1), .unset] [(.ref wi)])
  refine Go.of (fun _ hr => XS.iloadN X0.here hx rfl (hb hby d19_1) rfl  hr) ?_
  show Go p e s below _ _ _ _ s₁ (mkF m 2 #[.val (.ref wi), .val (.int c1), .unset] [(.int c1), (.ref wi)])
  obtain ⟨_, b101, T101, h101, L101, e101, Cc101, X101, B101, J101, g101, hQ101, st101⟩ := own_callV Cc B0 J0 X0 (hw _ (List.mem_of_getElem? (i := 97) rfl)) (hw _ (List.mem_of_getElem? (i := 98) rfl)) (notFace_of_selects (args := #[]) (mvT hZ (hw _ (List.mem_of_getElem? (i := 100) rfl)))) (hw _ (List.mem_of_getElem? (i := 100) rfl)) (hw _ (List.mem_of_getElem? (i := 99) rfl)) (hw _ (List.mem_of_getElem? (i := 91) rfl)) (hw _ (List.mem_of_getElem? (i := 101) rfl)) (by decide) (E_I.ext O0.2) (rm20 l Z a0 hw [] wi c1 _ h0 n0 O0 h0.size (own_ole O0) K0.1 hc wi wa ka S_I E_I S_A V_A) e0 (g := (mkF m 2 #[.val (.ref wi), .val (.int c1), .unset] [(.int c1), (.ref wi)])) rfl (by rw [hml]; rfl) (argsL := [(.int c1)]) (rest := []) (lenOf pd20 rfl) rfl (W := 0) (by show 2 * 0 + _ ≤ _; exact Nat.le_of_eq rfl) (hb hby d19_2) (by decide) (by decide) (by decide) (by decide)
  obtain ⟨rfl, Nq101, hh101⟩ := hQ101
  have N101 := Fr.app N0 Nq101
  obtain ⟨hx, hZ, hown, hby, hml, hnm, hret, hlk⟩ := id Cc101
  rw [hh101] at e101 B101 J101
  refine Go.of st101 ?_
  show Go p e s below _ _ _ _ T101 (mkF m 5 #[.val (.ref wi), .val (.int c1), .unset] [(.int (tabA.getD c1.toNatClampNeg 0))])
  refine Go.of (fun _ hr => XS.istoreN X101.here hx rfl (hb hby d19_5) rfl (l' := #[.val (.ref wi), .val (.int c1), .val (.int (tabA.getD c1.toNatClampNeg 0))]) rfl hr) ?_
  show Go p e s below _ _ _ _ T101 (mkF m 6 #[.val (.ref wi), .val (.int c1), .val (.int (tabA.getD c1.toNatClampNeg 0))] [])
  refine Go.of (fun _ hr => XS.iloadN X101.here hx rfl (hb hby d19_6) rfl  hr) ?_
  show Go p e s below _ _ _ _ T101 (mkF m 7 #[.val (.ref wi), .val (.int c1), .val (.int (tabA.getD c1.toNatClampNeg 0))] [(.int (tabA.getD c1.toNatClampNeg 0))])
  refine Go.of (fun _ hr => XS.sipush X101.here hx rfl (hb hby d19_7) hr) ?_
  show Go p e s below _ _ _ _ T101 (mkF m 10 #[.val (.ref wi), .val (.int c1), .val (.int (tabA.getD c1.toNatClampNeg 0))] [(.int (28672 : Int32)), (.int (tabA.getD c1.toNatClampNeg 0))])
  refine Go.of (fun _ hr => XS.iand X101.here hx rfl (hb hby d19_10) rfl hr) ?_
  show Go p e s below _ _ _ _ T101 (mkF m 11 #[.val (.ref wi), .val (.int c1), .val (.int (tabA.getD c1.toNatClampNeg 0))] [(.int ((tabA.getD c1.toNatClampNeg 0) &&& (28672 : Int32)))])
  refine Go.of (fun _ hr => XS.sipush X101.here hx rfl (hb hby d19_11) hr) ?_
  show Go p e s below _ _ _ _ T101 (mkF m 14 #[.val (.ref wi), .val (.int c1), .val (.int (tabA.getD c1.toNatClampNeg 0))] [(.int (16384 : Int32)), (.int ((tabA.getD c1.toNatClampNeg 0) &&& (28672 : Int32)))])
  by_cases hb14_102 : ((tabA.getD c1.toNatClampNeg 0) &&& (28672 : Int32)) = (16384 : Int32)
  · refine Go.of (fun _ hr => XS.icmpNo X101.here hx rfl (hb hby d19_14) rfl (teq hb14_102).2 hr) ?_
    show Go p e s below _ _ _ _ T101 (mkF m 17 #[.val (.ref wi), .val (.int c1), .val (.int (tabA.getD c1.toNatClampNeg 0))] [])
    refine Go.of (fun _ hr => XS.iconst X101.here hx rfl (hb hby d19_17) hr) ?_
    show Go p e s below _ _ _ _ T101 (mkF m 18 #[.val (.ref wi), .val (.int c1), .val (.int (tabA.getD c1.toNatClampNeg 0))] [(.int (1 : Int32))])
    refine Go.of (fun _ hr => XS.goto X101.here hx rfl (pc0 := 18) (pc' := 22) rfl (hb hby d19_18) (by decide) (by decide) hr) ?_
    show Go p e s below _ _ _ _ T101 (mkF m 22 #[.val (.ref wi), .val (.int c1), .val (.int (tabA.getD c1.toNatClampNeg 0))] [(.int (1 : Int32))])
    exact Go.retN X101 hx hlk B101 J101 e101 (t := .boolean) (z' := (1 : Int32)) hret (by simp) (hb hby d19_22) rfl (by decide) (by decide) (fun vm_ hw_ => ⟨(by rw [wtV, if_pos hb14_102]), (fun y hy => Nat.le_trans hnb (N101 y hy)), rfl⟩)
  · refine Go.of (fun _ hr => XS.icmpYes X101.here hx rfl (pc0 := 14) (pc' := 21) rfl (hb hby d19_14) rfl (feq hb14_102).2 (by decide) (by decide) hr) ?_
    show Go p e s below _ _ _ _ T101 (mkF m 21 #[.val (.ref wi), .val (.int c1), .val (.int (tabA.getD c1.toNatClampNeg 0))] [])
    refine Go.of (fun _ hr => XS.iconst X101.here hx rfl (hb hby d19_21) hr) ?_
    show Go p e s below _ _ _ _ T101 (mkF m 22 #[.val (.ref wi), .val (.int c1), .val (.int (tabA.getD c1.toNatClampNeg 0))] [(.int (0 : Int32))])
    exact Go.retN X101 hx hlk B101 J101 e101 (t := .boolean) (z' := (0 : Int32)) hret (by simp) (hb hby d19_22) rfl (by decide) (by decide) (fun vm_ hw_ => ⟨(by rw [wtV, if_neg hb14_102]), (fun y hy => Nat.le_trans hnb (N101 y hy)), rfl⟩)

theorem d17_5 : decode jdk_43_method_37_code 5 = .ok (.iload_n 2, 1) := by decide +kernel
theorem d17_6 : decode jdk_43_method_37_code 6 = .ok (.iload_n 1, 1) := by decide +kernel
theorem d17_7 : decode jdk_43_method_37_code 7 = .ok (.if_icmp .ge 40, 3) := by decide +kernel
theorem d17_10 : decode jdk_43_method_37_code 10 = .ok (.aload_n 0, 1) := by decide +kernel
theorem d17_11 : decode jdk_43_method_37_code 11 = .ok (.iload_n 2, 1) := by decide +kernel
theorem d17_12 : decode jdk_43_method_37_code 12 = .ok (.invokestatic 50, 3) := by decide +kernel
theorem d17_15 : decode jdk_43_method_37_code 15 = .ok (.istore_n 3, 1) := by decide +kernel
theorem d17_16 : decode jdk_43_method_37_code 16 = .ok (.iload_n 3, 1) := by decide +kernel
theorem d17_17 : decode jdk_43_method_37_code 17 = .ok (.bipush 32, 2) := by decide +kernel
theorem d17_19 : decode jdk_43_method_37_code 19 = .ok (.if_icmp .eq 22, 3) := by decide +kernel
theorem d17_41 : decode jdk_43_method_37_code 41 = .ok (.iinc 2 1, 3) := by decide +kernel
theorem d17_44 : decode jdk_43_method_37_code 44 = .ok (.goto (-39), 3) := by decide +kernel
theorem d17_22 : decode jdk_43_method_37_code 22 = .ok (.iload_n 3, 1) := by decide +kernel
theorem d17_23 : decode jdk_43_method_37_code 23 = .ok (.bipush 9, 2) := by decide +kernel
theorem d17_25 : decode jdk_43_method_37_code 25 = .ok (.if_icmp .eq 16, 3) := by decide +kernel
theorem d17_28 : decode jdk_43_method_37_code 28 = .ok (.getstatic 66, 3) := by decide +kernel
theorem d17_31 : decode jdk_43_method_37_code 31 = .ok (.iload_n 3, 1) := by decide +kernel
theorem d17_32 : decode jdk_43_method_37_code 32 = .ok (.invokevirtual 211, 3) := by decide +kernel
theorem pd21 : parseMethodDescriptor "(I)Z" = some ⟨[.int], some .boolean⟩ := by decide +kernel
theorem d17_35 : decode jdk_43_method_37_code 35 = .ok (.ifCond .ne 6, 3) := by decide +kernel
theorem d17_38 : decode jdk_43_method_37_code 38 = .ok (.goto 9, 3) := by decide +kernel
theorem d17_47 : decode jdk_43_method_37_code 47 = .ok (.iload_n 2, 1) := by decide +kernel
theorem d17_48 : decode jdk_43_method_37_code 48 = .ok (.ireturn, 1) := by decide +kernel
theorem wt1 {c : Int32} (h : ¬ wtV c = 0) : (tabA.getD c.toNatClampNeg 0 &&& (28672 : Int32)) = (16384 : Int32) := Decidable.byContradiction fun q => h (by rw [wtV, if_neg q])
theorem nw_step {b : List Int32} {i : Nat} (h : ∃ j, i ≤ j ∧ j < b.length ∧ ¬ spV (chV b (Int32.ofNat j))) (q : spV (chV b (Int32.ofNat i))) : ∃ j, i + 1 ≤ j ∧ j < b.length ∧ ¬ spV (chV b (Int32.ofNat j)) := by
  obtain ⟨j, h1, h2, h3⟩ := h
  refine ⟨j, Nat.succ_le_of_lt (Nat.lt_of_le_of_ne h1 fun e => ?_), h2, h3⟩
  rw [← e] at h3; exact h3 q
theorem own_st3 {v0 v1 v2 : Value} {s3 : Slot} {x : Int32} (h : One s3) (e0 : v0.category = 1 := by rfl) (e1 : v1.category = 1 := by rfl) (e2 : v2.category = 1 := by rfl) : storeLocals #[.val v0, .val v1, .val v2, s3] 3 (.int x) = some #[.val v0, .val v1, .val v2, .val (.int x)] := by
  rcases h with rfl | ⟨w, rfl, hw⟩
  · cases v2 <;> first | rfl | (simp [Value.category] at e2)
  · cases v2 <;> cases w <;> first | rfl | (simp [Value.category] at e2 hw)
set_option maxRecDepth 65536 in
set_option maxHeartbeats 40000000 in
theorem nwloop {l : Launch} {Z : State} {a0 : Array Value} (hw : ∀ d ∈ tables_1, d.before a0 Z = true) {p : Program} {e : Env} {s : State} {m : MethodId} {args : Array Value} {below : List Frame} {meth : Method} {c : Code} {Q : Option Value → Vm → Heap → List Loc → Prop} {ms : List Addr} {h0 : Heap} {n0 nb : Nat} (O0 : Old Z n0 h0) (hb0 : n0 ≤ nb) (hnb : nb ≤ h0.size) (t1 : Addr) (k1 : ClassId) (b1 : List Int32) (wi wa : Addr) (ka : ClassId) (S_I : Sta Z Z.heap "java/lang/CharacterDataLatin1" "instance" "Ljava/lang/CharacterDataLatin1;" (.ref wi)) (E_I : Exa Z Z.heap wi "java/lang/CharacterDataLatin1") (S_A : Sta Z Z.heap "java/lang/CharacterDataLatin1" "A" "[I" (.ref wa)) (V_A : Arv Z Z.heap wa ka .int 256 (tabA.map Value.int) (.int 0)) (hn : b1.length ≤ 1000) (V1 : Arv Z h0 t1 k1 .byte (Int32.ofNat b1.length) (b1.map Value.int) (.int 0))
    (hQ : ∀ vm L (r : Nat), r < b1.length → Fr nb L → Q (some (.int (Int32.ofNat r))) vm h0 L) :
    ∀ (r i : Nat), i + r = b1.length → (∃ j, i ≤ j ∧ j < b1.length ∧ ¬ spV (chV b1 (Int32.ofNat j))) → ∀ (b T : State) (locs : List Loc) (s3 : Slot), One s3 → Cx Z p b m meth c "java/lang/StringLatin1" jdk_43_method_37_code 4 "indexOfNonWhitespace" (some .int) → Stand p l e ({ frames := 2, cells := 0, slots := 0, locals := 40 } : Room) b m args below meth c T locs 0 0 → T.heap = h0 → Fr nb locs → Hd Z ms b.vm h0 → Bs s b h0 →
      Go p e s below 0 0 (Hd Z ms) Q T (mkF m 5 #[.val (.ref t1), .val (.int (Int32.ofNat b1.length)), .val (.int (Int32.ofNat i)), s3] []) := by
  intro r
  induction r with
  | zero =>
    intro i hi hj
    exfalso
    obtain ⟨j, h1, h2, -⟩ := hj
    omega
  | succ r ih =>
    intro i hi hj b T locs s3 one3 Cc X eT N0 J0 B0
    obtain ⟨hx, hZ, hown, hby, hml, hnm, hret, hlk⟩ := id Cc
    have K0 := Keep.refl h0 []
    show Go p e s below _ _ _ _ T (mkF m 5 #[.val (.ref t1), .val (.int (Int32.ofNat b1.length)), .val (.int (Int32.ofNat i)), s3] [])
    refine Go.of (fun _ hr => XS.iloadN X.here hx rfl (hb hby d17_5) rfl  hr) ?_
    show Go p e s below _ _ _ _ T (mkF m 6 #[.val (.ref t1), .val (.int (Int32.ofNat b1.length)), .val (.int (Int32.ofNat i)), s3] [(.int (Int32.ofNat i))])
    refine Go.of (fun _ hr => XS.iloadN X.here hx rfl (hb hby d17_6) rfl  hr) ?_
    show Go p e s below _ _ _ _ T (mkF m 7 #[.val (.ref t1), .val (.int (Int32.ofNat b1.length)), .val (.int (Int32.ofNat i)), s3] [(.int (Int32.ofNat b1.length)), (.int (Int32.ofNat i))])
    refine Go.of (fun _ hr => XS.icmpNo X.here hx rfl (hb hby d17_7) rfl (tlt (oi_lt (by omega) (by omega) (by omega))).2.1 hr) ?_
    show Go p e s below _ _ _ _ T (mkF m 10 #[.val (.ref t1), .val (.int (Int32.ofNat b1.length)), .val (.int (Int32.ofNat i)), s3] [])
    refine Go.of (fun _ hr => XS.aloadN X.here hx rfl (hb hby d17_10) rfl rfl hr) ?_
    show Go p e s below _ _ _ _ T (mkF m 11 #[.val (.ref t1), .val (.int (Int32.ofNat b1.length)), .val (.int (Int32.ofNat i)), s3] [(.ref t1)])
    refine Go.of (fun _ hr => XS.iloadN X.here hx rfl (hb hby d17_11) rfl  hr) ?_
    show Go p e s below _ _ _ _ T (mkF m 12 #[.val (.ref t1), .val (.int (Int32.ofNat b1.length)), .val (.int (Int32.ofNat i)), s3] [(.int (Int32.ofNat i)), (.ref t1)])
    obtain ⟨_, b101, T101, h101, L101, e101, Cc101, X101, B101, J101, g101, hQ101, st101⟩ := own_callS Cc B0 J0 X (hw _ (List.mem_of_getElem? (i := 87) rfl)) (hw _ (List.mem_of_getElem? (i := 88) rfl)) (hw _ (List.mem_of_getElem? (i := 85) rfl)) (hw _ (List.mem_of_getElem? (i := 89) rfl)) (by decide) (rm18 l Z a0 hw [] t1 _ b1 (Int32.ofNat i) _ h0 n0 O0 h0.size (own_ole O0) K0.1 V1 (oi_nn (by omega)) (oi_lt (by omega) (by omega) (by omega))) eT (g := (mkF m 12 #[.val (.ref t1), .val (.int (Int32.ofNat b1.length)), .val (.int (Int32.ofNat i)), s3] [(.int (Int32.ofNat i)), (.ref t1)])) rfl (by rw [hml]; rfl) (argsL := [(.ref t1), (.int (Int32.ofNat i))]) (rest := []) (lenOf pd8 rfl) rfl (W := 0) (by show 2 * 0 + _ ≤ _; exact Nat.le_of_eq rfl) (hb hby d17_12) (by decide) (by decide) (by decide) (by decide)
    obtain ⟨rfl, Nq101, hh101⟩ := hQ101
    have N101 := Fr.app N0 (show Fr nb _ from fun y hy => Nat.le_trans hnb (Nq101 y hy))
    have NS101 := Fr.app (Fr.nil _) Nq101
    obtain ⟨hx, hZ, hown, hby, hml, hnm, hret, hlk⟩ := id Cc101
    rw [hh101] at e101 B101 J101
    refine Go.of st101 ?_
    show Go p e s below _ _ _ _ T101 (mkF m 15 #[.val (.ref t1), .val (.int (Int32.ofNat b1.length)), .val (.int (Int32.ofNat i)), s3] [(.int (chV b1 (Int32.ofNat i)))])
    refine Go.of (fun _ hr => XS.istoreN X101.here hx rfl (hb hby d17_15) rfl (l' := #[.val (.ref t1), .val (.int (Int32.ofNat b1.length)), .val (.int (Int32.ofNat i)), .val (.int (chV b1 (Int32.ofNat i)))]) (own_st3 one3) hr) ?_
    show Go p e s below _ _ _ _ T101 (mkF m 16 #[.val (.ref t1), .val (.int (Int32.ofNat b1.length)), .val (.int (Int32.ofNat i)), .val (.int (chV b1 (Int32.ofNat i)))] [])
    refine Go.of (fun _ hr => XS.iloadN X101.here hx rfl (hb hby d17_16) rfl  hr) ?_
    show Go p e s below _ _ _ _ T101 (mkF m 17 #[.val (.ref t1), .val (.int (Int32.ofNat b1.length)), .val (.int (Int32.ofNat i)), .val (.int (chV b1 (Int32.ofNat i)))] [(.int (chV b1 (Int32.ofNat i)))])
    refine Go.of (fun _ hr => XS.bipush X101.here hx rfl (hb hby d17_17) hr) ?_
    show Go p e s below _ _ _ _ T101 (mkF m 19 #[.val (.ref t1), .val (.int (Int32.ofNat b1.length)), .val (.int (Int32.ofNat i)), .val (.int (chV b1 (Int32.ofNat i)))] [(.int (32 : Int32)), (.int (chV b1 (Int32.ofNat i)))])
    by_cases hb19_102 : (chV b1 (Int32.ofNat i)) = (32 : Int32)
    · refine Go.of (fun _ hr => XS.icmpYes X101.here hx rfl (pc0 := 19) (pc' := 41) rfl (hb hby d17_19) rfl (teq hb19_102).1 (by decide) (by decide) hr) ?_
      show Go p e s below _ _ _ _ T101 (mkF m 41 #[.val (.ref t1), .val (.int (Int32.ofNat b1.length)), .val (.int (Int32.ofNat i)), .val (.int (chV b1 (Int32.ofNat i)))] [])
      refine Go.of (fun _ hr => XS.iinc X101.here hx rfl (hb hby d17_41) rfl (l' := #[.val (.ref t1), .val (.int (Int32.ofNat b1.length)), .val (.int ((Int32.ofNat i) + (1 : Int32))), .val (.int (chV b1 (Int32.ofNat i)))]) rfl hr) ?_
      show Go p e s below _ _ _ _ T101 (mkF m 44 #[.val (.ref t1), .val (.int (Int32.ofNat b1.length)), .val (.int ((Int32.ofNat i) + (1 : Int32))), .val (.int (chV b1 (Int32.ofNat i)))] [])
      refine Go.of (fun _ hr => XS.goto X101.here hx rfl (pc0 := 44) (pc' := 5) rfl (hb hby d17_44) (by decide) (by decide) hr) ?_
      show Go p e s below _ _ _ _ T101 (mkF m 5 #[.val (.ref t1), .val (.int (Int32.ofNat b1.length)), .val (.int ((Int32.ofNat i) + (1 : Int32))), .val (.int (chV b1 (Int32.ofNat i)))] [])
      simp only [oi_succ (show i + 1 < 2147483648 by omega)]
      exact ih (i + 1) (by omega) (nw_step hj (Or.inl hb19_102)) _ _ _ _ (One.val rfl) Cc101 X101 e101 N101 J101 B101
    · refine Go.of (fun _ hr => XS.icmpNo X101.here hx rfl (hb hby d17_19) rfl (feq hb19_102).1 hr) ?_
      show Go p e s below _ _ _ _ T101 (mkF m 22 #[.val (.ref t1), .val (.int (Int32.ofNat b1.length)), .val (.int (Int32.ofNat i)), .val (.int (chV b1 (Int32.ofNat i)))] [])
      refine Go.of (fun _ hr => XS.iloadN X101.here hx rfl (hb hby d17_22) rfl  hr) ?_
      show Go p e s below _ _ _ _ T101 (mkF m 23 #[.val (.ref t1), .val (.int (Int32.ofNat b1.length)), .val (.int (Int32.ofNat i)), .val (.int (chV b1 (Int32.ofNat i)))] [(.int (chV b1 (Int32.ofNat i)))])
      refine Go.of (fun _ hr => XS.bipush X101.here hx rfl (hb hby d17_23) hr) ?_
      show Go p e s below _ _ _ _ T101 (mkF m 25 #[.val (.ref t1), .val (.int (Int32.ofNat b1.length)), .val (.int (Int32.ofNat i)), .val (.int (chV b1 (Int32.ofNat i)))] [(.int (9 : Int32)), (.int (chV b1 (Int32.ofNat i)))])
      by_cases hb25_103 : (chV b1 (Int32.ofNat i)) = (9 : Int32)
      · refine Go.of (fun _ hr => XS.icmpYes X101.here hx rfl (pc0 := 25) (pc' := 41) rfl (hb hby d17_25) rfl (teq hb25_103).1 (by decide) (by decide) hr) ?_
        show Go p e s below _ _ _ _ T101 (mkF m 41 #[.val (.ref t1), .val (.int (Int32.ofNat b1.length)), .val (.int (Int32.ofNat i)), .val (.int (chV b1 (Int32.ofNat i)))] [])
        refine Go.of (fun _ hr => XS.iinc X101.here hx rfl (hb hby d17_41) rfl (l' := #[.val (.ref t1), .val (.int (Int32.ofNat b1.length)), .val (.int ((Int32.ofNat i) + (1 : Int32))), .val (.int (chV b1 (Int32.ofNat i)))]) rfl hr) ?_
        show Go p e s below _ _ _ _ T101 (mkF m 44 #[.val (.ref t1), .val (.int (Int32.ofNat b1.length)), .val (.int ((Int32.ofNat i) + (1 : Int32))), .val (.int (chV b1 (Int32.ofNat i)))] [])
        refine Go.of (fun _ hr => XS.goto X101.here hx rfl (pc0 := 44) (pc' := 5) rfl (hb hby d17_44) (by decide) (by decide) hr) ?_
        show Go p e s below _ _ _ _ T101 (mkF m 5 #[.val (.ref t1), .val (.int (Int32.ofNat b1.length)), .val (.int ((Int32.ofNat i) + (1 : Int32))), .val (.int (chV b1 (Int32.ofNat i)))] [])
        simp only [oi_succ (show i + 1 < 2147483648 by omega)]
        exact ih (i + 1) (by omega) (nw_step hj (Or.inr (Or.inl hb25_103))) _ _ _ _ (One.val rfl) Cc101 X101 e101 N101 J101 B101
      · refine Go.of (fun _ hr => XS.icmpNo X101.here hx rfl (hb hby d17_25) rfl (feq hb25_103).1 hr) ?_
        show Go p e s below _ _ _ _ T101 (mkF m 28 #[.val (.ref t1), .val (.int (Int32.ofNat b1.length)), .val (.int (Int32.ofNat i)), .val (.int (chV b1 (Int32.ofNat i)))] [])
        obtain ⟨T104, X104, e104, st104⟩ := getS2 X101 hx hZ hown (host := "") (Or.inl (hw _ (List.mem_of_getElem? (i := 90) rfl))) Via.refl e101 (S_I.ext O0.2) (g := (mkF m 28 #[.val (.ref t1), .val (.int (Int32.ofNat b1.length)), .val (.int (Int32.ofNat i)), .val (.int (chV b1 (Int32.ofNat i)))] [])) rfl (hb hby d17_28)
        refine Go.of (fun _ hr => st104 _ hr) ?_
        show Go p e s below _ _ _ _ T104 (mkF m 31 #[.val (.ref t1), .val (.int (Int32.ofNat b1.length)), .val (.int (Int32.ofNat i)), .val (.int (chV b1 (Int32.ofNat i)))] [(.ref wi)])
        refine Go.of (fun _ hr => XS.iloadN X104.here hx rfl (hb hby d17_31) rfl  hr) ?_
        show Go p e s below _ _ _ _ T104 (mkF m 32 #[.val (.ref t1), .val (.int (Int32.ofNat b1.length)), .val (.int (Int32.ofNat i)), .val (.int (chV b1 (Int32.ofNat i)))] [(.int (chV b1 (Int32.ofNat i))), (.ref wi)])
        obtain ⟨_, b105, T105, h105, L105, e105, Cc105, X105, B105, J105, g105, hQ105, st105⟩ := own_callV Cc101 B101 J101 X104 (hw _ (List.mem_of_getElem? (i := 92) rfl)) (hw _ (List.mem_of_getElem? (i := 93) rfl)) (notFace_of_selects (args := #[]) (mvT hZ (hw _ (List.mem_of_getElem? (i := 95) rfl)))) (hw _ (List.mem_of_getElem? (i := 95) rfl)) (hw _ (List.mem_of_getElem? (i := 94) rfl)) (hw _ (List.mem_of_getElem? (i := 91) rfl)) (hw _ (List.mem_of_getElem? (i := 96) rfl)) (by decide) (E_I.ext O0.2) (rm19 l Z a0 hw [] (chV b1 (Int32.ofNat i)) _ h0 n0 O0 h0.size (own_ole O0) K0.1 wi wa ka S_I E_I S_A V_A (chV_rng ..)) e104 (g := (mkF m 32 #[.val (.ref t1), .val (.int (Int32.ofNat b1.length)), .val (.int (Int32.ofNat i)), .val (.int (chV b1 (Int32.ofNat i)))] [(.int (chV b1 (Int32.ofNat i))), (.ref wi)])) rfl (by rw [hml]; rfl) (argsL := [(.int (chV b1 (Int32.ofNat i)))]) (rest := []) (lenOf pd21 rfl) rfl (W := 0) (by show 2 * 0 + _ ≤ _; exact Nat.le_of_eq rfl) (hb hby d17_32) (by decide) (by decide) (by decide) (by decide)
        obtain ⟨rfl, Nq105, hh105⟩ := hQ105
        have N105 := Fr.app N101 (show Fr nb _ from fun y hy => Nat.le_trans hnb (Nq105 y hy))
        have NS105 := Fr.app NS101 Nq105
        obtain ⟨hx, hZ, hown, hby, hml, hnm, hret, hlk⟩ := id Cc105
        rw [hh105] at e105 B105 J105
        refine Go.of st105 ?_
        show Go p e s below _ _ _ _ T105 (mkF m 35 #[.val (.ref t1), .val (.int (Int32.ofNat b1.length)), .val (.int (Int32.ofNat i)), .val (.int (chV b1 (Int32.ofNat i)))] [(.int (wtV (chV b1 (Int32.ofNat i))))])
        by_cases hb35_106 : (wtV (chV b1 (Int32.ofNat i))) = (0 : Int32)
        · refine Go.of (fun _ hr => XS.ifNo X105.here hx rfl (hb hby d17_35) rfl ((if0 _ _).trans (teq hb35_106).2) hr) ?_
          show Go p e s below _ _ _ _ T105 (mkF m 38 #[.val (.ref t1), .val (.int (Int32.ofNat b1.length)), .val (.int (Int32.ofNat i)), .val (.int (chV b1 (Int32.ofNat i)))] [])
          refine Go.of (fun _ hr => XS.goto X105.here hx rfl (pc0 := 38) (pc' := 47) rfl (hb hby d17_38) (by decide) (by decide) hr) ?_
          show Go p e s below _ _ _ _ T105 (mkF m 47 #[.val (.ref t1), .val (.int (Int32.ofNat b1.length)), .val (.int (Int32.ofNat i)), .val (.int (chV b1 (Int32.ofNat i)))] [])
          refine Go.of (fun _ hr => XS.iloadN X105.here hx rfl (hb hby d17_47) rfl  hr) ?_
          show Go p e s below _ _ _ _ T105 (mkF m 48 #[.val (.ref t1), .val (.int (Int32.ofNat b1.length)), .val (.int (Int32.ofNat i)), .val (.int (chV b1 (Int32.ofNat i)))] [(.int (Int32.ofNat i))])
          exact Go.retI X105 hx hlk B105 J105 e105 hret (hb hby d17_48) (by decide) (by decide) (fun vm_ hw_ => hQ _ _ i (by omega) N105)
        · refine Go.of (fun _ hr => XS.ifYes X105.here hx rfl (pc0 := 35) (pc' := 41) rfl (hb hby d17_35) rfl ((if0 _ _).trans (feq hb35_106).2) (by decide) (by decide) hr) ?_
          show Go p e s below _ _ _ _ T105 (mkF m 41 #[.val (.ref t1), .val (.int (Int32.ofNat b1.length)), .val (.int (Int32.ofNat i)), .val (.int (chV b1 (Int32.ofNat i)))] [])
          refine Go.of (fun _ hr => XS.iinc X105.here hx rfl (hb hby d17_41) rfl (l' := #[.val (.ref t1), .val (.int (Int32.ofNat b1.length)), .val (.int ((Int32.ofNat i) + (1 : Int32))), .val (.int (chV b1 (Int32.ofNat i)))]) rfl hr) ?_
          show Go p e s below _ _ _ _ T105 (mkF m 44 #[.val (.ref t1), .val (.int (Int32.ofNat b1.length)), .val (.int ((Int32.ofNat i) + (1 : Int32))), .val (.int (chV b1 (Int32.ofNat i)))] [])
          refine Go.of (fun _ hr => XS.goto X105.here hx rfl (pc0 := 44) (pc' := 5) rfl (hb hby d17_44) (by decide) (by decide) hr) ?_
          show Go p e s below _ _ _ _ T105 (mkF m 5 #[.val (.ref t1), .val (.int (Int32.ofNat b1.length)), .val (.int ((Int32.ofNat i) + (1 : Int32))), .val (.int (chV b1 (Int32.ofNat i)))] [])
          simp only [oi_succ (show i + 1 < 2147483648 by omega)]
          exact ih (i + 1) (by omega) (nw_step hj (Or.inr (Or.inr (wt1 hb35_106)))) _ _ _ _ (One.val rfl) Cc105 X105 e105 N105 J105 B105

theorem d17_0 : decode jdk_43_method_37_code 0 = .ok (.aload_n 0, 1) := by decide +kernel
theorem d17_1 : decode jdk_43_method_37_code 1 = .ok (.arraylength, 1) := by decide +kernel
theorem d17_2 : decode jdk_43_method_37_code 2 = .ok (.istore_n 1, 1) := by decide +kernel
theorem d17_3 : decode jdk_43_method_37_code 3 = .ok (.iconst 0, 1) := by decide +kernel
theorem d17_4 : decode jdk_43_method_37_code 4 = .ok (.istore_n 2, 1) := by decide +kernel
set_option maxRecDepth 65536 in
set_option maxHeartbeats 40000000 in
theorem rm17 (l : Launch) (Z : State) (a0 : Array Value) (hw : ∀ d ∈ tables_1, d.before a0 Z = true) (ws : List Jvm.Cond) (t1 : Addr) (k1 : ClassId) (b1 : List Int32) (ms : List Addr) (h0 : Heap) (n0 : Nat) (O0 : Old Z n0 h0) (nb : Nat) (hb0 : n0 ≤ nb) (hnb : nb ≤ h0.size) (wi wa : Addr) (ka : ClassId) (S_I : Sta Z Z.heap "java/lang/CharacterDataLatin1" "instance" "Ljava/lang/CharacterDataLatin1;" (.ref wi)) (E_I : Exa Z Z.heap wi "java/lang/CharacterDataLatin1") (S_A : Sta Z Z.heap "java/lang/CharacterDataLatin1" "A" "[I" (.ref wa)) (V_A : Arv Z Z.heap wa ka .int 256 (tabA.map Value.int) (.int 0)) (V1 : Arv Z h0 t1 k1 .byte (Int32.ofNat b1.length) (b1.map Value.int) (.int 0)) (hn : b1.length ≤ 1000) (hnk : ∃ j, j < b1.length ∧ ¬ spV (chV b1 (Int32.ofNat j))) :
    Con l Z ms (⟨"java/lang/StringLatin1", "indexOfNonWhitespace", "([B)I"⟩ : MethodName) jdk_43_method_37_code 4 (some .int) ws ({ frames := 2, cells := 0, slots := 0, locals := 40 } : Room) #[(.ref t1)] h0 (fun v vm h L => ∃ r : Nat, r < b1.length ∧ v = some (.int (Int32.ofNat r)) ∧ Fr nb L ∧ h = h0) := by
  refine Con.mk (plainFor_of_name pn3) ?_
  intro p e s m below meth c s₁ Cc X0 e0 eb J0 B0 M0
  obtain ⟨hx, hZ, hown, hby, hml, hnm, hret, hlk⟩ := id Cc
  have N0 := Fr.nil h0.size
  have K0 := Keep.refl h0 []
  show Go p e s below _ _ _ _ s₁ (mkF m 0 #[.val (.ref t1), .unset, .unset, .unset] [])
  refine Go.of (fun _ hr => XS.aloadN X0.here hx rfl (hb hby d17_0) rfl rfl hr) ?_
  show Go p e s below _ _ _ _ s₁ (mkF m 1 #[.val (.ref t1), .unset, .unset, .unset] [(.ref t1)])
  obtain ⟨cl101, Ar101, q101, S101, N101_, H101, G101⟩ := id V1
  refine Go.of (fun _ hr => X0.arraylength hx (by rw [e0]; exact Ar101.1) (State.isArrayOf_alike hZ.alike Ar101.2.1) (g := (mkF m 1 #[.val (.ref t1), .unset, .unset, .unset] [(.ref t1)])) rfl rfl (hb hby d17_1) _ hr) ?_
  rw [len_of S101 N101_]
  show Go p e s below _ _ _ _ s₁ (mkF m 2 #[.val (.ref t1), .unset, .unset, .unset] [(.int (Int32.ofNat b1.length))])
  refine Go.of (fun _ hr => XS.istoreN X0.here hx rfl (hb hby d17_2) rfl (l' := #[.val (.ref t1), .val (.int (Int32.ofNat b1.length)), .unset, .unset]) rfl hr) ?_
  show Go p e s below _ _ _ _ s₁ (mkF m 3 #[.val (.ref t1), .val (.int (Int32.ofNat b1.length)), .unset, .unset] [])
  refine Go.of (fun _ hr => XS.iconst X0.here hx rfl (hb hby d17_3) hr) ?_
  show Go p e s below _ _ _ _ s₁ (mkF m 4 #[.val (.ref t1), .val (.int (Int32.ofNat b1.length)), .unset, .unset] [(.int (0 : Int32))])
  refine Go.of (fun _ hr => XS.istoreN X0.here hx rfl (hb hby d17_4) rfl (l' := #[.val (.ref t1), .val (.int (Int32.ofNat b1.length)), .val (.int (0 : Int32)), .unset]) rfl hr) ?_
  show Go p e s below _ _ _ _ s₁ (mkF m 5 #[.val (.ref t1), .val (.int (Int32.ofNat b1.length)), .val (.int (0 : Int32)), .unset] [])
  exact nwloop hw O0 hb0 hnb t1 k1 b1 wi wa ka S_I E_I S_A V_A hn V1 (fun vm L r q1 q2 => ⟨r, q1, rfl, q2, rfl⟩) b1.length 0 (Nat.zero_add _) (by obtain ⟨j, q1, q2⟩ := hnk; exact ⟨j, Nat.zero_le _, q1, q2⟩) _ _ _ _ One.u Cc X0 e0 (fun y hy => Nat.le_trans hnb (N0 y hy)) J0 B0

theorem d15_0 : decode jdk_42_method_120_code 0 = .ok (.aload_n 0, 1) := by decide +kernel
theorem d15_1 : decode jdk_42_method_120_code 1 = .ok (.invokevirtual 492, 3) := by decide +kernel
theorem d15_4 : decode jdk_42_method_120_code 4 = .ok (.ifCond .eq 13, 3) := by decide +kernel
theorem d15_7 : decode jdk_42_method_120_code 7 = .ok (.aload_n 0, 1) := by decide +kernel
theorem d15_8 : decode jdk_42_method_120_code 8 = .ok (.getfield 9, 3) := by decide +kernel
theorem d15_11 : decode jdk_42_method_120_code 11 = .ok (.invokestatic 924, 3) := by decide +kernel
theorem pd22 : parseMethodDescriptor "([B)I" = some ⟨[(.array .byte)], some .int⟩ := by decide +kernel
theorem d15_14 : decode jdk_42_method_120_code 14 = .ok (.goto 10, 3) := by decide +kernel
theorem d15_24 : decode jdk_42_method_120_code 24 = .ok (.ireturn, 1) := by decide +kernel
set_option maxRecDepth 65536 in
set_option maxHeartbeats 40000000 in
theorem rm15 (l : Launch) (Z : State) (a0 : Array Value) (hw : ∀ d ∈ tables_1, d.before a0 Z = true) (ws : List Jvm.Cond) (s1 t1 : Addr) (k1 : ClassId) (b1 : List Int32) (zc : Int32) (ms : List Addr) (h0 : Heap) (n0 : Nat) (O0 : Old Z n0 h0) (nb : Nat) (hb0 : n0 ≤ nb) (hnb : nb ≤ h0.size) (wi wa : Addr) (ka : ClassId) (S_I : Sta Z Z.heap "java/lang/CharacterDataLatin1" "instance" "Ljava/lang/CharacterDataLatin1;" (.ref wi)) (E_I : Exa Z Z.heap wi "java/lang/CharacterDataLatin1") (S_A : Sta Z Z.heap "java/lang/CharacterDataLatin1" "A" "[I" (.ref wa)) (V_A : Arv Z Z.heap wa ka .int 256 (tabA.map Value.int) (.int 0)) (Es1 : Exa Z h0 s1 "java/lang/String") (Fv1 : Fld Z h0 s1 "java/lang/String" "value" "[B" (.ref t1)) (Fc1 : Fld Z h0 s1 "java/lang/String" "coder" "B" (.int 0)) (V1 : Arv Z h0 t1 k1 .byte (Int32.ofNat b1.length) (b1.map Value.int) (.int 0)) (hn1 : b1.length ≤ 1000) (hnk : ∃ j, j < b1.length ∧ ¬ spV (chV b1 (Int32.ofNat j))) (S_C : Sta Z Z.heap "java/lang/String" "COMPACT_STRINGS" "Z" (.int zc)) (hzc : ¬ zc = 0) :
    Con l Z ms (⟨"java/lang/String", "indexOfNonWhitespace", "()I"⟩ : MethodName) jdk_42_method_120_code 1 (some .int) ws ({ frames := 3, cells := 0, slots := 0, locals := 55 } : Room) #[(.ref s1)] h0 (fun v vm h L => ∃ r : Nat, r < b1.length ∧ v = some (.int (Int32.ofNat r)) ∧ Fr nb L ∧ h = h0) := by
  refine Con.mk (plainFor_of_name pn1) ?_
  intro p e s m below meth c s₁ Cc X0 e0 eb J0 B0 M0
  obtain ⟨hx, hZ, hown, hby, hml, hnm, hret, hlk⟩ := id Cc
  have N0 := Fr.nil h0.size
  have K0 := Keep.refl h0 []
  show Go p e s below _ _ _ _ s₁ (mkF m 0 #[.val (.ref s1)] [])
  refine Go.of (fun _ hr => XS.aloadN X0.here hx rfl (hb hby d15_0) rfl rfl hr) ?_
  show Go p e s below _ _ _ _ s₁ (mkF m 1 #[.val (.ref s1)] [(.ref s1)])
  obtain ⟨_, b101, T101, h101, L101, e101, Cc101, X101, B101, J101, g101, hQ101, st101⟩ := own_callV Cc B0 J0 X0 (hw _ (List.mem_of_getElem? (i := 78) rfl)) (hw _ (List.mem_of_getElem? (i := 79) rfl)) (notFace_of_selects (args := #[]) (mvT hZ (hw _ (List.mem_of_getElem? (i := 81) rfl)))) (hw _ (List.mem_of_getElem? (i := 81) rfl)) (hw _ (List.mem_of_getElem? (i := 80) rfl)) (hw _ (List.mem_of_getElem? (i := 10) rfl)) (hw _ (List.mem_of_getElem? (i := 82) rfl)) (by decide) Es1 (rm16 l Z a0 hw [] s1 zc _ h0 n0 O0 h0.size (own_ole O0) K0.1 Fc1 S_C hzc) e0 (g := (mkF m 1 #[.val (.ref s1)] [(.ref s1)])) rfl (by rw [hml]; rfl) (argsL := []) (rest := []) (lenOf pd7 rfl) rfl (W := 0) (by show 2 * 0 + _ ≤ _; exact Nat.le_of_eq rfl) (hb hby d15_1) (by decide) (by decide) (by decide) (by decide)
  obtain ⟨rfl, Nq101, hh101⟩ := hQ101
  have N101 := Fr.app N0 Nq101
  obtain ⟨hx, hZ, hown, hby, hml, hnm, hret, hlk⟩ := id Cc101
  rw [hh101] at e101 B101 J101
  refine Go.of st101 ?_
  show Go p e s below _ _ _ _ T101 (mkF m 4 #[.val (.ref s1)] [(.int (1 : Int32))])
  refine Go.of (fun _ hr => XS.ifNo X101.here hx rfl (hb hby d15_4) rfl ((if0 _ _).trans (feq (by decide : ¬ ((1 : Int32) = (0 : Int32)))).1) hr) ?_
  show Go p e s below _ _ _ _ T101 (mkF m 7 #[.val (.ref s1)] [])
  refine Go.of (fun _ hr => XS.aloadN X101.here hx rfl (hb hby d15_7) rfl rfl hr) ?_
  show Go p e s below _ _ _ _ T101 (mkF m 8 #[.val (.ref s1)] [(.ref s1)])
  obtain ⟨T102, X102, e102, st102⟩ := getF X101 hx hZ hown (host := "") (Or.inl (hw _ (List.mem_of_getElem? (i := 35) rfl))) Via.refl e101 Fv1 (g := (mkF m 8 #[.val (.ref s1)] [(.ref s1)])) rfl rfl (hb hby d15_8)
  refine Go.of (fun _ hr => st102 _ hr) ?_
  show Go p e s below _ _ _ _ T102 (mkF m 11 #[.val (.ref s1)] [(.ref t1)])
  obtain ⟨_, b103, T103, h103, L103, e103, Cc103, X103, B103, J103, g103, hQ103, st103⟩ := own_callS Cc101 B101 J101 X102 (hw _ (List.mem_of_getElem? (i := 83) rfl)) (hw _ (List.mem_of_getElem? (i := 84) rfl)) (hw _ (List.mem_of_getElem? (i := 85) rfl)) (hw _ (List.mem_of_getElem? (i := 86) rfl)) (by decide) (rm17 l Z a0 hw [] t1 _ b1 _ h0 n0 O0 h0.size (own_ole O0) K0.1 wi wa ka S_I E_I S_A V_A V1 hn1 hnk) e102 (g := (mkF m 11 #[.val (.ref s1)] [(.ref t1)])) rfl (by rw [hml]; rfl) (argsL := [(.ref t1)]) (rest := []) (lenOf pd22 rfl) rfl (W := 0) (by show 2 * 0 + _ ≤ _; exact Nat.le_of_eq rfl) (hb hby d15_11) (by decide) (by decide) (by decide) (by decide)
  obtain ⟨r103, rl103, rfl, Nq103, hh103⟩ := hQ103
  have N103 := Fr.app N101 Nq103
  obtain ⟨hx, hZ, hown, hby, hml, hnm, hret, hlk⟩ := id Cc103
  rw [hh103] at e103 B103 J103
  refine Go.of st103 ?_
  show Go p e s below _ _ _ _ T103 (mkF m 14 #[.val (.ref s1)] [(.int (Int32.ofNat r103))])
  refine Go.of (fun _ hr => XS.goto X103.here hx rfl (pc0 := 14) (pc' := 24) rfl (hb hby d15_14) (by decide) (by decide) hr) ?_
  show Go p e s below _ _ _ _ T103 (mkF m 24 #[.val (.ref s1)] [(.int (Int32.ofNat r103))])
  exact Go.retI X103 hx hlk B103 J103 e103 hret (hb hby d15_24) (by decide) (by decide) (fun vm_ hw_ => ⟨r103, rl103, rfl, (fun y hy => Nat.le_trans hnb (N103 y hy)), rfl⟩)

theorem d14_0 : decode jdk_42_method_117_code 0 = .ok (.aload_n 0, 1) := by decide +kernel
theorem d14_1 : decode jdk_42_method_117_code 1 = .ok (.invokevirtual 876, 3) := by decide +kernel
theorem d14_4 : decode jdk_42_method_117_code 4 = .ok (.aload_n 0, 1) := by decide +kernel
theorem d14_5 : decode jdk_42_method_117_code 5 = .ok (.invokevirtual 505, 3) := by decide +kernel
theorem d14_8 : decode jdk_42_method_117_code 8 = .ok (.if_icmp .ne 7, 3) := by decide +kernel
theorem d14_15 : decode jdk_42_method_117_code 15 = .ok (.iconst 0, 1) := by decide +kernel
theorem d14_16 : decode jdk_42_method_117_code 16 = .ok (.ireturn, 1) := by decide +kernel
set_option maxRecDepth 65536 in
set_option maxHeartbeats 40000000 in
theorem rm14 (l : Launch) (Z : State) (a0 : Array Value) (hw : ∀ d ∈ tables_1, d.before a0 Z = true) (ws : List Jvm.Cond) (s1 t1 : Addr) (k1 : ClassId) (b1 : List Int32) (zc : Int32) (ms : List Addr) (h0 : Heap) (n0 : Nat) (O0 : Old Z n0 h0) (nb : Nat) (hb0 : n0 ≤ nb) (hnb : nb ≤ h0.size) (wi wa : Addr) (ka : ClassId) (S_I : Sta Z Z.heap "java/lang/CharacterDataLatin1" "instance" "Ljava/lang/CharacterDataLatin1;" (.ref wi)) (E_I : Exa Z Z.heap wi "java/lang/CharacterDataLatin1") (S_A : Sta Z Z.heap "java/lang/CharacterDataLatin1" "A" "[I" (.ref wa)) (V_A : Arv Z Z.heap wa ka .int 256 (tabA.map Value.int) (.int 0)) (Es1 : Exa Z h0 s1 "java/lang/String") (Fv1 : Fld Z h0 s1 "java/lang/String" "value" "[B" (.ref t1)) (Fc1 : Fld Z h0 s1 "java/lang/String" "coder" "B" (.int 0)) (V1 : Arv Z h0 t1 k1 .byte (Int32.ofNat b1.length) (b1.map Value.int) (.int 0)) (hn1 : b1.length ≤ 1000) (hnk : ∃ j, j < b1.length ∧ ¬ spV (chV b1 (Int32.ofNat j))) (S_C : Sta Z Z.heap "java/lang/String" "COMPACT_STRINGS" "Z" (.int zc)) (hzc : ¬ zc = 0) :
    Con l Z ms (⟨"java/lang/String", "isBlank", "()Z"⟩ : MethodName) jdk_42_method_117_code 1 (some .boolean) ws ({ frames := 4, cells := 0, slots := 0, locals := 67 } : Room) #[(.ref s1)] h0 (fun v vm h L => v = some (.int 0) ∧ Fr nb L ∧ h = h0) := by
  refine Con.mk (plainFor_of_name pn1) ?_
  intro p e s m below meth c s₁ Cc X0 e0 eb J0 B0 M0
  obtain ⟨hx, hZ, hown, hby, hml, hnm, hret, hlk⟩ := id Cc
  have N0 := Fr.nil h0.size
  have K0 := Keep.refl h0 []
  show Go p e s below _ _ _ _ s₁ (mkF m 0 #[.val (.ref s1)] [])
  refine Go.of (fun _ hr => XS.aloadN X0.here hx rfl (hb hby d14_0) rfl rfl hr) ?_
  show Go p e s below _ _ _ _ s₁ (mkF m 1 #[.val (.ref s1)] [(.ref s1)])
  obtain ⟨_, b101, T101, h101, L101, e101, Cc101, X101, B101, J101, g101, hQ101, st101⟩ := own_callR Cc B0 J0 X0 (y := (⟨"java/lang/String", "indexOfNonWhitespace", "()I"⟩ : MethodName)) (hw _ (List.mem_of_getElem? (i := 73) rfl)) (hw _ (List.mem_of_getElem? (i := 74) rfl)) (hw _ (List.mem_of_getElem? (i := 76) rfl)) (hw _ (List.mem_of_getElem? (i := 75) rfl)) (hw _ (List.mem_of_getElem? (i := 10) rfl)) (hw _ (List.mem_of_getElem? (i := 77) rfl)) (by decide) Es1 (rm15 l Z a0 hw [] s1 t1 _ b1 zc _ h0 n0 O0 h0.size (own_ole O0) K0.1 wi wa ka S_I E_I S_A V_A Es1 Fv1 Fc1 V1 hn1 hnk S_C hzc) e0 (g := (mkF m 1 #[.val (.ref s1)] [(.ref s1)])) rfl (by rw [hml]; rfl) (argsL := []) (rest := []) (lenOf pd12 rfl) rfl (W := 0) (by show 2 * 0 + _ ≤ _; exact Nat.le_of_eq rfl) (hb hby d14_1) (by decide) (by decide) (by decide) (by decide)
  obtain ⟨r101, rl101, rfl, Nq101, hh101⟩ := hQ101
  have N101 := Fr.app N0 Nq101
  obtain ⟨hx, hZ, hown, hby, hml, hnm, hret, hlk⟩ := id Cc101
  rw [hh101] at e101 B101 J101
  refine Go.of st101 ?_
  show Go p e s below _ _ _ _ T101 (mkF m 4 #[.val (.ref s1)] [(.int (Int32.ofNat r101))])
  refine Go.of (fun _ hr => XS.aloadN X101.here hx rfl (hb hby d14_4) rfl rfl hr) ?_
  show Go p e s below _ _ _ _ T101 (mkF m 5 #[.val (.ref s1)] [(.ref s1), (.int (Int32.ofNat r101))])
  obtain ⟨_, b102, T102, h102, L102, e102, Cc102, X102, B102, J102, g102, hQ102, st102⟩ := own_callV Cc101 B101 J101 X101 (hw _ (List.mem_of_getElem? (i := 103) rfl)) (hw _ (List.mem_of_getElem? (i := 104) rfl)) (notFace_of_selects (args := #[]) (mvT hZ (hw _ (List.mem_of_getElem? (i := 106) rfl)))) (hw _ (List.mem_of_getElem? (i := 106) rfl)) (hw _ (List.mem_of_getElem? (i := 105) rfl)) (hw _ (List.mem_of_getElem? (i := 10) rfl)) (hw _ (List.mem_of_getElem? (i := 107) rfl)) (by decide) Es1 (rm21 l Z a0 hw [] s1 t1 _ b1 zc _ h0 n0 O0 h0.size (own_ole O0) K0.1 Es1 Fv1 Fc1 V1 hn1 S_C hzc) e101 (g := (mkF m 5 #[.val (.ref s1)] [(.ref s1), (.int (Int32.ofNat r101))])) rfl (by rw [hml]; rfl) (argsL := []) (rest := [(.int (Int32.ofNat r101))]) (lenOf pd12 rfl) rfl (W := 1) (by show 2 * 0 + _ ≤ _; exact Nat.le_of_eq rfl) (hb hby d14_5) (by decide) (by decide) (by decide) (by decide)
  obtain ⟨rfl, Nq102, hh102⟩ := hQ102
  have N102 := Fr.app N101 Nq102
  obtain ⟨hx, hZ, hown, hby, hml, hnm, hret, hlk⟩ := id Cc102
  rw [hh102] at e102 B102 J102
  refine Go.of st102 ?_
  show Go p e s below _ _ _ _ T102 (mkF m 8 #[.val (.ref s1)] [(.int (Int32.ofNat b1.length)), (.int (Int32.ofNat r101))])
  refine Go.of (fun _ hr => XS.icmpYes X102.here hx rfl (pc0 := 8) (pc' := 15) rfl (hb hby d14_8) rfl (feq (fun q => by have := oi_inj (by omega) (by omega) q; omega)).2 (by decide) (by decide) hr) ?_
  show Go p e s below _ _ _ _ T102 (mkF m 15 #[.val (.ref s1)] [])
  refine Go.of (fun _ hr => XS.iconst X102.here hx rfl (hb hby d14_15) hr) ?_
  show Go p e s below _ _ _ _ T102 (mkF m 16 #[.val (.ref s1)] [(.int (0 : Int32))])
  exact Go.retN X102 hx hlk B102 J102 e102 (t := .boolean) (z' := (0 : Int32)) hret (by simp) (hb hby d14_16) rfl (by decide) (by decide) (fun vm_ hw_ => ⟨rfl, (fun y hy => Nat.le_trans hnb (N102 y hy)), rfl⟩)

theorem pn8 : plainName "java/util/Objects" = true := by first | (simp [plainName, overriddenIn]; done) | decide +kernel
theorem d13_0 : decode jdk_31_method_16_code 0 = .ok (.aload_n 0, 1) := by decide +kernel
theorem d13_1 : decode jdk_31_method_16_code 1 = .ok (.ifnonnull 28, 3) := by decide +kernel
theorem d13_29 : decode jdk_31_method_16_code 29 = .ok (.aload_n 0, 1) := by decide +kernel
theorem d13_30 : decode jdk_31_method_16_code 30 = .ok (.areturn, 1) := by decide +kernel
set_option maxRecDepth 65536 in
set_option maxHeartbeats 40000000 in
theorem rm13 (l : Launch) (Z : State) (a0 : Array Value) (hw : ∀ d ∈ tables_1, d.before a0 Z = true) (ws : List Jvm.Cond) (a1 a2 : Addr) (ms : List Addr) (h0 : Heap) (n0 : Nat) (O0 : Old Z n0 h0) (nb : Nat) (hb0 : n0 ≤ nb) (hnb : nb ≤ h0.size) :
    Con l Z ms (⟨"java/util/Objects", "requireNonNull", "(Ljava/lang/Object;Ljava/util/function/Supplier;)Ljava/lang/Object;"⟩ : MethodName) jdk_31_method_16_code 2 (some (.object "java/lang/Object")) ws ({ frames := 0, cells := 0, slots := 0, locals := 0 } : Room) #[(.ref a1), (.ref a2)] h0 (fun v vm h L => v = some (.ref a1) ∧ Fr nb L ∧ h = h0) := by
  refine Con.mk (plainFor_of_name pn8) ?_
  intro p e s m below meth c s₁ Cc X0 e0 eb J0 B0 M0
  obtain ⟨hx, hZ, hown, hby, hml, hnm, hret, hlk⟩ := id Cc
  have N0 := Fr.nil h0.size
  have K0 := Keep.refl h0 []
  show Go p e s below _ _ _ _ s₁ (mkF m 0 #[.val (.ref a1), .val (.ref a2)] [])
  refine Go.of (fun _ hr => XS.aloadN X0.here hx rfl (hb hby d13_0) rfl rfl hr) ?_
  show Go p e s below _ _ _ _ s₁ (mkF m 1 #[.val (.ref a1), .val (.ref a2)] [(.ref a1)])
  refine Go.of (fun _ hr => XS.ifnonnullYes X0.here hx rfl (pc0 := 1) (pc' := 29) rfl (hb hby d13_1) rfl (by decide) (by decide) hr) ?_
  show Go p e s below _ _ _ _ s₁ (mkF m 29 #[.val (.ref a1), .val (.ref a2)] [])
  refine Go.of (fun _ hr => XS.aloadN X0.here hx rfl (hb hby d13_29) rfl rfl hr) ?_
  show Go p e s below _ _ _ _ s₁ (mkF m 30 #[.val (.ref a1), .val (.ref a2)] [(.ref a1)])
  exact Go.retA X0 hx hlk B0 J0 e0 hret rfl rfl (hb hby d13_30) (by decide) (by decide) (fun vm_ hw_ => ⟨rfl, (fun y hy => Nat.le_trans hnb (N0 y hy)), rfl⟩)

theorem pn9 : plainName "com/example/grid_job_scheduler/gridjobscheduler/Keys" = true := by first | (simp [plainName, overriddenIn]; done) | decide +kernel
theorem d12_0 : decode prog_20_method_3_code 0 = .ok (.aload_n 2, 1) := by decide +kernel
theorem d12_1 : decode prog_20_method_3_code 1 = .ok (.aload_n 0, 1) := by decide +kernel
theorem d12_2 : decode prog_20_method_3_code 2 = .ok (.aload_n 1, 1) := by decide +kernel
theorem d12_3 : decode prog_20_method_3_code 3 = .ok (.invokedynamic 17, 5) := by decide +kernel
theorem d12_8 : decode prog_20_method_3_code 8 = .ok (.invokestatic 21, 3) := by decide +kernel
theorem pd23 : parseMethodDescriptor "(Ljava/lang/Object;Ljava/util/function/Supplier;)Ljava/lang/Object;" = some ⟨[(.object "java/lang/Object"), (.object "java/util/function/Supplier")], some (.object "java/lang/Object")⟩ := by decide +kernel
theorem d12_11 : decode prog_20_method_3_code 11 = .ok (.pop, 1) := by decide +kernel
theorem d12_12 : decode prog_20_method_3_code 12 = .ok (.aload_n 2, 1) := by decide +kernel
theorem d12_13 : decode prog_20_method_3_code 13 = .ok (.invokevirtual 27, 3) := by decide +kernel
theorem d12_16 : decode prog_20_method_3_code 16 = .ok (.ifCond .eq 39, 3) := by decide +kernel
theorem d12_55 : decode prog_20_method_3_code 55 = .ok (.return_, 1) := by decide +kernel
set_option maxRecDepth 65536 in
set_option maxHeartbeats 40000000 in
theorem rm12 (l : Launch) (Z : State) (a0 : Array Value) (hw : ∀ d ∈ tables_1, d.before a0 Z = true) (ws : List Jvm.Cond) (x1 x2 : Addr) (s1 t1 : Addr) (k1 : ClassId) (b1 : List Int32) (zc : Int32) (ms : List Addr) (h0 : Heap) (n0 : Nat) (O0 : Old Z n0 h0) (nb : Nat) (hb0 : n0 ≤ nb) (hnb : nb ≤ h0.size) (wi wa : Addr) (ka : ClassId) (S_I : Sta Z Z.heap "java/lang/CharacterDataLatin1" "instance" "Ljava/lang/CharacterDataLatin1;" (.ref wi)) (E_I : Exa Z Z.heap wi "java/lang/CharacterDataLatin1") (S_A : Sta Z Z.heap "java/lang/CharacterDataLatin1" "A" "[I" (.ref wa)) (V_A : Arv Z Z.heap wa ka .int 256 (tabA.map Value.int) (.int 0)) (Es1 : Exa Z h0 s1 "java/lang/String") (Fv1 : Fld Z h0 s1 "java/lang/String" "value" "[B" (.ref t1)) (Fc1 : Fld Z h0 s1 "java/lang/String" "coder" "B" (.int 0)) (V1 : Arv Z h0 t1 k1 .byte (Int32.ofNat b1.length) (b1.map Value.int) (.int 0)) (hn1 : b1.length ≤ 1000) (hb1 : ∃ j, j < b1.length ∧ ¬ spV (chV b1 (Int32.ofNat j))) (S_C : Sta Z Z.heap "java/lang/String" "COMPACT_STRINGS" "Z" (.int zc)) (hzc : ¬ zc = 0) :
    Con l Z ms (⟨"com/example/grid_job_scheduler/gridjobscheduler/Keys", "requireNotBlank", "(Ljava/lang/String;Ljava/lang/String;Ljava/lang/String;)V"⟩ : MethodName) prog_20_method_3_code 3 none ws ({ frames := 5, cells := 1, slots := 2, locals := 3080 } : Room) #[(.ref x1), (.ref x2), (.ref s1)] h0 (fun v vm h L => v = none ∧ Fr nb L ∧ Ext h0 h) := by
  refine Con.mk (plainFor_of_name pn9) ?_
  intro p e s m below meth c s₁ Cc X0 e0 eb J0 B0 M0
  obtain ⟨hx, hZ, hown, hby, hml, hnm, hret, hlk⟩ := id Cc
  have N0 := Fr.nil h0.size
  have K0 := Keep.refl h0 []
  show Go p e s below _ _ _ _ s₁ (mkF m 0 #[.val (.ref x1), .val (.ref x2), .val (.ref s1)] [])
  refine Go.of (fun _ hr => XS.aloadN X0.here hx rfl (hb hby d12_0) rfl rfl hr) ?_
  show Go p e s below _ _ _ _ s₁ (mkF m 1 #[.val (.ref x1), .val (.ref x2), .val (.ref s1)] [(.ref s1)])
  refine Go.of (fun _ hr => XS.aloadN X0.here hx rfl (hb hby d12_1) rfl rfl hr) ?_
  show Go p e s below _ _ _ _ s₁ (mkF m 2 #[.val (.ref x1), .val (.ref x2), .val (.ref s1)] [(.ref x1), (.ref s1)])
  refine Go.of (fun _ hr => XS.aloadN X0.here hx rfl (hb hby d12_2) rfl rfl hr) ?_
  show Go p e s below _ _ _ _ s₁ (mkF m 3 #[.val (.ref x1), .val (.ref x2), .val (.ref s1)] [(.ref x2), (.ref x1), (.ref s1)])
  obtain ⟨T101, h101, X101, e101, E101, st101⟩ := own_indy X0 hx hZ M0 (hw _ (List.mem_of_getElem? (i := 60) rfl)) ⟨⟨by decide +kernel, rfl, rfl⟩, rfl⟩ (hw _ (List.mem_of_getElem? (i := 63) rfl)) e0 (g := (mkF m 3 #[.val (.ref x1), .val (.ref x2), .val (.ref s1)] [(.ref x2), (.ref x1), (.ref s1)])) rfl (by rw [hml]; rfl) (hb hby d12_3) (a := x1) (b := x2) (rest := [(.ref s1)]) rfl rfl (Nat.le_of_ble_eq_true rfl) (by decide) (by decide)
  have K101 := K0.ext E101
  have O101 := O0.ext E101
  have J101 := J0.ext E101
  have B101 := B0.mono E101.1
  obtain ⟨o101, g101⟩ : ∃ z, z = h0.size := ⟨_, rfl⟩
  rw [← g101] at st101
  refine Go.of (fun _ hr => st101 _ hr) ?_
  show Go p e s below _ _ _ _ T101 (mkF m 8 #[.val (.ref x1), .val (.ref x2), .val (.ref s1)] [(.ref o101), (.ref s1)])
  obtain ⟨_, b102, T102, h102, L102, e102, Cc102, X102, B102, J102, g102, hQ102, st102⟩ := own_callS Cc B101 J101 X101 (hw _ (List.mem_of_getElem? (i := 64) rfl)) (hw _ (List.mem_of_getElem? (i := 65) rfl)) (hw _ (List.mem_of_getElem? (i := 66) rfl)) (hw _ (List.mem_of_getElem? (i := 67) rfl)) (by decide) (rm13 l Z a0 hw [] s1 o101 _ h101 n0 O101 h0.size (own_ole O0) K101.1) e101 (g := (mkF m 8 #[.val (.ref x1), .val (.ref x2), .val (.ref s1)] [(.ref o101), (.ref s1)])) rfl (by rw [hml]; rfl) (argsL := [(.ref s1), (.ref o101)]) (rest := []) (lenOf pd23 rfl) rfl (W := 0) (by show 2 * 0 + _ ≤ _; exact Nat.le_of_eq rfl) (hb hby d12_8) (by decide) (by decide) (by decide) (by decide)
  obtain ⟨rfl, Nq102, hh102⟩ := hQ102
  have N102 := Fr.app N0 Nq102
  obtain ⟨hx, hZ, hown, hby, hml, hnm, hret, hlk⟩ := id Cc102
  rw [hh102] at e102 B102 J102
  refine Go.of st102 ?_
  show Go p e s below _ _ _ _ T102 (mkF m 11 #[.val (.ref x1), .val (.ref x2), .val (.ref s1)] [(.ref s1)])
  refine Go.of (fun _ hr => XS.pop X102.here hx rfl (hb hby d12_11) rfl rfl hr) ?_
  show Go p e s below _ _ _ _ T102 (mkF m 12 #[.val (.ref x1), .val (.ref x2), .val (.ref s1)] [])
  refine Go.of (fun _ hr => XS.aloadN X102.here hx rfl (hb hby d12_12) rfl rfl hr) ?_
  show Go p e s below _ _ _ _ T102 (mkF m 13 #[.val (.ref x1), .val (.ref x2), .val (.ref s1)] [(.ref s1)])
  have f104 := (Es1.ext E101)
  have f105 := (Fv1.ext E101)
  have f106 := (Fc1.ext E101)
  have f107 := (V1.ext E101)
  obtain ⟨_, b103, T103, h103, L103, e103, Cc103, X103, B103, J103, g103, hQ103, st103⟩ := own_callV Cc102 B102 J102 X102 (hw _ (List.mem_of_getElem? (i := 68) rfl)) (hw _ (List.mem_of_getElem? (i := 69) rfl)) (notFace_of_selects (args := #[]) (mvT hZ (hw _ (List.mem_of_getElem? (i := 71) rfl)))) (hw _ (List.mem_of_getElem? (i := 71) rfl)) (hw _ (List.mem_of_getElem? (i := 70) rfl)) (hw _ (List.mem_of_getElem? (i := 10) rfl)) (hw _ (List.mem_of_getElem? (i := 72) rfl)) (by decide) f104 (rm14 l Z a0 hw [] s1 t1 _ b1 zc _ h101 n0 O101 h0.size (own_ole O0) K101.1 wi wa ka S_I E_I S_A V_A f104 f105 f106 f107 hn1 hb1 S_C hzc) e102 (g := (mkF m 13 #[.val (.ref x1), .val (.ref x2), .val (.ref s1)] [(.ref s1)])) rfl (by rw [hml]; rfl) (argsL := []) (rest := []) (lenOf pd7 rfl) rfl (W := 0) (by show 2 * 0 + _ ≤ _; exact Nat.le_of_eq rfl) (hb hby d12_13) (by decide) (by decide) (by decide) (by decide)
  obtain ⟨rfl, Nq103, hh103⟩ := hQ103
  have N103 := Fr.app N102 Nq103
  obtain ⟨hx, hZ, hown, hby, hml, hnm, hret, hlk⟩ := id Cc103
  rw [hh103] at e103 B103 J103
  refine Go.of st103 ?_
  show Go p e s below _ _ _ _ T103 (mkF m 16 #[.val (.ref x1), .val (.ref x2), .val (.ref s1)] [(.int (0 : Int32))])
  refine Go.of (fun _ hr => XS.ifYes X103.here hx rfl (pc0 := 16) (pc' := 55) rfl (hb hby d12_16) rfl ((if0 _ _).trans (teq (by decide : ((0 : Int32) = (0 : Int32)))).1) (by decide) (by decide) hr) ?_
  show Go p e s below _ _ _ _ T103 (mkF m 55 #[.val (.ref x1), .val (.ref x2), .val (.ref s1)] [])
  exact Go.retV X103 hx hlk B103 J103 e103 hret (hb hby d12_55) (by decide) (by decide) (fun vm_ hw_ => ⟨rfl, (fun y hy => Nat.le_trans hnb (N103 y hy)), keep_ext K101⟩)

theorem d11_0 : decode prog_20_method_2_code 0 = .ok (.aload_n 0, 1) := by decide +kernel
theorem d11_1 : decode prog_20_method_2_code 1 = .ok (.ldc 7, 2) := by decide +kernel
theorem d11_3 : decode prog_20_method_2_code 3 = .ok (.aload_n 1, 1) := by decide +kernel
theorem d11_4 : decode prog_20_method_2_code 4 = .ok (.invokestatic 9, 3) := by decide +kernel
theorem pd24 : parseMethodDescriptor "(Ljava/lang/String;Ljava/lang/String;Ljava/lang/String;)V" = some ⟨[(.object "java/lang/String"), (.object "java/lang/String"), (.object "java/lang/String")], none⟩ := by decide +kernel
theorem d11_7 : decode prog_20_method_2_code 7 = .ok (.aload_n 0, 1) := by decide +kernel
theorem d11_8 : decode prog_20_method_2_code 8 = .ok (.ldc 15, 2) := by decide +kernel
theorem d11_10 : decode prog_20_method_2_code 10 = .ok (.aload_n 2, 1) := by decide +kernel
theorem d11_11 : decode prog_20_method_2_code 11 = .ok (.invokestatic 9, 3) := by decide +kernel
theorem d11_14 : decode prog_20_method_2_code 14 = .ok (.return_, 1) := by decide +kernel
set_option maxRecDepth 65536 in
set_option maxHeartbeats 40000000 in
theorem rm11 (l : Launch) (Z : State) (a0 : Array Value) (hw : ∀ d ∈ tables_1, d.before a0 Z = true) (ws : List Jvm.Cond) (x1 : Addr) (s1 t1 : Addr) (k1 : ClassId) (b1 : List Int32) (s2 t2 : Addr) (k2 : ClassId) (b2 : List Int32) (zc : Int32) (ms : List Addr) (h0 : Heap) (n0 : Nat) (O0 : Old Z n0 h0) (nb : Nat) (hb0 : n0 ≤ nb) (hnb : nb ≤ h0.size) (wi wa : Addr) (ka : ClassId) (S_I : Sta Z Z.heap "java/lang/CharacterDataLatin1" "instance" "Ljava/lang/CharacterDataLatin1;" (.ref wi)) (E_I : Exa Z Z.heap wi "java/lang/CharacterDataLatin1") (S_A : Sta Z Z.heap "java/lang/CharacterDataLatin1" "A" "[I" (.ref wa)) (V_A : Arv Z Z.heap wa ka .int 256 (tabA.map Value.int) (.int 0)) (Es1 : Exa Z h0 s1 "java/lang/String") (Fv1 : Fld Z h0 s1 "java/lang/String" "value" "[B" (.ref t1)) (Fc1 : Fld Z h0 s1 "java/lang/String" "coder" "B" (.int 0)) (V1 : Arv Z h0 t1 k1 .byte (Int32.ofNat b1.length) (b1.map Value.int) (.int 0)) (hn1 : b1.length ≤ 1000) (Es2 : Exa Z h0 s2 "java/lang/String") (Fv2 : Fld Z h0 s2 "java/lang/String" "value" "[B" (.ref t2)) (Fc2 : Fld Z h0 s2 "java/lang/String" "coder" "B" (.int 0)) (V2 : Arv Z h0 t2 k2 .byte (Int32.ofNat b2.length) (b2.map Value.int) (.int 0)) (hn2 : b2.length ≤ 1000) (hb1 : ∃ j, j < b1.length ∧ ¬ spV (chV b1 (Int32.ofNat j))) (hb2 : ∃ j, j < b2.length ∧ ¬ spV (chV b2 (Int32.ofNat j))) (S_C : Sta Z Z.heap "java/lang/String" "COMPACT_STRINGS" "Z" (.int zc)) (hzc : ¬ zc = 0) :
    Con l Z ms (⟨"com/example/grid_job_scheduler/gridjobscheduler/Keys", "requireGroupAndName", "(Ljava/lang/String;Ljava/lang/String;Ljava/lang/String;)V"⟩ : MethodName) prog_20_method_2_code 3 none ws ({ frames := 6, cells := 6, slots := 60, locals := 3094 } : Room) #[(.ref x1), (.ref s1), (.ref s2)] h0 (fun v vm h L => v = none ∧ Fr nb L ∧ Ext h0 h) := by
  refine Con.mk (plainFor_of_name pn9) ?_
  intro p e s m below meth c s₁ Cc X0 e0 eb J0 B0 M0
  obtain ⟨hx, hZ, hown, hby, hml, hnm, hret, hlk⟩ := id Cc
  have N0 := Fr.nil h0.size
  have K0 := Keep.refl h0 []
  show Go p e s below _ _ _ _ s₁ (mkF m 0 #[.val (.ref x1), .val (.ref s1), .val (.ref s2)] [])
  refine Go.of (fun _ hr => XS.aloadN X0.here hx rfl (hb hby d11_0) rfl rfl hr) ?_
  show Go p e s below _ _ _ _ s₁ (mkF m 1 #[.val (.ref x1), .val (.ref s1), .val (.ref s2)] [(.ref x1)])
  obtain ⟨o101, t101, k101, b101, T101, h101, e101, Cc101, X101, B101, J101, E101, Sy101, na101, nt101, lt101, st101⟩ := own_ldcV Cc B0 J0 X0 lit1_in lit1_one (hw _ (List.mem_of_getElem? (i := 56) rfl)) (own_wS Z a0 hw) lit1_lat lit1_len (by rw [eb]; exact N0) (by rw [eb]; exact O0.2) e0 (g := (mkF m 1 #[.val (.ref x1), .val (.ref s1), .val (.ref s2)] [(.ref x1)])) rfl (hb hby d11_1) (n := 20) lit1_sz (by decide) (by decide) (by decide)
  obtain ⟨hx, hZ, hown, hby, hml, hnm, hret, hlk⟩ := id Cc101
  have K101 := K0.ext E101
  have O101 := O0.ext E101
  refine Go.of (fun _ hr => st101 _ hr) ?_
  show Go p e s below _ _ _ _ T101 (mkF m 3 #[.val (.ref x1), .val (.ref s1), .val (.ref s2)] [(.ref o101), (.ref x1)])
  refine Go.of (fun _ hr => XS.aloadN X101.here hx rfl (hb hby d11_3) rfl rfl hr) ?_
  show Go p e s below _ _ _ _ T101 (mkF m 4 #[.val (.ref x1), .val (.ref s1), .val (.ref s2)] [(.ref s1), (.ref o101), (.ref x1)])
  have f103 := (Es1.ext E101)
  have f104 := (Fv1.ext E101)
  have f105 := (Fc1.ext E101)
  have f106 := (V1.ext E101)
  obtain ⟨_, b102, T102, h102, L102, e102, Cc102, X102, B102, J102, g102, hQ102, st102⟩ := own_callS Cc101 B101 J101 X101 (hw _ (List.mem_of_getElem? (i := 57) rfl)) (hw _ (List.mem_of_getElem? (i := 58) rfl)) (hw _ (List.mem_of_getElem? (i := 54) rfl)) (hw _ (List.mem_of_getElem? (i := 59) rfl)) (by decide) (rm12 l Z a0 hw [] x1 o101 s1 t1 _ b1 zc _ h101 n0 O101 h0.size (own_ole O0) K101.1 wi wa ka S_I E_I S_A V_A f103 f104 f105 f106 hn1 hb1 S_C hzc) e101 (g := (mkF m 4 #[.val (.ref x1), .val (.ref s1), .val (.ref s2)] [(.ref s1), (.ref o101), (.ref x1)])) rfl (by rw [hml]; rfl) (argsL := [(.ref x1), (.ref o101), (.ref s1)]) (rest := []) (lenOf pd24 rfl) rfl (W := 0) (by show 2 * 0 + _ ≤ _; exact Nat.le_of_eq rfl) (hb hby d11_4) (by decide) (by decide) (by decide) (by decide)
  obtain ⟨rfl, Nq102, Eq102⟩ := hQ102
  have N102 := Fr.app N0 Nq102
  obtain ⟨hx, hZ, hown, hby, hml, hnm, hret, hlk⟩ := id Cc102
  have K102 := K101.ext Eq102
  have O102 := O101.ext Eq102
  refine Go.of st102 ?_
  show Go p e s below _ _ _ _ T102 (mkF m 7 #[.val (.ref x1), .val (.ref s1), .val (.ref s2)] [])
  refine Go.of (fun _ hr => XS.aloadN X102.here hx rfl (hb hby d11_7) rfl rfl hr) ?_
  show Go p e s below _ _ _ _ T102 (mkF m 8 #[.val (.ref x1), .val (.ref s1), .val (.ref s2)] [(.ref x1)])
  obtain ⟨o107, t107, k107, b107, T107, h107, e107, Cc107, X107, B107, J107, E107, Sy107, na107, nt107, lt107, st107⟩ := own_ldcV Cc102 B102 J102 X102 lit2_in lit2_one (hw _ (List.mem_of_getElem? (i := 113) rfl)) (own_wS Z a0 hw) lit2_lat lit2_len (by rw [eb]; exact N102) (by rw [eb]; exact O0.2) e102 (g := (mkF m 8 #[.val (.ref x1), .val (.ref s1), .val (.ref s2)] [(.ref x1)])) rfl (hb hby d11_8) (n := 16) lit2_sz (by decide) (by decide) (by decide)
  obtain ⟨hx, hZ, hown, hby, hml, hnm, hret, hlk⟩ := id Cc107
  have K107 := K102.ext E107
  have O107 := O102.ext E107
  refine Go.of (fun _ hr => st107 _ hr) ?_
  show Go p e s below _ _ _ _ T107 (mkF m 10 #[.val (.ref x1), .val (.ref s1), .val (.ref s2)] [(.ref o107), (.ref x1)])
  refine Go.of (fun _ hr => XS.aloadN X107.here hx rfl (hb hby d11_10) rfl rfl hr) ?_
  show Go p e s below _ _ _ _ T107 (mkF m 11 #[.val (.ref x1), .val (.ref s1), .val (.ref s2)] [(.ref s2), (.ref o107), (.ref x1)])
  have f109 := (((Es2.ext E101).ext Eq102).ext E107)
  have f110 := (((Fv2.ext E101).ext Eq102).ext E107)
  have f111 := (((Fc2.ext E101).ext Eq102).ext E107)
  have f112 := (((V2.ext E101).ext Eq102).ext E107)
  obtain ⟨_, b108, T108, h108, L108, e108, Cc108, X108, B108, J108, g108, hQ108, st108⟩ := own_callS Cc107 B107 J107 X107 (hw _ (List.mem_of_getElem? (i := 57) rfl)) (hw _ (List.mem_of_getElem? (i := 58) rfl)) (hw _ (List.mem_of_getElem? (i := 54) rfl)) (hw _ (List.mem_of_getElem? (i := 59) rfl)) (by decide) (rm12 l Z a0 hw [] x1 o107 s2 t2 _ b2 zc _ h107 n0 O107 h0.size (own_ole O0) K107.1 wi wa ka S_I E_I S_A V_A f109 f110 f111 f112 hn2 hb2 S_C hzc) e107 (g := (mkF m 11 #[.val (.ref x1), .val (.ref s1), .val (.ref s2)] [(.ref s2), (.ref o107), (.ref x1)])) rfl (by rw [hml]; rfl) (argsL := [(.ref x1), (.ref o107), (.ref s2)]) (rest := []) (lenOf pd24 rfl) rfl (W := 0) (by show 2 * 0 + _ ≤ _; exact Nat.le_of_eq rfl) (hb hby d11_11) (by decide) (by decide) (by decide) (by decide)
  obtain ⟨rfl, Nq108, Eq108⟩ := hQ108
  have N108 := Fr.app N102 Nq108
  obtain ⟨hx, hZ, hown, hby, hml, hnm, hret, hlk⟩ := id Cc108
  have K108 := K107.ext Eq108
  have O108 := O107.ext Eq108
  refine Go.of st108 ?_
  show Go p e s below _ _ _ _ T108 (mkF m 14 #[.val (.ref x1), .val (.ref s1), .val (.ref s2)] [])
  exact Go.retV X108 hx hlk B108 J108 e108 hret (hb hby d11_14) (by decide) (by decide) (fun vm_ hw_ => ⟨rfl, (fun y hy => Nat.le_trans hnb (N108 y hy)), keep_ext K108⟩)

theorem pn10 : plainName "java/lang/Record" = true := by first | (simp [plainName, overriddenIn]; done) | decide +kernel
theorem d10_0 : decode jdk_30_method_1_code 0 = .ok (.aload_n 0, 1) := by decide +kernel
theorem d10_1 : decode jdk_30_method_1_code 1 = .ok (.invokespecial 1, 3) := by decide +kernel
theorem d10_4 : decode jdk_30_method_1_code 4 = .ok (.return_, 1) := by decide +kernel
set_option maxRecDepth 65536 in
set_option maxHeartbeats 40000000 in
theorem rm10 (l : Launch) (Z : State) (a0 : Array Value) (hw : ∀ d ∈ tables_1, d.before a0 Z = true) (ws : List Jvm.Cond) (a1 : Addr) (ms : List Addr) (h0 : Heap) (n0 : Nat) (O0 : Old Z n0 h0) (nb : Nat) (hb0 : n0 ≤ nb) (hnb : nb ≤ h0.size) :
    Con l Z ms (⟨"java/lang/Record", "<init>", "()V"⟩ : MethodName) jdk_30_method_1_code 1 none ws ({ frames := 1, cells := 0, slots := 0, locals := 12 } : Room) #[(.ref a1)] h0 (fun v vm h L => v = none ∧ Fr nb L ∧ h = h0) := by
  refine Con.mk (plainFor_of_name pn10) ?_
  intro p e s m below meth c s₁ Cc X0 e0 eb J0 B0 M0
  obtain ⟨hx, hZ, hown, hby, hml, hnm, hret, hlk⟩ := id Cc
  have N0 := Fr.nil h0.size
  have K0 := Keep.refl h0 []
  show Go p e s below _ _ _ _ s₁ (mkF m 0 #[.val (.ref a1)] [])
  refine Go.of (fun _ hr => XS.aloadN X0.here hx rfl (hb hby d10_0) rfl rfl hr) ?_
  show Go p e s below _ _ _ _ s₁ (mkF m 1 #[.val (.ref a1)] [(.ref a1)])
  obtain ⟨T101, X101, e101, st101⟩ := initO X0 hx hZ hown (hw _ (List.mem_of_getElem? (i := 48) rfl)) (hw _ (List.mem_of_getElem? (i := 19) rfl)) (hw _ (List.mem_of_getElem? (i := 20) rfl)) e0 (g := (mkF m 1 #[.val (.ref a1)] [(.ref a1)])) rfl (by rw [hml]; rfl) rfl (hb hby d10_1) (by decide) (W := 0) (by show 2 * 0 + _ ≤ _; exact Nat.le_of_eq rfl) (by decide)
  refine Go.of (fun _ hr => st101 _ hr) ?_
  show Go p e s below _ _ _ _ T101 (mkF m 4 #[.val (.ref a1)] [])
  exact Go.retV X101 hx hlk B0 J0 e101 hret (hb hby d10_4) (by decide) (by decide) (fun vm_ hw_ => ⟨rfl, (fun y hy => Nat.le_trans hnb (N0 y hy)), rfl⟩)

theorem pn11 : plainName "com/example/grid_job_scheduler/gridjobscheduler/TriggerKey" = true := by first | (simp [plainName, overriddenIn]; done) | decide +kernel
theorem d9_0 : decode prog_39_method_1_code 0 = .ok (.aload_n 0, 1) := by decide +kernel
theorem d9_1 : decode prog_39_method_1_code 1 = .ok (.invokespecial 3, 3) := by decide +kernel
theorem pd25 : parseMethodDescriptor "()V" = some ⟨[], none⟩ := by decide +kernel
theorem d9_4 : decode prog_39_method_1_code 4 = .ok (.ldc 9, 2) := by decide +kernel
theorem d9_6 : decode prog_39_method_1_code 6 = .ok (.aload_n 1, 1) := by decide +kernel
theorem d9_7 : decode prog_39_method_1_code 7 = .ok (.aload_n 2, 1) := by decide +kernel
theorem d9_8 : decode prog_39_method_1_code 8 = .ok (.invokestatic 11, 3) := by decide +kernel
theorem d9_11 : decode prog_39_method_1_code 11 = .ok (.aload_n 0, 1) := by decide +kernel
theorem d9_12 : decode prog_39_method_1_code 12 = .ok (.aload_n 1, 1) := by decide +kernel
theorem d9_13 : decode prog_39_method_1_code 13 = .ok (.putfield 15, 3) := by decide +kernel
theorem d9_16 : decode prog_39_method_1_code 16 = .ok (.aload_n 0, 1) := by decide +kernel
theorem d9_17 : decode prog_39_method_1_code 17 = .ok (.aload_n 2, 1) := by decide +kernel
theorem d9_18 : decode prog_39_method_1_code 18 = .ok (.putfield 21, 3) := by decide +kernel
theorem d9_21 : decode prog_39_method_1_code 21 = .ok (.return_, 1) := by decide +kernel
set_option maxRecDepth 65536 in
set_option maxHeartbeats 40000000 in
theorem rm9 (l : Launch) (Z : State) (a0 : Array Value) (hw : ∀ d ∈ tables_1, d.before a0 Z = true) (ws : List Jvm.Cond) (a1 : Addr) (u1 u2 : Value) (s1 t1 : Addr) (k1 : ClassId) (b1 : List Int32) (s2 t2 : Addr) (k2 : ClassId) (b2 : List Int32) (zc : Int32) (ms : List Addr) (h0 : Heap) (n0 : Nat) (O0 : Old Z n0 h0) (nb : Nat) (hb0 : n0 ≤ nb) (hnb : nb ≤ h0.size) (fr_a1 : nb ≤ a1) (hm_a1 : a1 ∈ ms) (wi wa : Addr) (ka : ClassId) (S_I : Sta Z Z.heap "java/lang/CharacterDataLatin1" "instance" "Ljava/lang/CharacterDataLatin1;" (.ref wi)) (E_I : Exa Z Z.heap wi "java/lang/CharacterDataLatin1") (S_A : Sta Z Z.heap "java/lang/CharacterDataLatin1" "A" "[I" (.ref wa)) (V_A : Arv Z Z.heap wa ka .int 256 (tabA.map Value.int) (.int 0)) (E1 : Exa Z h0 a1 "com/example/grid_job_scheduler/gridjobscheduler/TriggerKey") (F1 : Fld Z h0 a1 "com/example/grid_job_scheduler/gridjobscheduler/TriggerKey" "group" "Ljava/lang/String;" u1) (F2 : Fld Z h0 a1 "com/example/grid_job_scheduler/gridjobscheduler/TriggerKey" "name" "Ljava/lang/String;" u2) (Es1 : Exa Z h0 s1 "java/lang/String") (Fv1 : Fld Z h0 s1 "java/lang/String" "value" "[B" (.ref t1)) (Fc1 : Fld Z h0 s1 "java/lang/String" "coder" "B" (.int 0)) (V1 : Arv Z h0 t1 k1 .byte (Int32.ofNat b1.length) (b1.map Value.int) (.int 0)) (hn1 : b1.length ≤ 1000) (Es2 : Exa Z h0 s2 "java/lang/String") (Fv2 : Fld Z h0 s2 "java/lang/String" "value" "[B" (.ref t2)) (Fc2 : Fld Z h0 s2 "java/lang/String" "coder" "B" (.int 0)) (V2 : Arv Z h0 t2 k2 .byte (Int32.ofNat b2.length) (b2.map Value.int) (.int 0)) (hn2 : b2.length ≤ 1000) (hb1 : ∃ j, j < b1.length ∧ ¬ spV (chV b1 (Int32.ofNat j))) (hb2 : ∃ j, j < b2.length ∧ ¬ spV (chV b2 (Int32.ofNat j))) (S_C : Sta Z Z.heap "java/lang/String" "COMPACT_STRINGS" "Z" (.int zc)) (hzc : ¬ zc = 0) :
    Con l Z ms (⟨"com/example/grid_job_scheduler/gridjobscheduler/TriggerKey", "<init>", "(Ljava/lang/String;Ljava/lang/String;)V"⟩ : MethodName) prog_39_method_1_code 3 none ws ({ frames := 7, cells := 8, slots := 108, locals := 3108 } : Room) #[(.ref a1), (.ref s1), (.ref s2)] h0 (fun v vm h L => v = none ∧ Fr nb L ∧ Keep h0 h [a1] ∧ Fld Z h a1 "com/example/grid_job_scheduler/gridjobscheduler/TriggerKey" "group" "Ljava/lang/String;" (.ref s1) ∧ Fld Z h a1 "com/example/grid_job_scheduler/gridjobscheduler/TriggerKey" "name" "Ljava/lang/String;" (.ref s2)) := by
  refine Con.mk (plainFor_of_name pn11) ?_
  intro p e s m below meth c s₁ Cc X0 e0 eb J0 B0 M0
  obtain ⟨hx, hZ, hown, hby, hml, hnm, hret, hlk⟩ := id Cc
  have N0 := Fr.nil nb
  have K0 := Keep.refl h0 [a1]
  show Go p e s below _ _ _ _ s₁ (mkF m 0 #[.val (.ref a1), .val (.ref s1), .val (.ref s2)] [])
  refine Go.of (fun _ hr => XS.aloadN X0.here hx rfl (hb hby d9_0) rfl rfl hr) ?_
  show Go p e s below _ _ _ _ s₁ (mkF m 1 #[.val (.ref a1), .val (.ref s1), .val (.ref s2)] [(.ref a1)])
  obtain ⟨_, b101, T101, h101, L101, e101, Cc101, X101, B101, J101, g101, hQ101, st101⟩ := own_callI Cc B0 J0 X0 rfl (hw _ (List.mem_of_getElem? (i := 43) rfl)) (hw _ (List.mem_of_getElem? (i := 44) rfl)) (hw _ (List.mem_of_getElem? (i := 46) rfl)) (hw _ (List.mem_of_getElem? (i := 47) rfl)) (by decide) (rm10 l Z a0 hw [] a1 _ h0 n0 O0 h0.size (own_ole O0) K0.1) e0 (g := (mkF m 1 #[.val (.ref a1), .val (.ref s1), .val (.ref s2)] [(.ref a1)])) rfl (by rw [hml]; rfl) (argsL := []) (rest := []) (lenOf pd25 rfl) rfl (W := 0) (by show 2 * 0 + _ ≤ _; exact Nat.le_of_eq rfl) (hb hby d9_1) (by decide) (by decide) (by decide) (by decide)
  obtain ⟨rfl, Nq101, hh101⟩ := hQ101
  have N101 := Fr.app N0 (show Fr nb _ from fun y hy => Nat.le_trans hnb (Nq101 y hy))
  have NS101 := Fr.app (Fr.nil _) Nq101
  obtain ⟨hx, hZ, hown, hby, hml, hnm, hret, hlk⟩ := id Cc101
  rw [hh101] at e101 B101 J101
  refine Go.of st101 ?_
  show Go p e s below _ _ _ _ T101 (mkF m 4 #[.val (.ref a1), .val (.ref s1), .val (.ref s2)] [])
  obtain ⟨o102, t102, k102, b102, T102, h102, e102, Cc102, X102, B102, J102, E102, Sy102, na102, nt102, lt102, st102⟩ := own_ldcV Cc101 B101 J101 X101 lit0_in lit0_one (hw _ (List.mem_of_getElem? (i := 49) rfl)) (own_wS Z a0 hw) lit0_lat lit0_len (by rw [eb]; exact NS101) (by rw [eb]; exact O0.2) e101 (g := (mkF m 4 #[.val (.ref a1), .val (.ref s1), .val (.ref s2)] [])) rfl (hb hby d9_4) (n := 44) lit0_sz (by decide) (by decide) (by decide)
  obtain ⟨hx, hZ, hown, hby, hml, hnm, hret, hlk⟩ := id Cc102
  have K102 := K0.ext E102
  have O102 := O0.ext E102
  have nx_o102_a1 : o102 ≠ a1 := fun q => na102 (by rw [q]; exact hm_a1)
  have nx_t102_a1 : t102 ≠ a1 := fun q => nt102 (by rw [q]; exact hm_a1)
  refine Go.of (fun _ hr => st102 _ hr) ?_
  show Go p e s below _ _ _ _ T102 (mkF m 6 #[.val (.ref a1), .val (.ref s1), .val (.ref s2)] [(.ref o102)])
  refine Go.of (fun _ hr => XS.aloadN X102.here hx rfl (hb hby d9_6) rfl rfl hr) ?_
  show Go p e s below _ _ _ _ T102 (mkF m 7 #[.val (.ref a1), .val (.ref s1), .val (.ref s2)] [(.ref s1), (.ref o102)])
  refine Go.of (fun _ hr => XS.aloadN X102.here hx rfl (hb hby d9_7) rfl rfl hr) ?_
  show Go p e s below _ _ _ _ T102 (mkF m 8 #[.val (.ref a1), .val (.ref s1), .val (.ref s2)] [(.ref s2), (.ref s1), (.ref o102)])
  have f104 := (Es1.ext E102)
  have f105 := (Fv1.ext E102)
  have f106 := (Fc1.ext E102)
  have f107 := (V1.ext E102)
  have f108 := (Es2.ext E102)
  have f109 := (Fv2.ext E102)
  have f110 := (Fc2.ext E102)
  have f111 := (V2.ext E102)
  obtain ⟨_, b103, T103, h103, L103, e103, Cc103, X103, B103, J103, g103, hQ103, st103⟩ := own_callS Cc102 B102 J102 X102 (hw _ (List.mem_of_getElem? (i := 52) rfl)) (hw _ (List.mem_of_getElem? (i := 53) rfl)) (hw _ (List.mem_of_getElem? (i := 54) rfl)) (hw _ (List.mem_of_getElem? (i := 55) rfl)) (by decide) (rm11 l Z a0 hw [] o102 s1 t1 _ b1 s2 t2 _ b2 zc _ h102 n0 O102 h0.size (own_ole O0) K102.1 wi wa ka S_I E_I S_A V_A f104 f105 f106 f107 hn1 f108 f109 f110 f111 hn2 hb1 hb2 S_C hzc) e102 (g := (mkF m 8 #[.val (.ref a1), .val (.ref s1), .val (.ref s2)] [(.ref s2), (.ref s1), (.ref o102)])) rfl (by rw [hml]; rfl) (argsL := [(.ref o102), (.ref s1), (.ref s2)]) (rest := []) (lenOf pd24 rfl) rfl (W := 0) (by show 2 * 0 + _ ≤ _; exact Nat.le_of_eq rfl) (hb hby d9_8) (by decide) (by decide) (by decide) (by decide)
  obtain ⟨rfl, Nq103, Eq103⟩ := hQ103
  have N103 := Fr.app N101 (show Fr nb _ from fun y hy => Nat.le_trans hnb (Nq103 y hy))
  have NS103 := Fr.app NS101 Nq103
  obtain ⟨hx, hZ, hown, hby, hml, hnm, hret, hlk⟩ := id Cc103
  have K103 := K102.ext Eq103
  have O103 := O102.ext Eq103
  refine Go.of st103 ?_
  show Go p e s below _ _ _ _ T103 (mkF m 11 #[.val (.ref a1), .val (.ref s1), .val (.ref s2)] [])
  refine Go.of (fun _ hr => XS.aloadN X103.here hx rfl (hb hby d9_11) rfl rfl hr) ?_
  show Go p e s below _ _ _ _ T103 (mkF m 12 #[.val (.ref a1), .val (.ref s1), .val (.ref s2)] [(.ref a1)])
  refine Go.of (fun _ hr => XS.aloadN X103.here hx rfl (hb hby d9_12) rfl rfl hr) ?_
  show Go p e s below _ _ _ _ T103 (mkF m 13 #[.val (.ref a1), .val (.ref s1), .val (.ref s2)] [(.ref s1), (.ref a1)])
  have f113 := ((F1.ext E102).ext Eq103)
  have f114 := ((E1.ext E102).ext Eq103)
  obtain ⟨T112, h112, X112, e112, W112, st112⟩ := putF X103 hx hZ hown (host := "") (Or.inl (hw _ (List.mem_of_getElem? (i := 114) rfl))) Via.refl e103 f113 f114 (Or.inr ⟨(hw _ (List.mem_of_getElem? (i := 115) rfl)), rfl, hnm⟩) (hw _ (List.mem_of_getElem? (i := 38) rfl)) (ty := (.object "java/lang/String")) (by decide) rfl rfl (g := (mkF m 13 #[.val (.ref a1), .val (.ref s1), .val (.ref s2)] [(.ref s1), (.ref a1)])) rfl rfl (hb hby d9_13)
  have N112 := Fr.snoc X112 N103 fr_a1
  have J112 := J103.wr W112 hm_a1
  have B112 := B103.mono (Nat.le_of_eq W112.size.symm)
  have O112 := O103.wr W112 (Nat.le_trans hb0 fr_a1)
  have K112 := K103.wr W112 (Or.inl (List.mem_of_getElem? (i := 0) rfl))
  have Fw112 := f113.same W112
  refine Go.of (fun _ hr => st112 _ hr) ?_
  show Go p e s below _ _ _ _ T112 (mkF m 16 #[.val (.ref a1), .val (.ref s1), .val (.ref s2)] [])
  refine Go.of (fun _ hr => XS.aloadN X112.here hx rfl (hb hby d9_16) rfl rfl hr) ?_
  show Go p e s below _ _ _ _ T112 (mkF m 17 #[.val (.ref a1), .val (.ref s1), .val (.ref s2)] [(.ref a1)])
  refine Go.of (fun _ hr => XS.aloadN X112.here hx rfl (hb hby d9_17) rfl rfl hr) ?_
  show Go p e s below _ _ _ _ T112 (mkF m 18 #[.val (.ref a1), .val (.ref s1), .val (.ref s2)] [(.ref s2), (.ref a1)])
  have f116 := (((F2.ext E102).ext Eq103).other W112 (Or.inr (slot_ne (Or.inr (hw _ (List.mem_of_getElem? (i := 117) rfl))) (Or.inr (hw _ (List.mem_of_getElem? (i := 115) rfl))) (by decide) (t := (.object "java/lang/String")) (t' := (.object "java/lang/String")) (by decide) (by decide))))
  have f117 := (f114.wr W112)
  obtain ⟨T115, h115, X115, e115, W115, st115⟩ := putF X112 hx hZ hown (host := "") (Or.inl (hw _ (List.mem_of_getElem? (i := 116) rfl))) Via.refl e112 f116 f117 (Or.inr ⟨(hw _ (List.mem_of_getElem? (i := 117) rfl)), rfl, hnm⟩) (hw _ (List.mem_of_getElem? (i := 38) rfl)) (ty := (.object "java/lang/String")) (by decide) rfl rfl (g := (mkF m 18 #[.val (.ref a1), .val (.ref s1), .val (.ref s2)] [(.ref s2), (.ref a1)])) rfl rfl (hb hby d9_18)
  have N115 := Fr.snoc X115 N112 fr_a1
  have J115 := J112.wr W115 hm_a1
  have B115 := B112.mono (Nat.le_of_eq W115.size.symm)
  have O115 := O112.wr W115 (Nat.le_trans hb0 fr_a1)
  have K115 := K112.wr W115 (Or.inl (List.mem_of_getElem? (i := 0) rfl))
  have Fw115 := f116.same W115
  refine Go.of (fun _ hr => st115 _ hr) ?_
  show Go p e s below _ _ _ _ T115 (mkF m 21 #[.val (.ref a1), .val (.ref s1), .val (.ref s2)] [])
  have f118 := (Fw112.other W115 (Or.inr (slot_ne (Or.inr (hw _ (List.mem_of_getElem? (i := 115) rfl))) (Or.inr (hw _ (List.mem_of_getElem? (i := 117) rfl))) (by decide) (t := (.object "java/lang/String")) (t' := (.object "java/lang/String")) (by decide) (by decide))))
  exact Go.retV X115 hx hlk B115 J115 e115 hret (hb hby d9_21) (by decide) (by decide) (fun vm_ hw_ => ⟨rfl, N115, K115, f118, Fw115⟩)

theorem litI_dot : (litI ".").length = 1 := by decide +kernel
theorem litI_dotv : litI "." = [46] := by decide +kernel

theorem d24_0 : decode prog_20_method_4_code 0 = .ok (.new 35, 3) := by decide +kernel
theorem d24_3 : decode prog_20_method_4_code 3 = .ok (.dup, 1) := by decide +kernel
theorem d24_4 : decode prog_20_method_4_code 4 = .ok (.invokespecial 37, 3) := by decide +kernel
theorem d24_7 : decode prog_20_method_4_code 7 = .ok (.aload_n 0, 1) := by decide +kernel
theorem d24_8 : decode prog_20_method_4_code 8 = .ok (.invokevirtual 38, 3) := by decide +kernel
theorem pd26 : parseMethodDescriptor "(Ljava/lang/String;)Ljava/lang/StringBuilder;" = some ⟨[(.object "java/lang/String")], some (.object "java/lang/StringBuilder")⟩ := by decide +kernel
theorem d24_11 : decode prog_20_method_4_code 11 = .ok (.ldc 53, 2) := by decide +kernel
theorem d24_13 : decode prog_20_method_4_code 13 = .ok (.invokevirtual 38, 3) := by decide +kernel
theorem d24_16 : decode prog_20_method_4_code 16 = .ok (.aload_n 1, 1) := by decide +kernel
theorem d24_17 : decode prog_20_method_4_code 17 = .ok (.invokevirtual 38, 3) := by decide +kernel
theorem d24_20 : decode prog_20_method_4_code 20 = .ok (.invokevirtual 46, 3) := by decide +kernel
theorem pd27 : parseMethodDescriptor "()Ljava/lang/String;" = some ⟨[], some (.object "java/lang/String")⟩ := by decide +kernel
theorem d24_23 : decode prog_20_method_4_code 23 = .ok (.areturn, 1) := by decide +kernel
set_option maxRecDepth 65536 in
set_option maxHeartbeats 40000000 in
theorem rm24 (l : Launch) (Z : State) (a0 : Array Value) (hw : ∀ d ∈ tables_1, d.before a0 Z = true) (ws : List Jvm.Cond) (s1 t1 : Addr) (k1 : ClassId) (b1 : List Int32) (s2 t2 : Addr) (k2 : ClassId) (b2 : List Int32) (zc : Int32) (ms : List Addr) (h0 : Heap) (n0 : Nat) (O0 : Old Z n0 h0) (nb : Nat) (hb0 : n0 ≤ nb) (hnb : nb ≤ h0.size) (Es1 : Exa Z h0 s1 "java/lang/String") (Fv1 : Fld Z h0 s1 "java/lang/String" "value" "[B" (.ref t1)) (Fc1 : Fld Z h0 s1 "java/lang/String" "coder" "B" (.int 0)) (V1 : Arv Z h0 t1 k1 .byte (Int32.ofNat b1.length) (b1.map Value.int) (.int 0)) (hn1 : b1.length ≤ 1000) (Es2 : Exa Z h0 s2 "java/lang/String") (Fv2 : Fld Z h0 s2 "java/lang/String" "value" "[B" (.ref t2)) (Fc2 : Fld Z h0 s2 "java/lang/String" "coder" "B" (.int 0)) (V2 : Arv Z h0 t2 k2 .byte (Int32.ofNat b2.length) (b2.map Value.int) (.int 0)) (hn2 : b2.length ≤ 1000) (hl8 : b1.length + b2.length ≤ 8) (S_C : Sta Z Z.heap "java/lang/String" "COMPACT_STRINGS" "Z" (.int zc)) (hzc : ¬ zc = 0) :
    Con l Z ms (⟨"com/example/grid_job_scheduler/gridjobscheduler/Keys", "toString", "(Ljava/lang/String;Ljava/lang/String;)Ljava/lang/String;"⟩ : MethodName) prog_20_method_4_code 2 (some (.object "java/lang/String")) ws ({ frames := 6, cells := 6, slots := 48, locals := 113 } : Room) #[(.ref s1), (.ref s2)] h0 (fun v vm h L => ∃ r t k, v = some (.ref r) ∧ Fr nb L ∧ Ext h0 h ∧ h0.size ≤ r ∧ h0.size ≤ t ∧ Exa Z h r "java/lang/String" ∧ Fld Z h r "java/lang/String" "value" "[B" (.ref t) ∧ Fld Z h r "java/lang/String" "coder" "B" (.int 0) ∧ Arv Z h t k .byte (Int32.ofNat (b1 ++ litI "." ++ b2).length) ((b1 ++ litI "." ++ b2).map Value.int) (.int 0)) := by
  refine Con.mk (plainFor_of_name pn9) ?_
  intro p e s m below meth c s₁ Cc X0 e0 eb J0 B0 M0
  obtain ⟨hx, hZ, hown, hby, hml, hnm, hret, hlk⟩ := id Cc
  have N0 := Fr.nil h0.size
  have K0 := Keep.refl h0 []
  show Go p e s below _ _ _ _ s₁ (mkF m 0 #[.val (.ref s1), .val (.ref s2)] [])
  obtain ⟨T101, h101, X101, e101, E101, A101, D101, -, st101⟩ := newO X0 hx hZ hown (hw _ (List.mem_of_getElem? (i := 126) rfl)) (hw _ (List.mem_of_getElem? (i := 127) rfl)) (hw _ (List.mem_of_getElem? (i := 128) rfl)) e0 (g := (mkF m 0 #[.val (.ref s1), .val (.ref s2)] [])) rfl (hb hby d24_0) (by decide) (by decide)
  obtain ⟨o101, g101⟩ : ∃ z, z = h0.size := ⟨_, rfl⟩
  rw [← g101] at A101 D101 st101
  have ne_s1_o101 : s1 ≠ o101 := Nat.ne_of_lt (Nat.lt_of_lt_of_le Es1.lt (Nat.le_of_eq g101.symm))
  have ne_t1_o101 : t1 ≠ o101 := Nat.ne_of_lt (Nat.lt_of_lt_of_le V1.lt (Nat.le_of_eq g101.symm))
  have ne_s2_o101 : s2 ≠ o101 := Nat.ne_of_lt (Nat.lt_of_lt_of_le Es2.lt (Nat.le_of_eq g101.symm))
  have ne_t2_o101 : t2 ≠ o101 := Nat.ne_of_lt (Nat.lt_of_lt_of_le V2.lt (Nat.le_of_eq g101.symm))
  have lt101 : o101 < h101.size := A101.lt
  have J101 := J0.add E101 g101 lt101
  have B101 := B0.mono E101.1
  have O101 := O0.ext E101
  have sz101 : h0.size ≤ o101 := Nat.le_trans K0.1 (Nat.le_of_eq g101.symm)
  have fr101 : h0.size ≤ o101 := sz101
  have K101 := K0.ext E101
  have F101_value : Fld Z h101 o101 "java/lang/AbstractStringBuilder" "value" "[B" .null := D101 (Or.inl (hw _ (List.mem_of_getElem? (i := 141) rfl))) (ty := (.array .byte)) (by decide)
  have F101_coder : Fld Z h101 o101 "java/lang/AbstractStringBuilder" "coder" "B" (.int (0 : Int32)) := D101 (Or.inl (hw _ (List.mem_of_getElem? (i := 143) rfl))) (ty := .byte) (by decide)
  have F101_count : Fld Z h101 o101 "java/lang/AbstractStringBuilder" "count" "I" (.int (0 : Int32)) := D101 (Or.inl (hw _ (List.mem_of_getElem? (i := 156) rfl))) (ty := .int) (by decide)
  refine Go.of (fun _ hr => st101 _ hr) ?_
  show Go p e s below _ _ _ _ T101 (mkF m 3 #[.val (.ref s1), .val (.ref s2)] [(.ref o101)])
  refine Go.of (fun _ hr => XS.dup X101.here hx rfl (hb hby d24_3) rfl rfl hr) ?_
  show Go p e s below _ _ _ _ T101 (mkF m 4 #[.val (.ref s1), .val (.ref s2)] [(.ref o101), (.ref o101)])
  obtain ⟨_, b102, T102, h102, L102, e102, Cc102, X102, B102, J102, g102, hQ102, st102⟩ := own_callI Cc B101 J101 X101 rfl (hw _ (List.mem_of_getElem? (i := 129) rfl)) (hw _ (List.mem_of_getElem? (i := 130) rfl)) (hw _ (List.mem_of_getElem? (i := 128) rfl)) (hw _ (List.mem_of_getElem? (i := 131) rfl)) (by decide) (rm25 l Z a0 hw [] o101 _ _ zc _ h101 n0 O101 h0.size (own_ole O0) K101.1 fr101 (List.mem_cons_self ..) A101 F101_value F101_coder F101_count S_C hzc) e101 (g := (mkF m 4 #[.val (.ref s1), .val (.ref s2)] [(.ref o101), (.ref o101)])) rfl (by rw [hml]; rfl) (argsL := []) (rest := [(.ref o101)]) (lenOf pd25 rfl) rfl (W := 1) (by show 2 * 0 + _ ≤ _; exact Nat.le_of_eq rfl) (hb hby d24_4) (by decide) (by decide) (by decide) (by decide)
  have f103 := (Es1.ext E101)
  have f104 := (V1.ext E101)
  have f105 := (Es2.ext E101)
  have f106 := (V2.ext E101)
  obtain ⟨rfl, Nq102, Kq102, v102, kv102, R_v102, Gv102, Gc102, Gn102, W102_, Jv102⟩ := hQ102
  have N102 := Fr.app N0 Nq102
  obtain ⟨hx, hZ, hown, hby, hml, hnm, hret, hlk⟩ := id Cc102
  have sz_v102 : h0.size ≤ v102 := Nat.le_trans K101.1 R_v102
  have fr_v102 : h0.size ≤ v102 := sz_v102
  have ne_s1_v102 : s1 ≠ v102 := Nat.ne_of_lt (Nat.lt_of_lt_of_le f103.lt R_v102)
  have ne_t1_v102 : t1 ≠ v102 := Nat.ne_of_lt (Nat.lt_of_lt_of_le f104.lt R_v102)
  have ne_s2_v102 : s2 ≠ v102 := Nat.ne_of_lt (Nat.lt_of_lt_of_le f105.lt R_v102)
  have ne_t2_v102 : t2 ≠ v102 := Nat.ne_of_lt (Nat.lt_of_lt_of_le f106.lt R_v102)
  have ne_o101_v102 : o101 ≠ v102 := Nat.ne_of_lt (Nat.lt_of_lt_of_le A101.lt R_v102)
  have K102 := K101.trans Kq102 (allS (Or.inr sz101) all0)
  have O102 := O101.keep Kq102 (allS (Nat.le_trans (own_ole O0) fr101) all0)
  refine Go.of st102 ?_
  show Go p e s below _ _ _ _ T102 (mkF m 7 #[.val (.ref s1), .val (.ref s2)] [(.ref o101)])
  refine Go.of (fun _ hr => XS.aloadN X102.here hx rfl (hb hby d24_7) rfl rfl hr) ?_
  show Go p e s below _ _ _ _ T102 (mkF m 8 #[.val (.ref s1), .val (.ref s2)] [(.ref s1), (.ref o101)])
  have f108 := (A101.keep Kq102)
  have f109 := (f103.keep Kq102)
  have f110 := ((Fv1.ext E101).keep Kq102 (ninS ne_s1_o101 nin0))
  have f111 := ((Fc1.ext E101).keep Kq102 (ninS ne_s1_o101 nin0))
  have f112 := (f104.keep Kq102 (ninS ne_t1_o101 nin0))
  obtain ⟨_, b107, T107, h107, L107, e107, Cc107, X107, B107, J107, g107, hQ107, st107⟩ := own_callV Cc102 B102 Jv102 X102 (hw _ (List.mem_of_getElem? (i := 144) rfl)) (hw _ (List.mem_of_getElem? (i := 145) rfl)) (notFace_of_selects (args := #[]) (mvT hZ (hw _ (List.mem_of_getElem? (i := 147) rfl)))) (hw _ (List.mem_of_getElem? (i := 147) rfl)) (hw _ (List.mem_of_getElem? (i := 146) rfl)) (hw _ (List.mem_of_getElem? (i := 128) rfl)) (hw _ (List.mem_of_getElem? (i := 148) rfl)) (by decide) f108 (rm27 l Z a0 hw [] o101 v102 _ ([] : List Int32) s1 t1 _ b1 zc _ h102 n0 O102 h0.size (own_ole O0) K102.1 fr101 (List.mem_cons_of_mem _ (List.mem_cons_self ..)) fr_v102 (List.mem_cons_self ..) f108 Gv102 Gc102 Gn102 W102_ f109 f110 f111 f112 hn1 (by simp only [List.length_append, List.length_nil, litI_dot]; omega) ne_t1_v102 ne_o101_v102 ne_s1_v102 ne_t1_o101 ne_s1_o101 S_C hzc) e102 (g := (mkF m 8 #[.val (.ref s1), .val (.ref s2)] [(.ref s1), (.ref o101)])) rfl (by rw [hml]; rfl) (argsL := [(.ref s1)]) (rest := []) (lenOf pd26 rfl) rfl (W := 0) (by show 2 * 0 + _ ≤ _; exact Nat.le_of_eq rfl) (hb hby d24_8) (by decide) (by decide) (by decide) (by decide)
  obtain ⟨rfl, Nq107, Kq107, Gv107, Gc107, Gn107, Wv107⟩ := hQ107
  have N107 := Fr.app N102 Nq107
  obtain ⟨hx, hZ, hown, hby, hml, hnm, hret, hlk⟩ := id Cc107
  have K107 := K102.trans Kq107 (allS (Or.inr sz101) (allS (Or.inr sz_v102) all0))
  have O107 := O102.keep Kq107 (allS (Nat.le_trans (own_ole O0) fr101) (allS (Nat.le_trans (own_ole O0) fr_v102) all0))
  refine Go.of st107 ?_
  show Go p e s below _ _ _ _ T107 (mkF m 11 #[.val (.ref s1), .val (.ref s2)] [(.ref o101)])
  obtain ⟨o113, t113, k113, b113, T113, h113, e113, Cc113, X113, B113, J113, E113, Sy113, na113, nt113, lt113, st113⟩ := own_ldcV Cc107 B107 J107 X107 lit3_in lit3_one (hw _ (List.mem_of_getElem? (i := 182) rfl)) (own_wS Z a0 hw) lit3_lat lit3_len (by rw [eb]; exact N107) (by rw [eb]; exact O0.2) e107 (g := (mkF m 11 #[.val (.ref s1), .val (.ref s2)] [(.ref o101)])) rfl (hb hby d24_11) (n := 4) lit3_sz (by decide) (by decide) (by decide)
  obtain ⟨hx, hZ, hown, hby, hml, hnm, hret, hlk⟩ := id Cc113
  have K113 := K107.ext E113
  have O113 := O107.ext E113
  have nx_o113_v102 : o113 ≠ v102 := fun q => na113 (by rw [q]; exact (List.mem_cons_self ..))
  have nx_o113_o101 : o113 ≠ o101 := fun q => na113 (by rw [q]; exact (List.mem_cons_of_mem _ (List.mem_cons_self ..)))
  have nx_t113_v102 : t113 ≠ v102 := fun q => nt113 (by rw [q]; exact (List.mem_cons_self ..))
  have nx_t113_o101 : t113 ≠ o101 := fun q => nt113 (by rw [q]; exact (List.mem_cons_of_mem _ (List.mem_cons_self ..)))
  refine Go.of (fun _ hr => st113 _ hr) ?_
  show Go p e s below _ _ _ _ T113 (mkF m 13 #[.val (.ref s1), .val (.ref s2)] [(.ref o113), (.ref o101)])
  have f115 := ((f108.keep Kq107).ext E113)
  have f116 := (Gv107.ext E113)
  have f117 := (Gc107.ext E113)
  have f118 := (Gn107.ext E113)
  have f119 := (Wv107.ext E113)
  obtain ⟨_, b114, T114, h114, L114, e114, Cc114, X114, B114, J114, g114, hQ114, st114⟩ := own_callV Cc113 B113 J113 X113 (hw _ (List.mem_of_getElem? (i := 144) rfl)) (hw _ (List.mem_of_getElem? (i := 145) rfl)) (notFace_of_selects (args := #[]) (mvT hZ (hw _ (List.mem_of_getElem? (i := 147) rfl)))) (hw _ (List.mem_of_getElem? (i := 147) rfl)) (hw _ (List.mem_of_getElem? (i := 146) rfl)) (hw _ (List.mem_of_getElem? (i := 128) rfl)) (hw _ (List.mem_of_getElem? (i := 148) rfl)) (by decide) f115 (rm27 l Z a0 hw [] o101 v102 _ (([] : List Int32) ++ b1) o113 t113 _ (litI ".") zc _ h113 n0 O113 h0.size (own_ole O0) K113.1 fr101 (List.mem_cons_of_mem _ (List.mem_cons_self ..)) fr_v102 (List.mem_cons_self ..) f115 f116 f117 f118 f119 Sy113.1 Sy113.2.2.1 Sy113.2.1 Sy113.2.2.2 (by decide +kernel) (by simp only [List.length_append, List.length_nil, litI_dot]; omega) nx_t113_v102 ne_o101_v102 nx_o113_v102 nx_t113_o101 nx_o113_o101 S_C hzc) e113 (g := (mkF m 13 #[.val (.ref s1), .val (.ref s2)] [(.ref o113), (.ref o101)])) rfl (by rw [hml]; rfl) (argsL := [(.ref o113)]) (rest := []) (lenOf pd26 rfl) rfl (W := 0) (by show 2 * 0 + _ ≤ _; exact Nat.le_of_eq rfl) (hb hby d24_13) (by decide) (by decide) (by decide) (by decide)
  obtain ⟨rfl, Nq114, Kq114, Gv114, Gc114, Gn114, Wv114⟩ := hQ114
  have N114 := Fr.app N107 Nq114
  obtain ⟨hx, hZ, hown, hby, hml, hnm, hret, hlk⟩ := id Cc114
  have K114 := K113.trans Kq114 (allS (Or.inr sz101) (allS (Or.inr sz_v102) all0))
  have O114 := O113.keep Kq114 (allS (Nat.le_trans (own_ole O0) fr101) (allS (Nat.le_trans (own_ole O0) fr_v102) all0))
  refine Go.of st114 ?_
  show Go p e s below _ _ _ _ T114 (mkF m 16 #[.val (.ref s1), .val (.ref s2)] [(.ref o101)])
  refine Go.of (fun _ hr => XS.aloadN X114.here hx rfl (hb hby d24_16) rfl rfl hr) ?_
  show Go p e s below _ _ _ _ T114 (mkF m 17 #[.val (.ref s1), .val (.ref s2)] [(.ref s2), (.ref o101)])
  have f121 := (f115.keep Kq114)
  have f122 := ((((f105.keep Kq102).keep Kq107).ext E113).keep Kq114)
  have f123 := (((((Fv2.ext E101).keep Kq102 (ninS ne_s2_o101 nin0)).keep Kq107 (ninS ne_s2_o101 (ninS ne_s2_v102 nin0))).ext E113).keep Kq114 (ninS ne_s2_o101 (ninS ne_s2_v102 nin0)))
  have f124 := (((((Fc2.ext E101).keep Kq102 (ninS ne_s2_o101 nin0)).keep Kq107 (ninS ne_s2_o101 (ninS ne_s2_v102 nin0))).ext E113).keep Kq114 (ninS ne_s2_o101 (ninS ne_s2_v102 nin0)))
  have f125 := ((((f106.keep Kq102 (ninS ne_t2_o101 nin0)).keep Kq107 (ninS ne_t2_o101 (ninS ne_t2_v102 nin0))).ext E113).keep Kq114 (ninS ne_t2_o101 (ninS ne_t2_v102 nin0)))
  obtain ⟨_, b120, T120, h120, L120, e120, Cc120, X120, B120, J120, g120, hQ120, st120⟩ := own_callV Cc114 B114 J114 X114 (hw _ (List.mem_of_getElem? (i := 144) rfl)) (hw _ (List.mem_of_getElem? (i := 145) rfl)) (notFace_of_selects (args := #[]) (mvT hZ (hw _ (List.mem_of_getElem? (i := 147) rfl)))) (hw _ (List.mem_of_getElem? (i := 147) rfl)) (hw _ (List.mem_of_getElem? (i := 146) rfl)) (hw _ (List.mem_of_getElem? (i := 128) rfl)) (hw _ (List.mem_of_getElem? (i := 148) rfl)) (by decide) f121 (rm27 l Z a0 hw [] o101 v102 _ ((([] : List Int32) ++ b1) ++ (litI ".")) s2 t2 _ b2 zc _ h114 n0 O114 h0.size (own_ole O0) K114.1 fr101 (List.mem_cons_of_mem _ (List.mem_cons_self ..)) fr_v102 (List.mem_cons_self ..) f121 Gv114 Gc114 Gn114 Wv114 f122 f123 f124 f125 hn2 (by simp only [List.length_append, List.length_nil, litI_dot]; omega) ne_t2_v102 ne_o101_v102 ne_s2_v102 ne_t2_o101 ne_s2_o101 S_C hzc) e114 (g := (mkF m 17 #[.val (.ref s1), .val (.ref s2)] [(.ref s2), (.ref o101)])) rfl (by rw [hml]; rfl) (argsL := [(.ref s2)]) (rest := []) (lenOf pd26 rfl) rfl (W := 0) (by show 2 * 0 + _ ≤ _; exact Nat.le_of_eq rfl) (hb hby d24_17) (by decide) (by decide) (by decide) (by decide)
  obtain ⟨rfl, Nq120, Kq120, Gv120, Gc120, Gn120, Wv120⟩ := hQ120
  have N120 := Fr.app N114 Nq120
  obtain ⟨hx, hZ, hown, hby, hml, hnm, hret, hlk⟩ := id Cc120
  have K120 := K114.trans Kq120 (allS (Or.inr sz101) (allS (Or.inr sz_v102) all0))
  have O120 := O114.keep Kq120 (allS (Nat.le_trans (own_ole O0) fr101) (allS (Nat.le_trans (own_ole O0) fr_v102) all0))
  refine Go.of st120 ?_
  show Go p e s below _ _ _ _ T120 (mkF m 20 #[.val (.ref s1), .val (.ref s2)] [(.ref o101)])
  have f127 := (f121.keep Kq120)
  obtain ⟨_, b126, T126, h126, L126, e126, Cc126, X126, B126, J126, g126, hQ126, st126⟩ := own_callV Cc120 B120 J120 X120 (hw _ (List.mem_of_getElem? (i := 183) rfl)) (hw _ (List.mem_of_getElem? (i := 184) rfl)) (notFace_of_selects (args := #[]) (mvT hZ (hw _ (List.mem_of_getElem? (i := 186) rfl)))) (hw _ (List.mem_of_getElem? (i := 186) rfl)) (hw _ (List.mem_of_getElem? (i := 185) rfl)) (hw _ (List.mem_of_getElem? (i := 128) rfl)) (hw _ (List.mem_of_getElem? (i := 187) rfl)) (by decide) f127 (rm33 l Z a0 hw [] o101 v102 _ (((([] : List Int32) ++ b1) ++ (litI ".")) ++ b2) zc _ h120 n0 O120 h0.size (own_ole O0) K120.1 f127 Gv120 Gc120 Gn120 Wv120 (by simp only [List.length_append, List.length_nil, litI_dot]; omega) S_C hzc) e120 (g := (mkF m 20 #[.val (.ref s1), .val (.ref s2)] [(.ref o101)])) rfl (by rw [hml]; rfl) (argsL := []) (rest := []) (lenOf pd27 rfl) rfl (W := 0) (by show 2 * 0 + _ ≤ _; exact Nat.le_of_eq rfl) (hb hby d24_20) (by decide) (by decide) (by decide) (by decide)
  have f128 := ((((f109.keep Kq107).ext E113).keep Kq114).keep Kq120)
  have f129 := ((((f112.keep Kq107 (ninS ne_t1_o101 (ninS ne_t1_v102 nin0))).ext E113).keep Kq114 (ninS ne_t1_o101 (ninS ne_t1_v102 nin0))).keep Kq120 (ninS ne_t1_o101 (ninS ne_t1_v102 nin0)))
  have f130 := (f122.keep Kq120)
  have f131 := (f125.keep Kq120 (ninS ne_t2_o101 (ninS ne_t2_v102 nin0)))
  have f132 := ((Sy113.1.keep Kq114).keep Kq120)
  have f133 := ((Sy113.2.2.2.keep Kq114 (ninS nx_t113_o101 (ninS nx_t113_v102 nin0))).keep Kq120 (ninS nx_t113_o101 (ninS nx_t113_v102 nin0)))
  obtain ⟨r126, t126, kt126, rfl, Nq126, Eq126, R_r126, R_t126, Er126, Fv126, Fc126, Vt126⟩ := hQ126
  have N126 := Fr.app N120 Nq126
  obtain ⟨hx, hZ, hown, hby, hml, hnm, hret, hlk⟩ := id Cc126
  have sz_r126 : h0.size ≤ r126 := Nat.le_trans K120.1 R_r126
  have fr_r126 : h0.size ≤ r126 := sz_r126
  have ne_s1_r126 : s1 ≠ r126 := Nat.ne_of_lt (Nat.lt_of_lt_of_le f128.lt R_r126)
  have ne_t1_r126 : t1 ≠ r126 := Nat.ne_of_lt (Nat.lt_of_lt_of_le f129.lt R_r126)
  have ne_s2_r126 : s2 ≠ r126 := Nat.ne_of_lt (Nat.lt_of_lt_of_le f130.lt R_r126)
  have ne_t2_r126 : t2 ≠ r126 := Nat.ne_of_lt (Nat.lt_of_lt_of_le f131.lt R_r126)
  have ne_o101_r126 : o101 ≠ r126 := Nat.ne_of_lt (Nat.lt_of_lt_of_le f127.lt R_r126)
  have ne_o113_r126 : o113 ≠ r126 := Nat.ne_of_lt (Nat.lt_of_lt_of_le f132.lt R_r126)
  have ne_t113_r126 : t113 ≠ r126 := Nat.ne_of_lt (Nat.lt_of_lt_of_le f133.lt R_r126)
  have ne_v102_r126 : v102 ≠ r126 := Nat.ne_of_lt (Nat.lt_of_lt_of_le Wv120.lt R_r126)
  have sz_t126 : h0.size ≤ t126 := Nat.le_trans K120.1 R_t126
  have fr_t126 : h0.size ≤ t126 := sz_t126
  have ne_s1_t126 : s1 ≠ t126 := Nat.ne_of_lt (Nat.lt_of_lt_of_le f128.lt R_t126)
  have ne_t1_t126 : t1 ≠ t126 := Nat.ne_of_lt (Nat.lt_of_lt_of_le f129.lt R_t126)
  have ne_s2_t126 : s2 ≠ t126 := Nat.ne_of_lt (Nat.lt_of_lt_of_le f130.lt R_t126)
  have ne_t2_t126 : t2 ≠ t126 := Nat.ne_of_lt (Nat.lt_of_lt_of_le f131.lt R_t126)
  have ne_o101_t126 : o101 ≠ t126 := Nat.ne_of_lt (Nat.lt_of_lt_of_le f127.lt R_t126)
  have ne_o113_t126 : o113 ≠ t126 := Nat.ne_of_lt (Nat.lt_of_lt_of_le f132.lt R_t126)
  have ne_t113_t126 : t113 ≠ t126 := Nat.ne_of_lt (Nat.lt_of_lt_of_le f133.lt R_t126)
  have ne_v102_t126 : v102 ≠ t126 := Nat.ne_of_lt (Nat.lt_of_lt_of_le Wv120.lt R_t126)
  have K126 := K120.ext Eq126
  have O126 := O120.ext Eq126
  refine Go.of st126 ?_
  show Go p e s below _ _ _ _ T126 (mkF m 23 #[.val (.ref s1), .val (.ref s2)] [(.ref r126)])
  exact Go.retA X126 hx hlk B126 (J126.sub fun x hx => (List.mem_cons_of_mem _ (List.mem_cons_of_mem _ hx))) e126 hret rfl rfl (hb hby d24_23) (by decide) (by decide) (fun vm_ hw_ => ⟨_, _, _, rfl, (fun y hy => Nat.le_trans hnb (N126 y hy)), keep_ext K126, sz_r126, sz_t126, Er126, Fv126, Fc126, Vt126⟩)

theorem d23_0 : decode prog_39_method_3_code 0 = .ok (.aload_n 0, 1) := by decide +kernel
theorem d23_1 : decode prog_39_method_3_code 1 = .ok (.getfield 15, 3) := by decide +kernel
theorem d23_4 : decode prog_39_method_3_code 4 = .ok (.aload_n 0, 1) := by decide +kernel
theorem d23_5 : decode prog_39_method_3_code 5 = .ok (.getfield 21, 3) := by decide +kernel
theorem d23_8 : decode prog_39_method_3_code 8 = .ok (.invokestatic 29, 3) := by decide +kernel
theorem pd28 : parseMethodDescriptor "(Ljava/lang/String;Ljava/lang/String;)Ljava/lang/String;" = some ⟨[(.object "java/lang/String"), (.object "java/lang/String")], some (.object "java/lang/String")⟩ := by decide +kernel
theorem d23_11 : decode prog_39_method_3_code 11 = .ok (.areturn, 1) := by decide +kernel
set_option maxRecDepth 65536 in
set_option maxHeartbeats 40000000 in
theorem rm23 (l : Launch) (Z : State) (a0 : Array Value) (hw : ∀ d ∈ tables_1, d.before a0 Z = true) (ws : List Jvm.Cond) (a1 : Addr) (s1 t1 : Addr) (k1 : ClassId) (b1 : List Int32) (s2 t2 : Addr) (k2 : ClassId) (b2 : List Int32) (zc : Int32) (ms : List Addr) (h0 : Heap) (n0 : Nat) (O0 : Old Z n0 h0) (nb : Nat) (hb0 : n0 ≤ nb) (hnb : nb ≤ h0.size) (Fg : Fld Z h0 a1 "com/example/grid_job_scheduler/gridjobscheduler/TriggerKey" "group" "Ljava/lang/String;" (.ref s1)) (Fn : Fld Z h0 a1 "com/example/grid_job_scheduler/gridjobscheduler/TriggerKey" "name" "Ljava/lang/String;" (.ref s2)) (Es1 : Exa Z h0 s1 "java/lang/String") (Fv1 : Fld Z h0 s1 "java/lang/String" "value" "[B" (.ref t1)) (Fc1 : Fld Z h0 s1 "java/lang/String" "coder" "B" (.int 0)) (V1 : Arv Z h0 t1 k1 .byte (Int32.ofNat b1.length) (b1.map Value.int) (.int 0)) (hn1 : b1.length ≤ 1000) (Es2 : Exa Z h0 s2 "java/lang/String") (Fv2 : Fld Z h0 s2 "java/lang/String" "value" "[B" (.ref t2)) (Fc2 : Fld Z h0 s2 "java/lang/String" "coder" "B" (.int 0)) (V2 : Arv Z h0 t2 k2 .byte (Int32.ofNat b2.length) (b2.map Value.int) (.int 0)) (hn2 : b2.length ≤ 1000) (hl8 : b1.length + b2.length ≤ 8) (S_C : Sta Z Z.heap "java/lang/String" "COMPACT_STRINGS" "Z" (.int zc)) (hzc : ¬ zc = 0) :
    Con l Z ms (⟨"com/example/grid_job_scheduler/gridjobscheduler/TriggerKey", "toString", "()Ljava/lang/String;"⟩ : MethodName) prog_39_method_3_code 1 (some (.object "java/lang/String")) ws ({ frames := 7, cells := 6, slots := 48, locals := 126 } : Room) #[(.ref a1)] h0 (fun v vm h L => ∃ r t k, v = some (.ref r) ∧ Fr nb L ∧ Ext h0 h ∧ h0.size ≤ r ∧ h0.size ≤ t ∧ Exa Z h r "java/lang/String" ∧ Fld Z h r "java/lang/String" "value" "[B" (.ref t) ∧ Fld Z h r "java/lang/String" "coder" "B" (.int 0) ∧ Arv Z h t k .byte (Int32.ofNat (b1 ++ litI "." ++ b2).length) ((b1 ++ litI "." ++ b2).map Value.int) (.int 0)) := by
  refine Con.mk (plainFor_of_name pn11) ?_
  intro p e s m below meth c s₁ Cc X0 e0 eb J0 B0 M0
  obtain ⟨hx, hZ, hown, hby, hml, hnm, hret, hlk⟩ := id Cc
  have N0 := Fr.nil h0.size
  have K0 := Keep.refl h0 []
  show Go p e s below _ _ _ _ s₁ (mkF m 0 #[.val (.ref a1)] [])
  refine Go.of (fun _ hr => XS.aloadN X0.here hx rfl (hb hby d23_0) rfl rfl hr) ?_
  show Go p e s below _ _ _ _ s₁ (mkF m 1 #[.val (.ref a1)] [(.ref a1)])
  obtain ⟨T101, X101, e101, st101⟩ := getF X0 hx hZ hown (host := "") (Or.inl (hw _ (List.mem_of_getElem? (i := 114) rfl))) Via.refl e0 Fg (g := (mkF m 1 #[.val (.ref a1)] [(.ref a1)])) rfl rfl (hb hby d23_1)
  refine Go.of (fun _ hr => st101 _ hr) ?_
  show Go p e s below _ _ _ _ T101 (mkF m 4 #[.val (.ref a1)] [(.ref s1)])
  refine Go.of (fun _ hr => XS.aloadN X101.here hx rfl (hb hby d23_4) rfl rfl hr) ?_
  show Go p e s below _ _ _ _ T101 (mkF m 5 #[.val (.ref a1)] [(.ref a1), (.ref s1)])
  obtain ⟨T102, X102, e102, st102⟩ := getF X101 hx hZ hown (host := "") (Or.inl (hw _ (List.mem_of_getElem? (i := 116) rfl))) Via.refl e101 Fn (g := (mkF m 5 #[.val (.ref a1)] [(.ref a1), (.ref s1)])) rfl rfl (hb hby d23_5)
  refine Go.of (fun _ hr => st102 _ hr) ?_
  show Go p e s below _ _ _ _ T102 (mkF m 8 #[.val (.ref a1)] [(.ref s2), (.ref s1)])
  obtain ⟨_, b103, T103, h103, L103, e103, Cc103, X103, B103, J103, g103, hQ103, st103⟩ := own_callS Cc B0 J0 X102 (hw _ (List.mem_of_getElem? (i := 123) rfl)) (hw _ (List.mem_of_getElem? (i := 124) rfl)) (hw _ (List.mem_of_getElem? (i := 54) rfl)) (hw _ (List.mem_of_getElem? (i := 125) rfl)) (by decide) (rm24 l Z a0 hw [] s1 t1 _ b1 s2 t2 _ b2 zc _ h0 n0 O0 h0.size (own_ole O0) K0.1 Es1 Fv1 Fc1 V1 hn1 Es2 Fv2 Fc2 V2 hn2 hl8 S_C hzc) e102 (g := (mkF m 8 #[.val (.ref a1)] [(.ref s2), (.ref s1)])) rfl (by rw [hml]; rfl) (argsL := [(.ref s1), (.ref s2)]) (rest := []) (lenOf pd28 rfl) rfl (W := 0) (by show 2 * 0 + _ ≤ _; exact Nat.le_of_eq rfl) (hb hby d23_8) (by decide) (by decide) (by decide) (by decide)
  obtain ⟨r103, t103, kt103, rfl, Nq103, Eq103, R_r103, R_t103, Er103, Fv103, Fc103, Vt103⟩ := hQ103
  have N103 := Fr.app N0 Nq103
  obtain ⟨hx, hZ, hown, hby, hml, hnm, hret, hlk⟩ := id Cc103
  have sz_r103 : h0.size ≤ r103 := Nat.le_trans K0.1 R_r103
  have fr_r103 : h0.size ≤ r103 := sz_r103
  have ne_s1_r103 : s1 ≠ r103 := Nat.ne_of_lt (Nat.lt_of_lt_of_le Es1.lt R_r103)
  have ne_t1_r103 : t1 ≠ r103 := Nat.ne_of_lt (Nat.lt_of_lt_of_le V1.lt R_r103)
  have ne_s2_r103 : s2 ≠ r103 := Nat.ne_of_lt (Nat.lt_of_lt_of_le Es2.lt R_r103)
  have ne_t2_r103 : t2 ≠ r103 := Nat.ne_of_lt (Nat.lt_of_lt_of_le V2.lt R_r103)
  have ne_a1_r103 : a1 ≠ r103 := Nat.ne_of_lt (Nat.lt_of_lt_of_le Fg.lt R_r103)
  have sz_t103 : h0.size ≤ t103 := Nat.le_trans K0.1 R_t103
  have fr_t103 : h0.size ≤ t103 := sz_t103
  have ne_s1_t103 : s1 ≠ t103 := Nat.ne_of_lt (Nat.lt_of_lt_of_le Es1.lt R_t103)
  have ne_t1_t103 : t1 ≠ t103 := Nat.ne_of_lt (Nat.lt_of_lt_of_le V1.lt R_t103)
  have ne_s2_t103 : s2 ≠ t103 := Nat.ne_of_lt (Nat.lt_of_lt_of_le Es2.lt R_t103)
  have ne_t2_t103 : t2 ≠ t103 := Nat.ne_of_lt (Nat.lt_of_lt_of_le V2.lt R_t103)
  have ne_a1_t103 : a1 ≠ t103 := Nat.ne_of_lt (Nat.lt_of_lt_of_le Fg.lt R_t103)
  have K103 := K0.ext Eq103
  have O103 := O0.ext Eq103
  refine Go.of st103 ?_
  show Go p e s below _ _ _ _ T103 (mkF m 11 #[.val (.ref a1)] [(.ref r103)])
  exact Go.retA X103 hx hlk B103 J103 e103 hret rfl rfl (hb hby d23_11) (by decide) (by decide) (fun vm_ hw_ => ⟨_, _, _, rfl, (fun y hy => Nat.le_trans hnb (N103 y hy)), keep_ext K103, sz_r103, sz_t103, Er103, Fv103, Fc103, Vt103⟩)

set_option maxRecDepth 65536 in
theorem own_tabL : jdkStatics_1.drop 17 = (List.range 256).map fun j => Jvm.Cond.eq (Jvm.Term.elem (Jvm.Term.static "java/lang/CharacterDataLatin1" "A" "[I") (Jvm.Term.int (Int32.ofNat j))) (Jvm.Term.int (tabA.getD j 0)) := by rfl
theorem own_sz256 {n : Nat} (h : n < 2 ^ 31) (q : Int32.ofNat n = 256) : n = 256 := oi_inj (by omega) (by decide) q
theorem own_el {args : Array Value} {s : State} {t : Term} {x : Addr} {cl : Cell} {j : Nat} {v : Int32} (ht : t.eval args s none [] s = some (.ref x)) (ha : s.arrayAt? x = some cl) (hs : cl.slots.size = 256) (hj : j < 256) (h : (Jvm.Cond.eq (Jvm.Term.elem t (Jvm.Term.int (Int32.ofNat j))) (Jvm.Term.int v)).value args s none s [] = some true) : cl.slots[j]? = some (.int v) := by
  have q := own_eqI h
  have r := elem_f (t := t) (a := .int (Int32.ofNat j)) ht rfl ha (oi_nn (by omega))
  rw [oi_nat (by omega)] at r
  exact r.symm.trans q
theorem own_tabV {s : State} {wa : Addr} {cc : Cell} (A : Arr s s.heap wa cc .int) (hsz : cc.slots.size = 256) (h : ∀ j, j < 256 → cc.slots[j]? = some (.int (tabA.getD j 0))) : Arv s s.heap wa cc.cls .int 256 (tabA.map Value.int) (.int 0) :=
  ⟨cc, A, rfl, hsz, by decide, fun k hk => by rw [getD_int]; exact h k (hsz ▸ hk), fun i hi => by rw [getD_int]; rfl⟩

theorem chV_map {cs : List Int32} (h : ∀ x ∈ cs, rng x) {j : Nat} (hj : j < cs.length) (hl : cs.length < 2147483648) : chV (cs.map lo8) (Int32.ofNat j) = cs.getD j 0 := by
  rw [chV, oi_nat (by omega)]
  have e : (cs.map lo8).getD j 0 = lo8 (cs.getD j 0) := by
    simp only [List.getD_eq_getElem?_getD, List.getElem?_map, List.getElem?_eq_getElem hj, Option.map_some, Option.getD_some]
  rw [e]
  exact chr_lo8 (h _ (mem_getD hj))
theorem chV_l {b r : List Int32} {i : Int32} (i0 : ¬ i < 0) (h : i < Int32.ofNat b.length) (hn : b.length < 2147483648) : chV (b ++ r) i = chV b i := by
  have hj : i.toNatClampNeg < b.length := by rw [Int32.lt_iff_toInt_lt, oi_toInt hn, nat_of i0] at h; omega
  rw [chV, chV, List.getD_eq_getElem?_getD, List.getElem?_append_left hj, List.getD_eq_getElem?_getD]
theorem chV_m {b r : List Int32} {i : Int32} (h : i = Int32.ofNat b.length) (hn : b.length < 2147483648) : chV (b ++ litI "." ++ r) i = 46 := by
  rw [chV, h, oi_nat hn, List.getD_eq_getElem?_getD, List.append_assoc, List.getElem?_append_right (Nat.le_refl _), Nat.sub_self, litI_dotv, show ([(46 : Int32)] ++ r)[0]? = some 46 from rfl, Option.getD_some]
  decide
theorem pos_r {n : Nat} {i : Int32} (i0 : ¬ i < 0) (h : ¬ i < Int32.ofNat n) (h2 : ¬ i = Int32.ofNat n) (hn : n < 2147483648) : i - Int32.ofNat n - 1 = Int32.ofNat (i.toNatClampNeg - n - 1) ∧ n + 1 ≤ i.toNatClampNeg := by
  have a := nat_of i0
  have r := rng32 i
  have h3 : n + 1 ≤ i.toNatClampNeg := by
    rw [Int32.lt_iff_toInt_lt, oi_toInt hn] at h
    have : i.toInt ≠ (n : Int) := fun q => h2 (Int32.toInt_inj.mp (by rw [q, oi_toInt hn]))
    omega
  refine ⟨Int32.toInt_inj.mp ?_, h3⟩
  have q1 := c_isub i (Int32.ofNat n)
  have q2 := c_isub (i - Int32.ofNat n) 1
  have r1 := rng32 (i - Int32.ofNat n)
  have r2 := rng32 (i - Int32.ofNat n - 1)
  rw [oi_toInt hn] at q1
  rw [show (1 : Int32).toInt = 1 from rfl] at q2
  rw [oi_toInt (by omega)]; omega
theorem chV_r {b r : List Int32} {i : Int32} (i0 : ¬ i < 0) (h : ¬ i < Int32.ofNat b.length) (h2 : ¬ i = Int32.ofNat b.length) (hn : b.length < 2147483648) (hi : i.toNatClampNeg < 2147483648) : chV (b ++ litI "." ++ r) i = chV r (i - Int32.ofNat b.length - 1) := by
  obtain ⟨e, h3⟩ := pos_r i0 h h2 hn
  rw [e, chV, chV, oi_nat (by omega), List.getD_eq_getElem?_getD, List.getElem?_append_right (by rw [List.length_append, litI_dot]; omega), List.length_append, litI_dot, List.getD_eq_getElem?_getD, show i.toNatClampNeg - (b.length + 1) = i.toNatClampNeg - b.length - 1 by omega]
theorem pos_in {b1 b2 : List Int32} {i : Int32} (i0 : ¬ i < 0) (h : i < Int32.ofNat (b1 ++ litI "." ++ b2).length) (q1 : ¬ i < Int32.ofNat b1.length) (q2 : ¬ i = Int32.ofNat b1.length) (hn1 : b1.length ≤ 1000) (hn2 : b2.length ≤ 1000) : ¬ (i - Int32.ofNat b1.length - 1) < 0 ∧ (i - Int32.ofNat b1.length - 1) < Int32.ofNat b2.length := by
  obtain ⟨e, h3⟩ := pos_r i0 q1 q2 (by omega)
  have hl : (b1 ++ litI "." ++ b2).length = b1.length + 1 + b2.length := by rw [List.length_append, List.length_append, litI_dot]
  rw [hl, Int32.lt_iff_toInt_lt, oi_toInt (by omega), nat_of i0] at h
  rw [e]
  exact ⟨oi_nn (by omega), oi_lt (by omega) (by omega) (by omega)⟩
theorem chV_ll {b1 b2 : List Int32} {i : Int32} (i0 : ¬ i < 0) (h : i < Int32.ofNat b1.length) (hn : b1.length < 2147483648) : chV (b1 ++ litI "." ++ b2) i = chV b1 i := by
  rw [List.append_assoc]; exact chV_l i0 h hn

def wsV (c : Int32) : Int32 := if (¬ c < 9 ∧ ¬ 13 < c) ∨ (¬ c < 28 ∧ ¬ 32 < c) then 1 else 0

theorem pn12 : plainName "com/example/grid_job_scheduler/gridjobscheduler/TriggerKeyToStringPinLaw" = true := by first | (simp [plainName, overriddenIn]; done) | decide +kernel
theorem d2_0 : decode method_2_code 0 = .ok (.iload_n 0, 1) := by decide +kernel
theorem d2_1 : decode method_2_code 1 = .ok (.bipush 9, 2) := by decide +kernel
theorem d2_3 : decode method_2_code 3 = .ok (.if_icmp .lt 9, 3) := by decide +kernel
theorem d2_12 : decode method_2_code 12 = .ok (.iload_n 0, 1) := by decide +kernel
theorem d2_13 : decode method_2_code 13 = .ok (.bipush 28, 2) := by decide +kernel
theorem d2_15 : decode method_2_code 15 = .ok (.if_icmp .lt 13, 3) := by decide +kernel
theorem d2_28 : decode method_2_code 28 = .ok (.iconst 0, 1) := by decide +kernel
theorem d2_29 : decode method_2_code 29 = .ok (.ireturn, 1) := by decide +kernel
theorem d2_18 : decode method_2_code 18 = .ok (.iload_n 0, 1) := by decide +kernel
theorem d2_19 : decode method_2_code 19 = .ok (.bipush 32, 2) := by decide +kernel
theorem d2_21 : decode method_2_code 21 = .ok (.if_icmp .gt 7, 3) := by decide +kernel
theorem d2_24 : decode method_2_code 24 = .ok (.iconst 1, 1) := by decide +kernel
theorem d2_25 : decode method_2_code 25 = .ok (.goto 4, 3) := by decide +kernel
theorem d2_6 : decode method_2_code 6 = .ok (.iload_n 0, 1) := by decide +kernel
theorem d2_7 : decode method_2_code 7 = .ok (.bipush 13, 2) := by decide +kernel
theorem d2_9 : decode method_2_code 9 = .ok (.if_icmp .le 15, 3) := by decide +kernel
set_option maxRecDepth 65536 in
set_option maxHeartbeats 40000000 in
theorem rm2 (l : Launch) (Z : State) (a0 : Array Value) (hw : ∀ d ∈ tables_1, d.before a0 Z = true) (ws : List Jvm.Cond) (c1 : Int32) (ms : List Addr) (h0 : Heap) (n0 : Nat) (O0 : Old Z n0 h0) (nb : Nat) (hb0 : n0 ≤ nb) (hnb : nb ≤ h0.size) :
    Con l Z ms (⟨"com/example/grid_job_scheduler/gridjobscheduler/TriggerKeyToStringPinLaw", "ws", "(C)Z"⟩ : MethodName) method_2_code 1 (some .boolean) ws ({ frames := 0, cells := 0, slots := 0, locals := 0 } : Room) #[(.int c1)] h0 (fun v vm h L => v = some (.int (wsV c1)) ∧ Fr nb L ∧ h = h0) := by
  refine Con.mk (plainFor_of_name pn12) ?_
  intro p e s m below meth c s₁ Cc X0 e0 eb J0 B0 M0
  obtain ⟨hx, hZ, hown, hby, hml, hnm, hret, hlk⟩ := id Cc
  have N0 := Fr.nil h0.size
  have K0 := Keep.refl h0 []
  show Go p e s below _ _ _ _ s₁ (mkF m 0 #[.val (.int c1)] [])
  refine Go.of (fun _ hr => XS.iloadN X0.here hx rfl (hb hby d2_0) rfl  hr) ?_
  show Go p e s below _ _ _ _ s₁ (mkF m 1 #[.val (.int c1)] [(.int c1)])
  refine Go.of (fun _ hr => XS.bipush X0.here hx rfl (hb hby d2_1) hr) ?_
  show Go p e s below _ _ _ _ s₁ (mkF m 3 #[.val (.int c1)] [(.int (9 : Int32)), (.int c1)])
  by_cases hb3_101 : c1 < (9 : Int32)
  · refine Go.of (fun _ hr => XS.icmpYes X0.here hx rfl (pc0 := 3) (pc' := 12) rfl (hb hby d2_3) rfl (tlt hb3_101).1 (by decide) (by decide) hr) ?_
    show Go p e s below _ _ _ _ s₁ (mkF m 12 #[.val (.int c1)] [])
    refine Go.of (fun _ hr => XS.iloadN X0.here hx rfl (hb hby d2_12) rfl  hr) ?_
    show Go p e s below _ _ _ _ s₁ (mkF m 13 #[.val (.int c1)] [(.int c1)])
    refine Go.of (fun _ hr => XS.bipush X0.here hx rfl (hb hby d2_13) hr) ?_
    show Go p e s below _ _ _ _ s₁ (mkF m 15 #[.val (.int c1)] [(.int (28 : Int32)), (.int c1)])
    by_cases hb15_102 : c1 < (28 : Int32)
    · refine Go.of (fun _ hr => XS.icmpYes X0.here hx rfl (pc0 := 15) (pc' := 28) rfl (hb hby d2_15) rfl (tlt hb15_102).1 (by decide) (by decide) hr) ?_
      show Go p e s below _ _ _ _ s₁ (mkF m 28 #[.val (.int c1)] [])
      refine Go.of (fun _ hr => XS.iconst X0.here hx rfl (hb hby d2_28) hr) ?_
      show Go p e s below _ _ _ _ s₁ (mkF m 29 #[.val (.int c1)] [(.int (0 : Int32))])
      exact Go.retN X0 hx hlk B0 J0 e0 (t := .boolean) (z' := (0 : Int32)) hret (by simp) (hb hby d2_29) rfl (by decide) (by decide) (fun vm_ hw_ => ⟨(by simp [wsV, hb3_101, hb15_102]), (fun y hy => Nat.le_trans hnb (N0 y hy)), rfl⟩)
    · refine Go.of (fun _ hr => XS.icmpNo X0.here hx rfl (hb hby d2_15) rfl (flt hb15_102).1 hr) ?_
      show Go p e s below _ _ _ _ s₁ (mkF m 18 #[.val (.int c1)] [])
      refine Go.of (fun _ hr => XS.iloadN X0.here hx rfl (hb hby d2_18) rfl  hr) ?_
      show Go p e s below _ _ _ _ s₁ (mkF m 19 #[.val (.int c1)] [(.int c1)])
      refine Go.of (fun _ hr => XS.bipush X0.here hx rfl (hb hby d2_19) hr) ?_
      show Go p e s below _ _ _ _ s₁ (mkF m 21 #[.val (.int c1)] [(.int (32 : Int32)), (.int c1)])
      by_cases hb21_103 : (32 : Int32) < c1
      · refine Go.of (fun _ hr => XS.icmpYes X0.here hx rfl (pc0 := 21) (pc' := 28) rfl (hb hby d2_21) rfl (tlt hb21_103).2.2.1 (by decide) (by decide) hr) ?_
        show Go p e s below _ _ _ _ s₁ (mkF m 28 #[.val (.int c1)] [])
        refine Go.of (fun _ hr => XS.iconst X0.here hx rfl (hb hby d2_28) hr) ?_
        show Go p e s below _ _ _ _ s₁ (mkF m 29 #[.val (.int c1)] [(.int (0 : Int32))])
        exact Go.retN X0 hx hlk B0 J0 e0 (t := .boolean) (z' := (0 : Int32)) hret (by simp) (hb hby d2_29) rfl (by decide) (by decide) (fun vm_ hw_ => ⟨(by simp [wsV, hb3_101, hb15_102, hb21_103]), (fun y hy => Nat.le_trans hnb (N0 y hy)), rfl⟩)
      · refine Go.of (fun _ hr => XS.icmpNo X0.here hx rfl (hb hby d2_21) rfl (flt hb21_103).2.2.1 hr) ?_
        show Go p e s below _ _ _ _ s₁ (mkF m 24 #[.val (.int c1)] [])
        refine Go.of (fun _ hr => XS.iconst X0.here hx rfl (hb hby d2_24) hr) ?_
        show Go p e s below _ _ _ _ s₁ (mkF m 25 #[.val (.int c1)] [(.int (1 : Int32))])
        refine Go.of (fun _ hr => XS.goto X0.here hx rfl (pc0 := 25) (pc' := 29) rfl (hb hby d2_25) (by decide) (by decide) hr) ?_
        show Go p e s below _ _ _ _ s₁ (mkF m 29 #[.val (.int c1)] [(.int (1 : Int32))])
        exact Go.retN X0 hx hlk B0 J0 e0 (t := .boolean) (z' := (1 : Int32)) hret (by simp) (hb hby d2_29) rfl (by decide) (by decide) (fun vm_ hw_ => ⟨(by simp [wsV, hb3_101, hb15_102, hb21_103]), (fun y hy => Nat.le_trans hnb (N0 y hy)), rfl⟩)
  · refine Go.of (fun _ hr => XS.icmpNo X0.here hx rfl (hb hby d2_3) rfl (flt hb3_101).1 hr) ?_
    show Go p e s below _ _ _ _ s₁ (mkF m 6 #[.val (.int c1)] [])
    refine Go.of (fun _ hr => XS.iloadN X0.here hx rfl (hb hby d2_6) rfl  hr) ?_
    show Go p e s below _ _ _ _ s₁ (mkF m 7 #[.val (.int c1)] [(.int c1)])
    refine Go.of (fun _ hr => XS.bipush X0.here hx rfl (hb hby d2_7) hr) ?_
    show Go p e s below _ _ _ _ s₁ (mkF m 9 #[.val (.int c1)] [(.int (13 : Int32)), (.int c1)])
    by_cases hb9_104 : (13 : Int32) < c1
    · refine Go.of (fun _ hr => XS.icmpNo X0.here hx rfl (hb hby d2_9) rfl (tlt hb9_104).2.2.2 hr) ?_
      show Go p e s below _ _ _ _ s₁ (mkF m 12 #[.val (.int c1)] [])
      refine Go.of (fun _ hr => XS.iloadN X0.here hx rfl (hb hby d2_12) rfl  hr) ?_
      show Go p e s below _ _ _ _ s₁ (mkF m 13 #[.val (.int c1)] [(.int c1)])
      refine Go.of (fun _ hr => XS.bipush X0.here hx rfl (hb hby d2_13) hr) ?_
      show Go p e s below _ _ _ _ s₁ (mkF m 15 #[.val (.int c1)] [(.int (28 : Int32)), (.int c1)])
      by_cases hb15_105 : c1 < (28 : Int32)
      · refine Go.of (fun _ hr => XS.icmpYes X0.here hx rfl (pc0 := 15) (pc' := 28) rfl (hb hby d2_15) rfl (tlt hb15_105).1 (by decide) (by decide) hr) ?_
        show Go p e s below _ _ _ _ s₁ (mkF m 28 #[.val (.int c1)] [])
        refine Go.of (fun _ hr => XS.iconst X0.here hx rfl (hb hby d2_28) hr) ?_
        show Go p e s below _ _ _ _ s₁ (mkF m 29 #[.val (.int c1)] [(.int (0 : Int32))])
        exact Go.retN X0 hx hlk B0 J0 e0 (t := .boolean) (z' := (0 : Int32)) hret (by simp) (hb hby d2_29) rfl (by decide) (by decide) (fun vm_ hw_ => ⟨(by simp [wsV, hb3_101, hb9_104, hb15_105]), (fun y hy => Nat.le_trans hnb (N0 y hy)), rfl⟩)
      · refine Go.of (fun _ hr => XS.icmpNo X0.here hx rfl (hb hby d2_15) rfl (flt hb15_105).1 hr) ?_
        show Go p e s below _ _ _ _ s₁ (mkF m 18 #[.val (.int c1)] [])
        refine Go.of (fun _ hr => XS.iloadN X0.here hx rfl (hb hby d2_18) rfl  hr) ?_
        show Go p e s below _ _ _ _ s₁ (mkF m 19 #[.val (.int c1)] [(.int c1)])
        refine Go.of (fun _ hr => XS.bipush X0.here hx rfl (hb hby d2_19) hr) ?_
        show Go p e s below _ _ _ _ s₁ (mkF m 21 #[.val (.int c1)] [(.int (32 : Int32)), (.int c1)])
        by_cases hb21_106 : (32 : Int32) < c1
        · refine Go.of (fun _ hr => XS.icmpYes X0.here hx rfl (pc0 := 21) (pc' := 28) rfl (hb hby d2_21) rfl (tlt hb21_106).2.2.1 (by decide) (by decide) hr) ?_
          show Go p e s below _ _ _ _ s₁ (mkF m 28 #[.val (.int c1)] [])
          refine Go.of (fun _ hr => XS.iconst X0.here hx rfl (hb hby d2_28) hr) ?_
          show Go p e s below _ _ _ _ s₁ (mkF m 29 #[.val (.int c1)] [(.int (0 : Int32))])
          exact Go.retN X0 hx hlk B0 J0 e0 (t := .boolean) (z' := (0 : Int32)) hret (by simp) (hb hby d2_29) rfl (by decide) (by decide) (fun vm_ hw_ => ⟨(by simp [wsV, hb3_101, hb9_104, hb15_105, hb21_106]), (fun y hy => Nat.le_trans hnb (N0 y hy)), rfl⟩)
        · refine Go.of (fun _ hr => XS.icmpNo X0.here hx rfl (hb hby d2_21) rfl (flt hb21_106).2.2.1 hr) ?_
          show Go p e s below _ _ _ _ s₁ (mkF m 24 #[.val (.int c1)] [])
          refine Go.of (fun _ hr => XS.iconst X0.here hx rfl (hb hby d2_24) hr) ?_
          show Go p e s below _ _ _ _ s₁ (mkF m 25 #[.val (.int c1)] [(.int (1 : Int32))])
          refine Go.of (fun _ hr => XS.goto X0.here hx rfl (pc0 := 25) (pc' := 29) rfl (hb hby d2_25) (by decide) (by decide) hr) ?_
          show Go p e s below _ _ _ _ s₁ (mkF m 29 #[.val (.int c1)] [(.int (1 : Int32))])
          exact Go.retN X0 hx hlk B0 J0 e0 (t := .boolean) (z' := (1 : Int32)) hret (by simp) (hb hby d2_29) rfl (by decide) (by decide) (fun vm_ hw_ => ⟨(by simp [wsV, hb3_101, hb9_104, hb15_105, hb21_106]), (fun y hy => Nat.le_trans hnb (N0 y hy)), rfl⟩)
    · refine Go.of (fun _ hr => XS.icmpYes X0.here hx rfl (pc0 := 9) (pc' := 24) rfl (hb hby d2_9) rfl (flt hb9_104).2.2.2 (by decide) (by decide) hr) ?_
      show Go p e s below _ _ _ _ s₁ (mkF m 24 #[.val (.int c1)] [])
      refine Go.of (fun _ hr => XS.iconst X0.here hx rfl (hb hby d2_24) hr) ?_
      show Go p e s below _ _ _ _ s₁ (mkF m 25 #[.val (.int c1)] [(.int (1 : Int32))])
      refine Go.of (fun _ hr => XS.goto X0.here hx rfl (pc0 := 25) (pc' := 29) rfl (hb hby d2_25) (by decide) (by decide) hr) ?_
      show Go p e s below _ _ _ _ s₁ (mkF m 29 #[.val (.int c1)] [(.int (1 : Int32))])
      exact Go.retN X0 hx hlk B0 J0 e0 (t := .boolean) (z' := (1 : Int32)) hret (by simp) (hb hby d2_29) rfl (by decide) (by decide) (fun vm_ hw_ => ⟨(by simp [wsV, hb3_101, hb9_104]), (fun y hy => Nat.le_trans hnb (N0 y hy)), rfl⟩)

theorem wsV0 {c : Int32} (h : wsV c = 0) : ¬ wsP c := fun q => by
  have r : (¬ c < 9 ∧ ¬ 13 < c) ∨ (¬ c < 28 ∧ ¬ 32 < c) := q
  rw [wsV, if_pos r] at h; exact absurd h (by decide)
def nbP (n a b c : Int32) : Prop := wsV a = 0 ∨ (¬ n < 2 ∧ wsV b = 0) ∨ (¬ n < 3 ∧ wsV c = 0)
theorem rem3b (x : Int32) : (1 : Int32) + (x &&& 127) % 3 = 1 ∨ (1 : Int32) + (x &&& 127) % 3 = 2 ∨ (1 : Int32) + (x &&& 127) % 3 = 3 := by
  have q := c_and x 127 (by decide)
  have b := (c_irem (x &&& 127) 3 3 (by decide)).1 q.1
  generalize (x &&& 127) % 3 = z at b ⊢
  have hz3 : z.toInt = 0 ∨ z.toInt = 1 ∨ z.toInt = 2 := by omega
  rcases hz3 with q | q | q
  · have : z = 0 := Int32.toInt_inj.mp q
    rw [this]; exact Or.inl (by decide)
  · have : z = 1 := Int32.toInt_inj.mp q
    rw [this]; exact Or.inr (Or.inl (by decide))
  · have : z = 2 := Int32.toInt_inj.mp q
    rw [this]; exact Or.inr (Or.inr (by decide))
/-- a text of signs that says something -/
def okL (cs : List Int32) : Prop := (1 ≤ cs.length ∧ cs.length ≤ 3) ∧ (∀ x ∈ cs, rng x) ∧ ∃ j, j < cs.length ∧ ¬ wsP (cs.getD j 0)
theorem okL_le {cs : List Int32} (h : okL cs) : (cs.map lo8).length ≤ 3 := by rw [List.length_map]; exact h.1.2
theorem okL_nb {cs : List Int32} (h : okL cs) : ∃ j, j < (cs.map lo8).length ∧ ¬ spV (chV (cs.map lo8) (Int32.ofNat j)) := by
  obtain ⟨⟨h1, h2⟩, hr, j, hj, hw⟩ := h
  refine ⟨j, by rw [List.length_map]; exact hj, ?_⟩
  rw [chV_map hr hj (by omega)]
  exact sp_of_ws (hr _ (mem_getD hj)) hw

theorem okL1 {n a b c : Int32} (hr : n = 1 ∨ n = 2 ∨ n = 3) (h : nbP n a b c) (ha : rng a) (e : n = 1) : okL [a] := by
  subst e
  refine ⟨⟨by simp, by simp⟩, by intro x hx; cases List.mem_singleton.mp hx; exact ha, 0, by simp, ?_⟩
  rcases h with h | ⟨h, -⟩ | ⟨h, -⟩
  · exact wsV0 h
  · exact absurd (by decide) h
  · exact absurd (by decide) h
theorem okL2 {n a b c : Int32} (hr : n = 1 ∨ n = 2 ∨ n = 3) (h : nbP n a b c) (ha : rng a) (hb : rng b) (e1 : ¬ n = 1) (e : n = 2) : okL [a, b] := by
  subst e
  refine ⟨⟨by simp, by simp⟩, by intro x hx; simp only [List.mem_cons, List.not_mem_nil, or_false] at hx; rcases hx with rfl | rfl <;> assumption, ?_⟩
  rcases h with h | ⟨-, h⟩ | ⟨h, -⟩
  · exact ⟨0, by simp, wsV0 h⟩
  · exact ⟨1, by simp, wsV0 h⟩
  · exact absurd (by decide) h
theorem okL3 {n a b c : Int32} (hr : n = 1 ∨ n = 2 ∨ n = 3) (h : nbP n a b c) (ha : rng a) (hb : rng b) (hc : rng c) (e1 : ¬ n = 1) (e2 : ¬ n = 2) : okL [a, b, c] := by
  refine ⟨⟨by simp, by simp⟩, by intro x hx; simp only [List.mem_cons, List.not_mem_nil, or_false] at hx; rcases hx with rfl | rfl | rfl <;> assumption, ?_⟩
  rcases h with h | ⟨-, h⟩ | ⟨-, h⟩
  · exact ⟨0, by simp, wsV0 h⟩
  · exact ⟨1, by simp, wsV0 h⟩
  · exact ⟨2, by simp, wsV0 h⟩

theorem d1_0 : decode method_3_code 0 = .ok (.iload_n 0, 1) := by decide +kernel
theorem d1_1 : decode method_3_code 1 = .ok (.sipush 255, 3) := by decide +kernel
theorem d1_4 : decode method_3_code 4 = .ok (.iand, 1) := by decide +kernel
theorem d1_5 : decode method_3_code 5 = .ok (.i2c, 1) := by decide +kernel
theorem d1_6 : decode method_3_code 6 = .ok (.istore_n 1, 1) := by decide +kernel
theorem d1_7 : decode method_3_code 7 = .ok (.iload_n 0, 1) := by decide +kernel
theorem d1_8 : decode method_3_code 8 = .ok (.bipush 8, 2) := by decide +kernel
theorem d1_10 : decode method_3_code 10 = .ok (.iushr, 1) := by decide +kernel
theorem d1_11 : decode method_3_code 11 = .ok (.sipush 255, 3) := by decide +kernel
theorem d1_14 : decode method_3_code 14 = .ok (.iand, 1) := by decide +kernel
theorem d1_15 : decode method_3_code 15 = .ok (.i2c, 1) := by decide +kernel
theorem d1_16 : decode method_3_code 16 = .ok (.istore_n 2, 1) := by decide +kernel
theorem d1_17 : decode method_3_code 17 = .ok (.iload_n 0, 1) := by decide +kernel
theorem d1_18 : decode method_3_code 18 = .ok (.bipush 16, 2) := by decide +kernel
theorem d1_20 : decode method_3_code 20 = .ok (.iushr, 1) := by decide +kernel
theorem d1_21 : decode method_3_code 21 = .ok (.sipush 255, 3) := by decide +kernel
theorem d1_24 : decode method_3_code 24 = .ok (.iand, 1) := by decide +kernel
theorem d1_25 : decode method_3_code 25 = .ok (.i2c, 1) := by decide +kernel
theorem d1_26 : decode method_3_code 26 = .ok (.istore_n 3, 1) := by decide +kernel
theorem d1_27 : decode method_3_code 27 = .ok (.iconst 1, 1) := by decide +kernel
theorem d1_28 : decode method_3_code 28 = .ok (.iload_n 0, 1) := by decide +kernel
theorem d1_29 : decode method_3_code 29 = .ok (.bipush 24, 2) := by decide +kernel
theorem d1_31 : decode method_3_code 31 = .ok (.iushr, 1) := by decide +kernel
theorem d1_32 : decode method_3_code 32 = .ok (.bipush 127, 2) := by decide +kernel
theorem d1_34 : decode method_3_code 34 = .ok (.iand, 1) := by decide +kernel
theorem d1_35 : decode method_3_code 35 = .ok (.iconst 3, 1) := by decide +kernel
theorem d1_36 : decode method_3_code 36 = .ok (.irem, 1) := by decide +kernel
theorem d1_37 : decode method_3_code 37 = .ok (.iadd, 1) := by decide +kernel
theorem d1_38 : decode method_3_code 38 = .ok (.istore 4, 2) := by decide +kernel
theorem d1_40 : decode method_3_code 40 = .ok (.iload_n 1, 1) := by decide +kernel
theorem d1_41 : decode method_3_code 41 = .ok (.invokestatic 7, 3) := by decide +kernel
theorem pd29 : parseMethodDescriptor "(C)Z" = some ⟨[.char], some .boolean⟩ := by decide +kernel
theorem d1_88 : decode method_3_code 88 = .ok (.iload 4, 2) := by decide +kernel
theorem d1_90 : decode method_3_code 90 = .ok (.iconst 1, 1) := by decide +kernel
theorem d1_91 : decode method_3_code 91 = .ok (.if_icmp .ne 23, 3) := by decide +kernel
theorem d1_94 : decode method_3_code 94 = .ok (.iconst 1, 1) := by decide +kernel
theorem d1_95 : decode method_3_code 95 = .ok (.newarray .char, 2) := by decide +kernel
theorem d1_97 : decode method_3_code 97 = .ok (.astore 6, 2) := by decide +kernel
theorem d1_99 : decode method_3_code 99 = .ok (.aload 6, 2) := by decide +kernel
theorem d1_101 : decode method_3_code 101 = .ok (.iconst 0, 1) := by decide +kernel
theorem d1_102 : decode method_3_code 102 = .ok (.iload_n 1, 1) := by decide +kernel
theorem d1_103 : decode method_3_code 103 = .ok (.castore, 1) := by decide +kernel
theorem d1_104 : decode method_3_code 104 = .ok (.new 13, 3) := by decide +kernel
theorem d1_107 : decode method_3_code 107 = .ok (.dup, 1) := by decide +kernel
theorem d1_108 : decode method_3_code 108 = .ok (.aload 6, 2) := by decide +kernel
theorem d1_110 : decode method_3_code 110 = .ok (.invokespecial 15, 3) := by decide +kernel
theorem pd30 : parseMethodDescriptor "([C)V" = some ⟨[(.array .char)], none⟩ := by decide +kernel
theorem d1_113 : decode method_3_code 113 = .ok (.areturn, 1) := by decide +kernel
theorem d1_114 : decode method_3_code 114 = .ok (.iload 4, 2) := by decide +kernel
theorem d1_116 : decode method_3_code 116 = .ok (.iconst 2, 1) := by decide +kernel
theorem d1_117 : decode method_3_code 117 = .ok (.if_icmp .ne 28, 3) := by decide +kernel
theorem d1_120 : decode method_3_code 120 = .ok (.iconst 2, 1) := by decide +kernel
theorem d1_121 : decode method_3_code 121 = .ok (.newarray .char, 2) := by decide +kernel
theorem d1_123 : decode method_3_code 123 = .ok (.astore 6, 2) := by decide +kernel
theorem d1_125 : decode method_3_code 125 = .ok (.aload 6, 2) := by decide +kernel
theorem d1_127 : decode method_3_code 127 = .ok (.iconst 0, 1) := by decide +kernel
theorem d1_128 : decode method_3_code 128 = .ok (.iload_n 1, 1) := by decide +kernel
theorem d1_129 : decode method_3_code 129 = .ok (.castore, 1) := by decide +kernel
theorem d1_130 : decode method_3_code 130 = .ok (.aload 6, 2) := by decide +kernel
theorem d1_132 : decode method_3_code 132 = .ok (.iconst 1, 1) := by decide +kernel
theorem d1_133 : decode method_3_code 133 = .ok (.iload_n 2, 1) := by decide +kernel
theorem d1_134 : decode method_3_code 134 = .ok (.castore, 1) := by decide +kernel
theorem d1_135 : decode method_3_code 135 = .ok (.new 13, 3) := by decide +kernel
theorem d1_138 : decode method_3_code 138 = .ok (.dup, 1) := by decide +kernel
theorem d1_139 : decode method_3_code 139 = .ok (.aload 6, 2) := by decide +kernel
theorem d1_141 : decode method_3_code 141 = .ok (.invokespecial 15, 3) := by decide +kernel
theorem d1_144 : decode method_3_code 144 = .ok (.areturn, 1) := by decide +kernel
theorem d1_145 : decode method_3_code 145 = .ok (.iconst 3, 1) := by decide +kernel
theorem d1_146 : decode method_3_code 146 = .ok (.newarray .char, 2) := by decide +kernel
theorem d1_148 : decode method_3_code 148 = .ok (.astore 6, 2) := by decide +kernel
theorem d1_150 : decode method_3_code 150 = .ok (.aload 6, 2) := by decide +kernel
theorem d1_152 : decode method_3_code 152 = .ok (.iconst 0, 1) := by decide +kernel
theorem d1_153 : decode method_3_code 153 = .ok (.iload_n 1, 1) := by decide +kernel
theorem d1_154 : decode method_3_code 154 = .ok (.castore, 1) := by decide +kernel
theorem d1_155 : decode method_3_code 155 = .ok (.aload 6, 2) := by decide +kernel
theorem d1_157 : decode method_3_code 157 = .ok (.iconst 1, 1) := by decide +kernel
theorem d1_158 : decode method_3_code 158 = .ok (.iload_n 2, 1) := by decide +kernel
theorem d1_159 : decode method_3_code 159 = .ok (.castore, 1) := by decide +kernel
theorem d1_160 : decode method_3_code 160 = .ok (.aload 6, 2) := by decide +kernel
theorem d1_162 : decode method_3_code 162 = .ok (.iconst 2, 1) := by decide +kernel
theorem d1_163 : decode method_3_code 163 = .ok (.iload_n 3, 1) := by decide +kernel
theorem d1_164 : decode method_3_code 164 = .ok (.castore, 1) := by decide +kernel
theorem d1_165 : decode method_3_code 165 = .ok (.new 13, 3) := by decide +kernel
theorem d1_168 : decode method_3_code 168 = .ok (.dup, 1) := by decide +kernel
theorem d1_169 : decode method_3_code 169 = .ok (.aload 6, 2) := by decide +kernel
theorem d1_171 : decode method_3_code 171 = .ok (.invokespecial 15, 3) := by decide +kernel
theorem d1_174 : decode method_3_code 174 = .ok (.areturn, 1) := by decide +kernel
theorem d1_44 : decode method_3_code 44 = .ok (.ifCond .eq 33, 3) := by decide +kernel
theorem d1_77 : decode method_3_code 77 = .ok (.iconst 0, 1) := by decide +kernel
theorem d1_78 : decode method_3_code 78 = .ok (.istore 5, 2) := by decide +kernel
theorem d1_80 : decode method_3_code 80 = .ok (.iload 5, 2) := by decide +kernel
theorem d1_82 : decode method_3_code 82 = .ok (.ifCond .eq 6, 3) := by decide +kernel
theorem d1_47 : decode method_3_code 47 = .ok (.iload 4, 2) := by decide +kernel
theorem d1_49 : decode method_3_code 49 = .ok (.iconst 2, 1) := by decide +kernel
theorem d1_50 : decode method_3_code 50 = .ok (.if_icmp .lt 10, 3) := by decide +kernel
theorem d1_60 : decode method_3_code 60 = .ok (.iload 4, 2) := by decide +kernel
theorem d1_62 : decode method_3_code 62 = .ok (.iconst 3, 1) := by decide +kernel
theorem d1_63 : decode method_3_code 63 = .ok (.if_icmp .lt 10, 3) := by decide +kernel
theorem d1_73 : decode method_3_code 73 = .ok (.iconst 1, 1) := by decide +kernel
theorem d1_74 : decode method_3_code 74 = .ok (.goto 4, 3) := by decide +kernel
theorem d1_85 : decode method_3_code 85 = .ok (.bipush 107, 2) := by decide +kernel
theorem d1_87 : decode method_3_code 87 = .ok (.istore_n 1, 1) := by decide +kernel
theorem d1_66 : decode method_3_code 66 = .ok (.iload_n 3, 1) := by decide +kernel
theorem d1_67 : decode method_3_code 67 = .ok (.invokestatic 7, 3) := by decide +kernel
theorem d1_70 : decode method_3_code 70 = .ok (.ifCond .eq 7, 3) := by decide +kernel
theorem d1_53 : decode method_3_code 53 = .ok (.iload_n 2, 1) := by decide +kernel
theorem d1_54 : decode method_3_code 54 = .ok (.invokestatic 7, 3) := by decide +kernel
theorem d1_57 : decode method_3_code 57 = .ok (.ifCond .eq 20, 3) := by decide +kernel
set_option maxRecDepth 65536 in
set_option maxHeartbeats 40000000 in
theorem rm1 (l : Launch) (Z : State) (a0 : Array Value) (hw : ∀ d ∈ tables_1, d.before a0 Z = true) (ws : List Jvm.Cond) (p1 : Int32) (zc : Int32) (ms : List Addr) (h0 : Heap) (n0 : Nat) (O0 : Old Z n0 h0) (nb : Nat) (hb0 : n0 ≤ nb) (hnb : nb ≤ h0.size) (S_C : Sta Z Z.heap "java/lang/String" "COMPACT_STRINGS" "Z" (.int zc)) (hzc : ¬ zc = 0) :
    Con l Z ms (⟨"com/example/grid_job_scheduler/gridjobscheduler/TriggerKeyToStringPinLaw", "draw", "(I)Ljava/lang/String;"⟩ : MethodName) method_3_code 7 (some (.object "java/lang/String")) ws ({ frames := 4, cells := 3, slots := 10, locals := 66 } : Room) #[(.int p1)] h0 (fun v vm h L => ∃ r t k cs, v = some (.ref r) ∧ Fr nb L ∧ Ext h0 h ∧ h0.size ≤ r ∧ okL cs ∧ t ∉ ms ∧ Exa Z h r "java/lang/String" ∧ Fld Z h r "java/lang/String" "value" "[B" (.ref t) ∧ Fld Z h r "java/lang/String" "coder" "B" (.int 0) ∧ Arv Z h t k .byte (Int32.ofNat (cs.map lo8).length) ((cs.map lo8).map Value.int) (.int 0)) := by
  refine Con.mk (plainFor_of_name pn12) ?_
  intro p e s m below meth c s₁ Cc X0 e0 eb J0 B0 M0
  obtain ⟨hx, hZ, hown, hby, hml, hnm, hret, hlk⟩ := id Cc
  have N0 := Fr.nil h0.size
  have K0 := Keep.refl h0 []
  show Go p e s below _ _ _ _ s₁ (mkF m 0 #[.val (.int p1), .unset, .unset, .unset, .unset, .unset, .unset] [])
  refine Go.of (fun _ hr => XS.iloadN X0.here hx rfl (hb hby d1_0) rfl  hr) ?_
  show Go p e s below _ _ _ _ s₁ (mkF m 1 #[.val (.int p1), .unset, .unset, .unset, .unset, .unset, .unset] [(.int p1)])
  refine Go.of (fun _ hr => XS.sipush X0.here hx rfl (hb hby d1_1) hr) ?_
  show Go p e s below _ _ _ _ s₁ (mkF m 4 #[.val (.int p1), .unset, .unset, .unset, .unset, .unset, .unset] [(.int (255 : Int32)), (.int p1)])
  refine Go.of (fun _ hr => XS.iand X0.here hx rfl (hb hby d1_4) rfl hr) ?_
  show Go p e s below _ _ _ _ s₁ (mkF m 5 #[.val (.int p1), .unset, .unset, .unset, .unset, .unset, .unset] [(.int (p1 &&& (255 : Int32)))])
  refine Go.of (fun _ hr => XS.i2c X0.here hx rfl (hb hby d1_5) rfl hr) ?_
  show Go p e s below _ _ _ _ s₁ (mkF m 6 #[.val (.int p1), .unset, .unset, .unset, .unset, .unset, .unset] [(.int ((p1 &&& (255 : Int32)).toUInt32.toUInt16.toUInt32.toInt32))])
  have hq_c0 := chr8 p1
  generalize ((p1 &&& (255 : Int32)).toUInt32.toUInt16.toUInt32.toInt32) = c0 at hq_c0 ⊢
  show Go p e s below _ _ _ _ s₁ (mkF m 6 #[.val (.int p1), .unset, .unset, .unset, .unset, .unset, .unset] [(.int c0)])
  refine Go.of (fun _ hr => XS.istoreN X0.here hx rfl (hb hby d1_6) rfl (l' := #[.val (.int p1), .val (.int c0), .unset, .unset, .unset, .unset, .unset]) rfl hr) ?_
  show Go p e s below _ _ _ _ s₁ (mkF m 7 #[.val (.int p1), .val (.int c0), .unset, .unset, .unset, .unset, .unset] [])
  refine Go.of (fun _ hr => XS.iloadN X0.here hx rfl (hb hby d1_7) rfl  hr) ?_
  show Go p e s below _ _ _ _ s₁ (mkF m 8 #[.val (.int p1), .val (.int c0), .unset, .unset, .unset, .unset, .unset] [(.int p1)])
  refine Go.of (fun _ hr => XS.bipush X0.here hx rfl (hb hby d1_8) hr) ?_
  show Go p e s below _ _ _ _ s₁ (mkF m 10 #[.val (.int p1), .val (.int c0), .unset, .unset, .unset, .unset, .unset] [(.int (8 : Int32)), (.int p1)])
  refine Go.of (fun _ hr => XS.iushr X0.here hx rfl (hb hby d1_10) rfl hr) ?_
  show Go p e s below _ _ _ _ s₁ (mkF m 11 #[.val (.int p1), .val (.int c0), .unset, .unset, .unset, .unset, .unset] [(.int ((p1.toUInt32 >>> ((8 : Int32) &&& 31).toUInt32).toInt32))])
  refine Go.of (fun _ hr => XS.sipush X0.here hx rfl (hb hby d1_11) hr) ?_
  show Go p e s below _ _ _ _ s₁ (mkF m 14 #[.val (.int p1), .val (.int c0), .unset, .unset, .unset, .unset, .unset] [(.int (255 : Int32)), (.int ((p1.toUInt32 >>> ((8 : Int32) &&& 31).toUInt32).toInt32))])
  refine Go.of (fun _ hr => XS.iand X0.here hx rfl (hb hby d1_14) rfl hr) ?_
  show Go p e s below _ _ _ _ s₁ (mkF m 15 #[.val (.int p1), .val (.int c0), .unset, .unset, .unset, .unset, .unset] [(.int (((p1.toUInt32 >>> ((8 : Int32) &&& 31).toUInt32).toInt32) &&& (255 : Int32)))])
  refine Go.of (fun _ hr => XS.i2c X0.here hx rfl (hb hby d1_15) rfl hr) ?_
  show Go p e s below _ _ _ _ s₁ (mkF m 16 #[.val (.int p1), .val (.int c0), .unset, .unset, .unset, .unset, .unset] [(.int ((((p1.toUInt32 >>> ((8 : Int32) &&& 31).toUInt32).toInt32) &&& (255 : Int32)).toUInt32.toUInt16.toUInt32.toInt32))])
  have hq_c1 := chr8 ((p1.toUInt32 >>> ((8 : Int32) &&& 31).toUInt32).toInt32)
  generalize ((((p1.toUInt32 >>> ((8 : Int32) &&& 31).toUInt32).toInt32) &&& (255 : Int32)).toUInt32.toUInt16.toUInt32.toInt32) = c1 at hq_c1 ⊢
  show Go p e s below _ _ _ _ s₁ (mkF m 16 #[.val (.int p1), .val (.int c0), .unset, .unset, .unset, .unset, .unset] [(.int c1)])
  refine Go.of (fun _ hr => XS.istoreN X0.here hx rfl (hb hby d1_16) rfl (l' := #[.val (.int p1), .val (.int c0), .val (.int c1), .unset, .unset, .unset, .unset]) rfl hr) ?_
  show Go p e s below _ _ _ _ s₁ (mkF m 17 #[.val (.int p1), .val (.int c0), .val (.int c1), .unset, .unset, .unset, .unset] [])
  refine Go.of (fun _ hr => XS.iloadN X0.here hx rfl (hb hby d1_17) rfl  hr) ?_
  show Go p e s below _ _ _ _ s₁ (mkF m 18 #[.val (.int p1), .val (.int c0), .val (.int c1), .unset, .unset, .unset, .unset] [(.int p1)])
  refine Go.of (fun _ hr => XS.bipush X0.here hx rfl (hb hby d1_18) hr) ?_
  show Go p e s below _ _ _ _ s₁ (mkF m 20 #[.val (.int p1), .val (.int c0), .val (.int c1), .unset, .unset, .unset, .unset] [(.int (16 : Int32)), (.int p1)])
  refine Go.of (fun _ hr => XS.iushr X0.here hx rfl (hb hby d1_20) rfl hr) ?_
  show Go p e s below _ _ _ _ s₁ (mkF m 21 #[.val (.int p1), .val (.int c0), .val (.int c1), .unset, .unset, .unset, .unset] [(.int ((p1.toUInt32 >>> ((16 : Int32) &&& 31).toUInt32).toInt32))])
  refine Go.of (fun _ hr => XS.sipush X0.here hx rfl (hb hby d1_21) hr) ?_
  show Go p e s below _ _ _ _ s₁ (mkF m 24 #[.val (.int p1), .val (.int c0), .val (.int c1), .unset, .unset, .unset, .unset] [(.int (255 : Int32)), (.int ((p1.toUInt32 >>> ((16 : Int32) &&& 31).toUInt32).toInt32))])
  refine Go.of (fun _ hr => XS.iand X0.here hx rfl (hb hby d1_24) rfl hr) ?_
  show Go p e s below _ _ _ _ s₁ (mkF m 25 #[.val (.int p1), .val (.int c0), .val (.int c1), .unset, .unset, .unset, .unset] [(.int (((p1.toUInt32 >>> ((16 : Int32) &&& 31).toUInt32).toInt32) &&& (255 : Int32)))])
  refine Go.of (fun _ hr => XS.i2c X0.here hx rfl (hb hby d1_25) rfl hr) ?_
  show Go p e s below _ _ _ _ s₁ (mkF m 26 #[.val (.int p1), .val (.int c0), .val (.int c1), .unset, .unset, .unset, .unset] [(.int ((((p1.toUInt32 >>> ((16 : Int32) &&& 31).toUInt32).toInt32) &&& (255 : Int32)).toUInt32.toUInt16.toUInt32.toInt32))])
  have hq_c2 := chr8 ((p1.toUInt32 >>> ((16 : Int32) &&& 31).toUInt32).toInt32)
  generalize ((((p1.toUInt32 >>> ((16 : Int32) &&& 31).toUInt32).toInt32) &&& (255 : Int32)).toUInt32.toUInt16.toUInt32.toInt32) = c2 at hq_c2 ⊢
  show Go p e s below _ _ _ _ s₁ (mkF m 26 #[.val (.int p1), .val (.int c0), .val (.int c1), .unset, .unset, .unset, .unset] [(.int c2)])
  refine Go.of (fun _ hr => XS.istoreN X0.here hx rfl (hb hby d1_26) rfl (l' := #[.val (.int p1), .val (.int c0), .val (.int c1), .val (.int c2), .unset, .unset, .unset]) rfl hr) ?_
  show Go p e s below _ _ _ _ s₁ (mkF m 27 #[.val (.int p1), .val (.int c0), .val (.int c1), .val (.int c2), .unset, .unset, .unset] [])
  refine Go.of (fun _ hr => XS.iconst X0.here hx rfl (hb hby d1_27) hr) ?_
  show Go p e s below _ _ _ _ s₁ (mkF m 28 #[.val (.int p1), .val (.int c0), .val (.int c1), .val (.int c2), .unset, .unset, .unset] [(.int (1 : Int32))])
  refine Go.of (fun _ hr => XS.iloadN X0.here hx rfl (hb hby d1_28) rfl  hr) ?_
  show Go p e s below _ _ _ _ s₁ (mkF m 29 #[.val (.int p1), .val (.int c0), .val (.int c1), .val (.int c2), .unset, .unset, .unset] [(.int p1), (.int (1 : Int32))])
  refine Go.of (fun _ hr => XS.bipush X0.here hx rfl (hb hby d1_29) hr) ?_
  show Go p e s below _ _ _ _ s₁ (mkF m 31 #[.val (.int p1), .val (.int c0), .val (.int c1), .val (.int c2), .unset, .unset, .unset] [(.int (24 : Int32)), (.int p1), (.int (1 : Int32))])
  refine Go.of (fun _ hr => XS.iushr X0.here hx rfl (hb hby d1_31) rfl hr) ?_
  show Go p e s below _ _ _ _ s₁ (mkF m 32 #[.val (.int p1), .val (.int c0), .val (.int c1), .val (.int c2), .unset, .unset, .unset] [(.int ((p1.toUInt32 >>> ((24 : Int32) &&& 31).toUInt32).toInt32)), (.int (1 : Int32))])
  refine Go.of (fun _ hr => XS.bipush X0.here hx rfl (hb hby d1_32) hr) ?_
  show Go p e s below _ _ _ _ s₁ (mkF m 34 #[.val (.int p1), .val (.int c0), .val (.int c1), .val (.int c2), .unset, .unset, .unset] [(.int (127 : Int32)), (.int ((p1.toUInt32 >>> ((24 : Int32) &&& 31).toUInt32).toInt32)), (.int (1 : Int32))])
  refine Go.of (fun _ hr => XS.iand X0.here hx rfl (hb hby d1_34) rfl hr) ?_
  show Go p e s below _ _ _ _ s₁ (mkF m 35 #[.val (.int p1), .val (.int c0), .val (.int c1), .val (.int c2), .unset, .unset, .unset] [(.int (((p1.toUInt32 >>> ((24 : Int32) &&& 31).toUInt32).toInt32) &&& (127 : Int32))), (.int (1 : Int32))])
  refine Go.of (fun _ hr => XS.iconst X0.here hx rfl (hb hby d1_35) hr) ?_
  show Go p e s below _ _ _ _ s₁ (mkF m 36 #[.val (.int p1), .val (.int c0), .val (.int c1), .val (.int c2), .unset, .unset, .unset] [(.int (3 : Int32)), (.int (((p1.toUInt32 >>> ((24 : Int32) &&& 31).toUInt32).toInt32) &&& (127 : Int32))), (.int (1 : Int32))])
  refine Go.of (fun _ hr => iremM X0 hx rfl (hb hby d1_36) rfl (by decide) hr) ?_
  show Go p e s below _ _ _ _ s₁ (mkF m 37 #[.val (.int p1), .val (.int c0), .val (.int c1), .val (.int c2), .unset, .unset, .unset] [(.int ((((p1.toUInt32 >>> ((24 : Int32) &&& 31).toUInt32).toInt32) &&& (127 : Int32)) % (3 : Int32))), (.int (1 : Int32))])
  refine Go.of (fun _ hr => XS.iadd X0.here hx rfl (hb hby d1_37) rfl hr) ?_
  show Go p e s below _ _ _ _ s₁ (mkF m 38 #[.val (.int p1), .val (.int c0), .val (.int c1), .val (.int c2), .unset, .unset, .unset] [(.int ((1 : Int32) + ((((p1.toUInt32 >>> ((24 : Int32) &&& 31).toUInt32).toInt32) &&& (127 : Int32)) % (3 : Int32))))])
  have hr_n := rem3b ((p1.toUInt32 >>> ((24 : Int32) &&& 31).toUInt32).toInt32)
  generalize ((1 : Int32) + ((((p1.toUInt32 >>> ((24 : Int32) &&& 31).toUInt32).toInt32) &&& (127 : Int32)) % (3 : Int32))) = nn at hr_n ⊢
  show Go p e s below _ _ _ _ s₁ (mkF m 38 #[.val (.int p1), .val (.int c0), .val (.int c1), .val (.int c2), .unset, .unset, .unset] [(.int nn)])
  refine Go.of (fun _ hr => XS.istore X0.here hx rfl (hb hby d1_38) rfl (l' := #[.val (.int p1), .val (.int c0), .val (.int c1), .val (.int c2), .val (.int nn), .unset, .unset]) rfl hr) ?_
  show Go p e s below _ _ _ _ s₁ (mkF m 40 #[.val (.int p1), .val (.int c0), .val (.int c1), .val (.int c2), .val (.int nn), .unset, .unset] [])
  refine Go.of (fun _ hr => XS.iloadN X0.here hx rfl (hb hby d1_40) rfl  hr) ?_
  show Go p e s below _ _ _ _ s₁ (mkF m 41 #[.val (.int p1), .val (.int c0), .val (.int c1), .val (.int c2), .val (.int nn), .unset, .unset] [(.int c0)])
  obtain ⟨_, b101, T101, h101, L101, e101, Cc101, X101, B101, J101, g101, hQ101, st101⟩ := own_callS Cc B0 J0 X0 (hw _ (List.mem_of_getElem? (i := 4) rfl)) (hw _ (List.mem_of_getElem? (i := 5) rfl)) (hw _ (List.mem_of_getElem? (i := 2) rfl)) (hw _ (List.mem_of_getElem? (i := 6) rfl)) (by decide) (rm2 l Z a0 hw [] c0 _ h0 n0 O0 h0.size (own_ole O0) K0.1) e0 (g := (mkF m 41 #[.val (.int p1), .val (.int c0), .val (.int c1), .val (.int c2), .val (.int nn), .unset, .unset] [(.int c0)])) rfl (by rw [hml]; rfl) (argsL := [(.int c0)]) (rest := []) (lenOf pd29 rfl) rfl (W := 0) (by show 2 * 0 + _ ≤ _; exact Nat.le_of_eq rfl) (hb hby d1_41) (by decide) (by decide) (by decide) (by decide)
  obtain ⟨rfl, Nq101, hh101⟩ := hQ101
  have N101 := Fr.app N0 Nq101
  obtain ⟨hx, hZ, hown, hby, hml, hnm, hret, hlk⟩ := id Cc101
  rw [hh101] at e101 B101 J101
  refine Go.of st101 ?_
  show Go p e s below _ _ _ _ T101 (mkF m 44 #[.val (.int p1), .val (.int c0), .val (.int c1), .val (.int c2), .val (.int nn), .unset, .unset] [(.int (wsV c0))])
  refine Go.joinC (α := Int32 × Int32) Cc101 X101 J101 N101 (fun x_ => ((¬ x_.1 < 0 ∧ ¬ 255 < x_.1) ∧ nbP nn x_.1 c1 c2 ∧ x_.2 = x_.2)) (fun x_ => (mkF m 88 #[.val (.int p1), .val (.int x_.1), .val (.int c1), .val (.int c2), .val (.int nn), .val (.int x_.2), .unset] [])) ?_ ?_
  · rintro ⟨d0, bl⟩ b102 T102 L102 Cc102 X102 e102 B102 J102 N102 hj102
    replace hj102 : ((¬ d0 < 0 ∧ ¬ 255 < d0) ∧ nbP nn d0 c1 c2 ∧ bl = bl) := hj102
    obtain ⟨hx, hZ, hown, hby, hml, hnm, hret, hlk⟩ := id Cc102
    show Go p e s below _ _ _ _ T102 (mkF m 88 #[.val (.int p1), .val (.int d0), .val (.int c1), .val (.int c2), .val (.int nn), .val (.int bl), .unset] [])
    obtain ⟨hq_d0, hnb_, -⟩ := hj102
    refine Go.of (fun _ hr => XS.iload X102.here hx rfl (hb hby d1_88) rfl  hr) ?_
    show Go p e s below _ _ _ _ T102 (mkF m 90 #[.val (.int p1), .val (.int d0), .val (.int c1), .val (.int c2), .val (.int nn), .val (.int bl), .unset] [(.int nn)])
    refine Go.of (fun _ hr => XS.iconst X102.here hx rfl (hb hby d1_90) hr) ?_
    show Go p e s below _ _ _ _ T102 (mkF m 91 #[.val (.int p1), .val (.int d0), .val (.int c1), .val (.int c2), .val (.int nn), .val (.int bl), .unset] [(.int (1 : Int32)), (.int nn)])
    by_cases hb91_103 : nn = (1 : Int32)
    · refine Go.of (fun _ hr => XS.icmpNo X102.here hx rfl (hb hby d1_91) rfl (teq hb91_103).2 hr) ?_
      show Go p e s below _ _ _ _ T102 (mkF m 94 #[.val (.int p1), .val (.int d0), .val (.int c1), .val (.int c2), .val (.int nn), .val (.int bl), .unset] [])
      refine Go.of (fun _ hr => XS.iconst X102.here hx rfl (hb hby d1_94) hr) ?_
      show Go p e s below _ _ _ _ T102 (mkF m 95 #[.val (.int p1), .val (.int d0), .val (.int c1), .val (.int c2), .val (.int nn), .val (.int bl), .unset] [(.int (1 : Int32))])
      obtain ⟨T104, h104, k104, X104, e104, E104, A104, st104⟩ := newP X102 hx hZ (hw _ (List.mem_of_getElem? (i := 7) rfl)) e102 (g := (mkF m 95 #[.val (.int p1), .val (.int d0), .val (.int c1), .val (.int c2), .val (.int nn), .val (.int bl), .unset] [(.int (1 : Int32))])) rfl (hb hby d1_95) rfl (by decide) (cap := 1) (by decide) (by decide) (by decide) (by decide)
      obtain ⟨o104, g104⟩ : ∃ z, z = h0.size := ⟨_, rfl⟩
      rw [← g104] at A104 st104
      have V104 : Arv Z h104 o104 k104 .char (1 : Int32) [(.int (0 : Int32))] (.int (0 : Int32)) := (Arv.new A104 (by decide)).pad (pad_rep [] (.int (0 : Int32)) 1)
      have lt104 : o104 < h104.size := A104.lt
      have J104 := J102.add E104 g104 lt104
      have B104 := B102.mono E104.1
      have O104 := O0.ext E104
      have sz104 : h0.size ≤ o104 := Nat.le_trans K0.1 (Nat.le_of_eq g104.symm)
      have fr104 : h0.size ≤ o104 := sz104
      have K104 := K0.ext E104
      refine Go.of (fun _ hr => st104 _ hr) ?_
      show Go p e s below _ _ _ _ T104 (mkF m 97 #[.val (.int p1), .val (.int d0), .val (.int c1), .val (.int c2), .val (.int nn), .val (.int bl), .unset] [(.ref o104)])
      refine Go.of (fun _ hr => XS.astore X104.here hx rfl (hb hby d1_97) rfl rfl (l' := #[.val (.int p1), .val (.int d0), .val (.int c1), .val (.int c2), .val (.int nn), .val (.int bl), .val (.ref o104)]) rfl hr) ?_
      show Go p e s below _ _ _ _ T104 (mkF m 99 #[.val (.int p1), .val (.int d0), .val (.int c1), .val (.int c2), .val (.int nn), .val (.int bl), .val (.ref o104)] [])
      refine Go.of (fun _ hr => XS.aload X104.here hx rfl (hb hby d1_99) rfl rfl hr) ?_
      show Go p e s below _ _ _ _ T104 (mkF m 101 #[.val (.int p1), .val (.int d0), .val (.int c1), .val (.int c2), .val (.int nn), .val (.int bl), .val (.ref o104)] [(.ref o104)])
      refine Go.of (fun _ hr => XS.iconst X104.here hx rfl (hb hby d1_101) hr) ?_
      show Go p e s below _ _ _ _ T104 (mkF m 102 #[.val (.int p1), .val (.int d0), .val (.int c1), .val (.int c2), .val (.int nn), .val (.int bl), .val (.ref o104)] [(.int (0 : Int32)), (.ref o104)])
      refine Go.of (fun _ hr => XS.iloadN X104.here hx rfl (hb hby d1_102) rfl  hr) ?_
      show Go p e s below _ _ _ _ T104 (mkF m 103 #[.val (.int p1), .val (.int d0), .val (.int c1), .val (.int c2), .val (.int nn), .val (.int bl), .val (.ref o104)] [(.int d0), (.int (0 : Int32)), (.ref o104)])
      obtain ⟨cl105, Ar105, q105, S105, N105_, H105, G105⟩ := id V104
      have hin105 : ¬ ((0 : Int32) < 0 ∨ cl105.slots.size ≤ ((0 : Int32)).toNatClampNeg) := inb_of S105 ⟨by decide, by decide⟩
      obtain ⟨T105, h105, X105, e105, W105, st105⟩ := stC X104 hx hZ e104 Ar105 (j := (0 : Int32)) hin105 (g := (mkF m 103 #[.val (.int p1), .val (.int d0), .val (.int c1), .val (.int c2), .val (.int nn), .val (.int bl), .val (.ref o104)] [(.int d0), (.int (0 : Int32)), (.ref o104)])) rfl rfl (hb hby d1_103)
      have W105' := W105
      rw [show nar .char d0 = d0 from (nar_c hq_d0.1 (le255 hq_d0.2))] at W105'
      have V105 : Arv Z h105 o104 k104 .char (1 : Int32) [(.int d0)] (.int (0 : Int32)) := Arv.set Ar105 q105 S105 N105_ H105 G105 (fits_c hq_d0.1 (le255 hq_d0.2)) W105' 0 rfl (by simp)
      have N105 := Fr.snoc X105 N102 fr104
      have J105 := J104.wr W105 (List.mem_cons_self ..)
      have B105 := B104.mono (Nat.le_of_eq W105.size.symm)
      have O105 := O104.wr W105 (Nat.le_trans (own_ole O0) fr104)
      have K105 := K104.wr W105 (Or.inr sz104)
      refine Go.of (fun _ hr => st105 _ hr) ?_
      show Go p e s below _ _ _ _ T105 (mkF m 104 #[.val (.int p1), .val (.int d0), .val (.int c1), .val (.int c2), .val (.int nn), .val (.int bl), .val (.ref o104)] [])
      obtain ⟨T106, h106, X106, e106, E106, A106, D106, -, st106⟩ := newO X105 hx hZ hown (hw _ (List.mem_of_getElem? (i := 8) rfl)) (hw _ (List.mem_of_getElem? (i := 9) rfl)) (hw _ (List.mem_of_getElem? (i := 10) rfl)) e105 (g := (mkF m 104 #[.val (.int p1), .val (.int d0), .val (.int c1), .val (.int c2), .val (.int nn), .val (.int bl), .val (.ref o104)] [])) rfl (hb hby d1_104) (by decide) (by decide)
      obtain ⟨o106, g106⟩ : ∃ z, z = h105.size := ⟨_, rfl⟩
      rw [← g106] at A106 D106 st106
      have ne_o104_o106 : o104 ≠ o106 := Nat.ne_of_lt (Nat.lt_of_lt_of_le V105.lt (Nat.le_of_eq g106.symm))
      have lt106 : o106 < h106.size := A106.lt
      have J106 := J105.add E106 g106 lt106
      have B106 := B105.mono E106.1
      have O106 := O105.ext E106
      have sz106 : h0.size ≤ o106 := Nat.le_trans K105.1 (Nat.le_of_eq g106.symm)
      have fr106 : h0.size ≤ o106 := sz106
      have K106 := K105.ext E106
      have F106_coder : Fld Z h106 o106 "java/lang/String" "coder" "B" (.int (0 : Int32)) := D106 (Or.inr (hw _ (List.mem_of_getElem? (i := 34) rfl))) (ty := .byte) (by decide)
      have F106_value : Fld Z h106 o106 "java/lang/String" "value" "[B" .null := D106 (Or.inr (hw _ (List.mem_of_getElem? (i := 36) rfl))) (ty := (.array .byte)) (by decide)
      refine Go.of (fun _ hr => st106 _ hr) ?_
      show Go p e s below _ _ _ _ T106 (mkF m 107 #[.val (.int p1), .val (.int d0), .val (.int c1), .val (.int c2), .val (.int nn), .val (.int bl), .val (.ref o104)] [(.ref o106)])
      refine Go.of (fun _ hr => XS.dup X106.here hx rfl (hb hby d1_107) rfl rfl hr) ?_
      show Go p e s below _ _ _ _ T106 (mkF m 108 #[.val (.int p1), .val (.int d0), .val (.int c1), .val (.int c2), .val (.int nn), .val (.int bl), .val (.ref o104)] [(.ref o106), (.ref o106)])
      refine Go.of (fun _ hr => XS.aload X106.here hx rfl (hb hby d1_108) rfl rfl hr) ?_
      show Go p e s below _ _ _ _ T106 (mkF m 110 #[.val (.int p1), .val (.int d0), .val (.int c1), .val (.int c2), .val (.int nn), .val (.int bl), .val (.ref o104)] [(.ref o104), (.ref o106), (.ref o106)])
      have f108 := (V105.ext E106)
      obtain ⟨_, b107, T107, h107, L107, e107, Cc107, X107, B107, J107, g107, hQ107, st107⟩ := own_callI Cc102 B106 J106 X106 rfl (hw _ (List.mem_of_getElem? (i := 11) rfl)) (hw _ (List.mem_of_getElem? (i := 12) rfl)) (hw _ (List.mem_of_getElem? (i := 10) rfl)) (hw _ (List.mem_of_getElem? (i := 13) rfl)) (by decide) (rm3 l Z a0 hw [] o106 o104 _ [d0] _ _ zc _ h106 n0 O106 h0.size (own_ole O0) K106.1 fr106 (List.mem_cons_self ..) (by simp) (by intro x hx; simp only [List.mem_cons, List.not_mem_nil, or_false] at hx; rcases hx with rfl <;> assumption) (by simp) f108 ne_o104_o106 A106 F106_value F106_coder S_C hzc) e106 (g := (mkF m 110 #[.val (.int p1), .val (.int d0), .val (.int c1), .val (.int c2), .val (.int nn), .val (.int bl), .val (.ref o104)] [(.ref o104), (.ref o106), (.ref o106)])) rfl (by rw [hml]; rfl) (argsL := [(.ref o104)]) (rest := [(.ref o106)]) (lenOf pd30 rfl) rfl (W := 1) (by show 2 * 0 + _ ≤ _; exact Nat.le_of_eq rfl) (hb hby d1_110) (by decide) (by decide) (by decide) (by decide)
      obtain ⟨rfl, Nq107, Kq107, t107, kt107, nt107, Fv107, Fc107, Vt107⟩ := hQ107
      have N107 := Fr.app N105 Nq107
      obtain ⟨hx, hZ, hown, hby, hml, hnm, hret, hlk⟩ := id Cc107
      have K107 := K106.trans Kq107 (allS (Or.inr sz106) all0)
      have O107 := O106.keep Kq107 (allS (Nat.le_trans (own_ole O0) fr106) all0)
      refine Go.of st107 ?_
      have nx_t107_o106 : t107 ≠ o106 := fun q => nt107 (by rw [q]; exact (List.mem_cons_self ..))
      have nx_t107_o104 : t107 ≠ o104 := fun q => nt107 (by rw [q]; exact (List.mem_cons_of_mem _ (List.mem_cons_self ..)))
      show Go p e s below _ _ _ _ T107 (mkF m 113 #[.val (.int p1), .val (.int d0), .val (.int c1), .val (.int c2), .val (.int nn), .val (.int bl), .val (.ref o104)] [(.ref o106)])
      have f109 := (A106.keep Kq107)
      exact Go.retA X107 hx hlk B107 (J107.sub fun x hx => (List.mem_cons_of_mem _ (List.mem_cons_of_mem _ hx))) e107 hret rfl rfl (hb hby d1_113) (by decide) (by decide) (fun vm_ hw_ => ⟨_, _, _, _, rfl, (fun y hy => Nat.le_trans hnb (N107 y hy)), keep_ext K107, sz106, (okL1 hr_n hnb_ hq_d0 hb91_103), (fun hz => nt107 (List.mem_cons_of_mem _ (List.mem_cons_of_mem _ hz))), f109, Fv107, Fc107, Vt107⟩)
    · refine Go.of (fun _ hr => XS.icmpYes X102.here hx rfl (pc0 := 91) (pc' := 114) rfl (hb hby d1_91) rfl (feq hb91_103).2 (by decide) (by decide) hr) ?_
      show Go p e s below _ _ _ _ T102 (mkF m 114 #[.val (.int p1), .val (.int d0), .val (.int c1), .val (.int c2), .val (.int nn), .val (.int bl), .unset] [])
      refine Go.of (fun _ hr => XS.iload X102.here hx rfl (hb hby d1_114) rfl  hr) ?_
      show Go p e s below _ _ _ _ T102 (mkF m 116 #[.val (.int p1), .val (.int d0), .val (.int c1), .val (.int c2), .val (.int nn), .val (.int bl), .unset] [(.int nn)])
      refine Go.of (fun _ hr => XS.iconst X102.here hx rfl (hb hby d1_116) hr) ?_
      show Go p e s below _ _ _ _ T102 (mkF m 117 #[.val (.int p1), .val (.int d0), .val (.int c1), .val (.int c2), .val (.int nn), .val (.int bl), .unset] [(.int (2 : Int32)), (.int nn)])
      by_cases hb117_110 : nn = (2 : Int32)
      · refine Go.of (fun _ hr => XS.icmpNo X102.here hx rfl (hb hby d1_117) rfl (teq hb117_110).2 hr) ?_
        show Go p e s below _ _ _ _ T102 (mkF m 120 #[.val (.int p1), .val (.int d0), .val (.int c1), .val (.int c2), .val (.int nn), .val (.int bl), .unset] [])
        refine Go.of (fun _ hr => XS.iconst X102.here hx rfl (hb hby d1_120) hr) ?_
        show Go p e s below _ _ _ _ T102 (mkF m 121 #[.val (.int p1), .val (.int d0), .val (.int c1), .val (.int c2), .val (.int nn), .val (.int bl), .unset] [(.int (2 : Int32))])
        obtain ⟨T111, h111, k111, X111, e111, E111, A111, st111⟩ := newP X102 hx hZ (hw _ (List.mem_of_getElem? (i := 7) rfl)) e102 (g := (mkF m 121 #[.val (.int p1), .val (.int d0), .val (.int c1), .val (.int c2), .val (.int nn), .val (.int bl), .unset] [(.int (2 : Int32))])) rfl (hb hby d1_121) rfl (by decide) (cap := 2) (by decide) (by decide) (by decide) (by decide)
        obtain ⟨o111, g111⟩ : ∃ z, z = h0.size := ⟨_, rfl⟩
        rw [← g111] at A111 st111
        have V111 : Arv Z h111 o111 k111 .char (2 : Int32) [(.int (0 : Int32)), (.int (0 : Int32))] (.int (0 : Int32)) := (Arv.new A111 (by decide)).pad (pad_rep [] (.int (0 : Int32)) 2)
        have lt111 : o111 < h111.size := A111.lt
        have J111 := J102.add E111 g111 lt111
        have B111 := B102.mono E111.1
        have O111 := O0.ext E111
        have sz111 : h0.size ≤ o111 := Nat.le_trans K0.1 (Nat.le_of_eq g111.symm)
        have fr111 : h0.size ≤ o111 := sz111
        have K111 := K0.ext E111
        refine Go.of (fun _ hr => st111 _ hr) ?_
        show Go p e s below _ _ _ _ T111 (mkF m 123 #[.val (.int p1), .val (.int d0), .val (.int c1), .val (.int c2), .val (.int nn), .val (.int bl), .unset] [(.ref o111)])
        refine Go.of (fun _ hr => XS.astore X111.here hx rfl (hb hby d1_123) rfl rfl (l' := #[.val (.int p1), .val (.int d0), .val (.int c1), .val (.int c2), .val (.int nn), .val (.int bl), .val (.ref o111)]) rfl hr) ?_
        show Go p e s below _ _ _ _ T111 (mkF m 125 #[.val (.int p1), .val (.int d0), .val (.int c1), .val (.int c2), .val (.int nn), .val (.int bl), .val (.ref o111)] [])
        refine Go.of (fun _ hr => XS.aload X111.here hx rfl (hb hby d1_125) rfl rfl hr) ?_
        show Go p e s below _ _ _ _ T111 (mkF m 127 #[.val (.int p1), .val (.int d0), .val (.int c1), .val (.int c2), .val (.int nn), .val (.int bl), .val (.ref o111)] [(.ref o111)])
        refine Go.of (fun _ hr => XS.iconst X111.here hx rfl (hb hby d1_127) hr) ?_
        show Go p e s below _ _ _ _ T111 (mkF m 128 #[.val (.int p1), .val (.int d0), .val (.int c1), .val (.int c2), .val (.int nn), .val (.int bl), .val (.ref o111)] [(.int (0 : Int32)), (.ref o111)])
        refine Go.of (fun _ hr => XS.iloadN X111.here hx rfl (hb hby d1_128) rfl  hr) ?_
        show Go p e s below _ _ _ _ T111 (mkF m 129 #[.val (.int p1), .val (.int d0), .val (.int c1), .val (.int c2), .val (.int nn), .val (.int bl), .val (.ref o111)] [(.int d0), (.int (0 : Int32)), (.ref o111)])
        obtain ⟨cl112, Ar112, q112, S112, N112_, H112, G112⟩ := id V111
        have hin112 : ¬ ((0 : Int32) < 0 ∨ cl112.slots.size ≤ ((0 : Int32)).toNatClampNeg) := inb_of S112 ⟨by decide, by decide⟩
        obtain ⟨T112, h112, X112, e112, W112, st112⟩ := stC X111 hx hZ e111 Ar112 (j := (0 : Int32)) hin112 (g := (mkF m 129 #[.val (.int p1), .val (.int d0), .val (.int c1), .val (.int c2), .val (.int nn), .val (.int bl), .val (.ref o111)] [(.int d0), (.int (0 : Int32)), (.ref o111)])) rfl rfl (hb hby d1_129)
        have W112' := W112
        rw [show nar .char d0 = d0 from (nar_c hq_d0.1 (le255 hq_d0.2))] at W112'
        have V112 : Arv Z h112 o111 k111 .char (2 : Int32) [(.int d0), (.int (0 : Int32))] (.int (0 : Int32)) := Arv.set Ar112 q112 S112 N112_ H112 G112 (fits_c hq_d0.1 (le255 hq_d0.2)) W112' 0 rfl (by simp)
        have N112 := Fr.snoc X112 N102 fr111
        have J112 := J111.wr W112 (List.mem_cons_self ..)
        have B112 := B111.mono (Nat.le_of_eq W112.size.symm)
        have O112 := O111.wr W112 (Nat.le_trans (own_ole O0) fr111)
        have K112 := K111.wr W112 (Or.inr sz111)
        refine Go.of (fun _ hr => st112 _ hr) ?_
        show Go p e s below _ _ _ _ T112 (mkF m 130 #[.val (.int p1), .val (.int d0), .val (.int c1), .val (.int c2), .val (.int nn), .val (.int bl), .val (.ref o111)] [])
        refine Go.of (fun _ hr => XS.aload X112.here hx rfl (hb hby d1_130) rfl rfl hr) ?_
        show Go p e s below _ _ _ _ T112 (mkF m 132 #[.val (.int p1), .val (.int d0), .val (.int c1), .val (.int c2), .val (.int nn), .val (.int bl), .val (.ref o111)] [(.ref o111)])
        refine Go.of (fun _ hr => XS.iconst X112.here hx rfl (hb hby d1_132) hr) ?_
        show Go p e s below _ _ _ _ T112 (mkF m 133 #[.val (.int p1), .val (.int d0), .val (.int c1), .val (.int c2), .val (.int nn), .val (.int bl), .val (.ref o111)] [(.int (1 : Int32)), (.ref o111)])
        refine Go.of (fun _ hr => XS.iloadN X112.here hx rfl (hb hby d1_133) rfl  hr) ?_
        show Go p e s below _ _ _ _ T112 (mkF m 134 #[.val (.int p1), .val (.int d0), .val (.int c1), .val (.int c2), .val (.int nn), .val (.int bl), .val (.ref o111)] [(.int c1), (.int (1 : Int32)), (.ref o111)])
        obtain ⟨cl113, Ar113, q113, S113, N113_, H113, G113⟩ := id V112
        have hin113 : ¬ ((1 : Int32) < 0 ∨ cl113.slots.size ≤ ((1 : Int32)).toNatClampNeg) := inb_of S113 ⟨by decide, by decide⟩
        obtain ⟨T113, h113, X113, e113, W113, st113⟩ := stC X112 hx hZ e112 Ar113 (j := (1 : Int32)) hin113 (g := (mkF m 134 #[.val (.int p1), .val (.int d0), .val (.int c1), .val (.int c2), .val (.int nn), .val (.int bl), .val (.ref o111)] [(.int c1), (.int (1 : Int32)), (.ref o111)])) rfl rfl (hb hby d1_134)
        have W113' := W113
        rw [show nar .char c1 = c1 from (nar_c hq_c1.1 (le255 hq_c1.2))] at W113'
        have V113 : Arv Z h113 o111 k111 .char (2 : Int32) [(.int d0), (.int c1)] (.int (0 : Int32)) := Arv.set Ar113 q113 S113 N113_ H113 G113 (fits_c hq_c1.1 (le255 hq_c1.2)) W113' 1 rfl (by simp)
        have N113 := Fr.snoc X113 N112 fr111
        have J113 := J112.wr W113 (List.mem_cons_self ..)
        have B113 := B112.mono (Nat.le_of_eq W113.size.symm)
        have O113 := O112.wr W113 (Nat.le_trans (own_ole O0) fr111)
        have K113 := K112.wr W113 (Or.inr sz111)
        refine Go.of (fun _ hr => st113 _ hr) ?_
        show Go p e s below _ _ _ _ T113 (mkF m 135 #[.val (.int p1), .val (.int d0), .val (.int c1), .val (.int c2), .val (.int nn), .val (.int bl), .val (.ref o111)] [])
        obtain ⟨T114, h114, X114, e114, E114, A114, D114, -, st114⟩ := newO X113 hx hZ hown (hw _ (List.mem_of_getElem? (i := 8) rfl)) (hw _ (List.mem_of_getElem? (i := 9) rfl)) (hw _ (List.mem_of_getElem? (i := 10) rfl)) e113 (g := (mkF m 135 #[.val (.int p1), .val (.int d0), .val (.int c1), .val (.int c2), .val (.int nn), .val (.int bl), .val (.ref o111)] [])) rfl (hb hby d1_135) (by decide) (by decide)
        obtain ⟨o114, g114⟩ : ∃ z, z = h113.size := ⟨_, rfl⟩
        rw [← g114] at A114 D114 st114
        have ne_o111_o114 : o111 ≠ o114 := Nat.ne_of_lt (Nat.lt_of_lt_of_le V113.lt (Nat.le_of_eq g114.symm))
        have lt114 : o114 < h114.size := A114.lt
        have J114 := J113.add E114 g114 lt114
        have B114 := B113.mono E114.1
        have O114 := O113.ext E114
        have sz114 : h0.size ≤ o114 := Nat.le_trans K113.1 (Nat.le_of_eq g114.symm)
        have fr114 : h0.size ≤ o114 := sz114
        have K114 := K113.ext E114
        have F114_coder : Fld Z h114 o114 "java/lang/String" "coder" "B" (.int (0 : Int32)) := D114 (Or.inr (hw _ (List.mem_of_getElem? (i := 34) rfl))) (ty := .byte) (by decide)
        have F114_value : Fld Z h114 o114 "java/lang/String" "value" "[B" .null := D114 (Or.inr (hw _ (List.mem_of_getElem? (i := 36) rfl))) (ty := (.array .byte)) (by decide)
        refine Go.of (fun _ hr => st114 _ hr) ?_
        show Go p e s below _ _ _ _ T114 (mkF m 138 #[.val (.int p1), .val (.int d0), .val (.int c1), .val (.int c2), .val (.int nn), .val (.int bl), .val (.ref o111)] [(.ref o114)])
        refine Go.of (fun _ hr => XS.dup X114.here hx rfl (hb hby d1_138) rfl rfl hr) ?_
        show Go p e s below _ _ _ _ T114 (mkF m 139 #[.val (.int p1), .val (.int d0), .val (.int c1), .val (.int c2), .val (.int nn), .val (.int bl), .val (.ref o111)] [(.ref o114), (.ref o114)])
        refine Go.of (fun _ hr => XS.aload X114.here hx rfl (hb hby d1_139) rfl rfl hr) ?_
        show Go p e s below _ _ _ _ T114 (mkF m 141 #[.val (.int p1), .val (.int d0), .val (.int c1), .val (.int c2), .val (.int nn), .val (.int bl), .val (.ref o111)] [(.ref o111), (.ref o114), (.ref o114)])
        have f116 := (V113.ext E114)
        obtain ⟨_, b115, T115, h115, L115, e115, Cc115, X115, B115, J115, g115, hQ115, st115⟩ := own_callI Cc102 B114 J114 X114 rfl (hw _ (List.mem_of_getElem? (i := 11) rfl)) (hw _ (List.mem_of_getElem? (i := 12) rfl)) (hw _ (List.mem_of_getElem? (i := 10) rfl)) (hw _ (List.mem_of_getElem? (i := 13) rfl)) (by decide) (rm3 l Z a0 hw [] o114 o111 _ [d0, c1] _ _ zc _ h114 n0 O114 h0.size (own_ole O0) K114.1 fr114 (List.mem_cons_self ..) (by simp) (by intro x hx; simp only [List.mem_cons, List.not_mem_nil, or_false] at hx; rcases hx with rfl | rfl <;> assumption) (by simp) f116 ne_o111_o114 A114 F114_value F114_coder S_C hzc) e114 (g := (mkF m 141 #[.val (.int p1), .val (.int d0), .val (.int c1), .val (.int c2), .val (.int nn), .val (.int bl), .val (.ref o111)] [(.ref o111), (.ref o114), (.ref o114)])) rfl (by rw [hml]; rfl) (argsL := [(.ref o111)]) (rest := [(.ref o114)]) (lenOf pd30 rfl) rfl (W := 1) (by show 2 * 0 + _ ≤ _; exact Nat.le_of_eq rfl) (hb hby d1_141) (by decide) (by decide) (by decide) (by decide)
        obtain ⟨rfl, Nq115, Kq115, t115, kt115, nt115, Fv115, Fc115, Vt115⟩ := hQ115
        have N115 := Fr.app N113 Nq115
        obtain ⟨hx, hZ, hown, hby, hml, hnm, hret, hlk⟩ := id Cc115
        have K115 := K114.trans Kq115 (allS (Or.inr sz114) all0)
        have O115 := O114.keep Kq115 (allS (Nat.le_trans (own_ole O0) fr114) all0)
        refine Go.of st115 ?_
        have nx_t115_o114 : t115 ≠ o114 := fun q => nt115 (by rw [q]; exact (List.mem_cons_self ..))
        have nx_t115_o111 : t115 ≠ o111 := fun q => nt115 (by rw [q]; exact (List.mem_cons_of_mem _ (List.mem_cons_self ..)))
        show Go p e s below _ _ _ _ T115 (mkF m 144 #[.val (.int p1), .val (.int d0), .val (.int c1), .val (.int c2), .val (.int nn), .val (.int bl), .val (.ref o111)] [(.ref o114)])
        have f117 := (A114.keep Kq115)
        exact Go.retA X115 hx hlk B115 (J115.sub fun x hx => (List.mem_cons_of_mem _ (List.mem_cons_of_mem _ hx))) e115 hret rfl rfl (hb hby d1_144) (by decide) (by decide) (fun vm_ hw_ => ⟨_, _, _, _, rfl, (fun y hy => Nat.le_trans hnb (N115 y hy)), keep_ext K115, sz114, (okL2 hr_n hnb_ hq_d0 hq_c1 hb91_103 hb117_110), (fun hz => nt115 (List.mem_cons_of_mem _ (List.mem_cons_of_mem _ hz))), f117, Fv115, Fc115, Vt115⟩)
      · refine Go.of (fun _ hr => XS.icmpYes X102.here hx rfl (pc0 := 117) (pc' := 145) rfl (hb hby d1_117) rfl (feq hb117_110).2 (by decide) (by decide) hr) ?_
        show Go p e s below _ _ _ _ T102 (mkF m 145 #[.val (.int p1), .val (.int d0), .val (.int c1), .val (.int c2), .val (.int nn), .val (.int bl), .unset] [])
        refine Go.of (fun _ hr => XS.iconst X102.here hx rfl (hb hby d1_145) hr) ?_
        show Go p e s below _ _ _ _ T102 (mkF m 146 #[.val (.int p1), .val (.int d0), .val (.int c1), .val (.int c2), .val (.int nn), .val (.int bl), .unset] [(.int (3 : Int32))])
        obtain ⟨T118, h118, k118, X118, e118, E118, A118, st118⟩ := newP X102 hx hZ (hw _ (List.mem_of_getElem? (i := 7) rfl)) e102 (g := (mkF m 146 #[.val (.int p1), .val (.int d0), .val (.int c1), .val (.int c2), .val (.int nn), .val (.int bl), .unset] [(.int (3 : Int32))])) rfl (hb hby d1_146) rfl (by decide) (cap := 3) (by decide) (by decide) (by decide) (by decide)
        obtain ⟨o118, g118⟩ : ∃ z, z = h0.size := ⟨_, rfl⟩
        rw [← g118] at A118 st118
        have V118 : Arv Z h118 o118 k118 .char (3 : Int32) [(.int (0 : Int32)), (.int (0 : Int32)), (.int (0 : Int32))] (.int (0 : Int32)) := (Arv.new A118 (by decide)).pad (pad_rep [] (.int (0 : Int32)) 3)
        have lt118 : o118 < h118.size := A118.lt
        have J118 := J102.add E118 g118 lt118
        have B118 := B102.mono E118.1
        have O118 := O0.ext E118
        have sz118 : h0.size ≤ o118 := Nat.le_trans K0.1 (Nat.le_of_eq g118.symm)
        have fr118 : h0.size ≤ o118 := sz118
        have K118 := K0.ext E118
        refine Go.of (fun _ hr => st118 _ hr) ?_
        show Go p e s below _ _ _ _ T118 (mkF m 148 #[.val (.int p1), .val (.int d0), .val (.int c1), .val (.int c2), .val (.int nn), .val (.int bl), .unset] [(.ref o118)])
        refine Go.of (fun _ hr => XS.astore X118.here hx rfl (hb hby d1_148) rfl rfl (l' := #[.val (.int p1), .val (.int d0), .val (.int c1), .val (.int c2), .val (.int nn), .val (.int bl), .val (.ref o118)]) rfl hr) ?_
        show Go p e s below _ _ _ _ T118 (mkF m 150 #[.val (.int p1), .val (.int d0), .val (.int c1), .val (.int c2), .val (.int nn), .val (.int bl), .val (.ref o118)] [])
        refine Go.of (fun _ hr => XS.aload X118.here hx rfl (hb hby d1_150) rfl rfl hr) ?_
        show Go p e s below _ _ _ _ T118 (mkF m 152 #[.val (.int p1), .val (.int d0), .val (.int c1), .val (.int c2), .val (.int nn), .val (.int bl), .val (.ref o118)] [(.ref o118)])
        refine Go.of (fun _ hr => XS.iconst X118.here hx rfl (hb hby d1_152) hr) ?_
        show Go p e s below _ _ _ _ T118 (mkF m 153 #[.val (.int p1), .val (.int d0), .val (.int c1), .val (.int c2), .val (.int nn), .val (.int bl), .val (.ref o118)] [(.int (0 : Int32)), (.ref o118)])
        refine Go.of (fun _ hr => XS.iloadN X118.here hx rfl (hb hby d1_153) rfl  hr) ?_
        show Go p e s below _ _ _ _ T118 (mkF m 154 #[.val (.int p1), .val (.int d0), .val (.int c1), .val (.int c2), .val (.int nn), .val (.int bl), .val (.ref o118)] [(.int d0), (.int (0 : Int32)), (.ref o118)])
        obtain ⟨cl119, Ar119, q119, S119, N119_, H119, G119⟩ := id V118
        have hin119 : ¬ ((0 : Int32) < 0 ∨ cl119.slots.size ≤ ((0 : Int32)).toNatClampNeg) := inb_of S119 ⟨by decide, by decide⟩
        obtain ⟨T119, h119, X119, e119, W119, st119⟩ := stC X118 hx hZ e118 Ar119 (j := (0 : Int32)) hin119 (g := (mkF m 154 #[.val (.int p1), .val (.int d0), .val (.int c1), .val (.int c2), .val (.int nn), .val (.int bl), .val (.ref o118)] [(.int d0), (.int (0 : Int32)), (.ref o118)])) rfl rfl (hb hby d1_154)
        have W119' := W119
        rw [show nar .char d0 = d0 from (nar_c hq_d0.1 (le255 hq_d0.2))] at W119'
        have V119 : Arv Z h119 o118 k118 .char (3 : Int32) [(.int d0), (.int (0 : Int32)), (.int (0 : Int32))] (.int (0 : Int32)) := Arv.set Ar119 q119 S119 N119_ H119 G119 (fits_c hq_d0.1 (le255 hq_d0.2)) W119' 0 rfl (by simp)
        have N119 := Fr.snoc X119 N102 fr118
        have J119 := J118.wr W119 (List.mem_cons_self ..)
        have B119 := B118.mono (Nat.le_of_eq W119.size.symm)
        have O119 := O118.wr W119 (Nat.le_trans (own_ole O0) fr118)
        have K119 := K118.wr W119 (Or.inr sz118)
        refine Go.of (fun _ hr => st119 _ hr) ?_
        show Go p e s below _ _ _ _ T119 (mkF m 155 #[.val (.int p1), .val (.int d0), .val (.int c1), .val (.int c2), .val (.int nn), .val (.int bl), .val (.ref o118)] [])
        refine Go.of (fun _ hr => XS.aload X119.here hx rfl (hb hby d1_155) rfl rfl hr) ?_
        show Go p e s below _ _ _ _ T119 (mkF m 157 #[.val (.int p1), .val (.int d0), .val (.int c1), .val (.int c2), .val (.int nn), .val (.int bl), .val (.ref o118)] [(.ref o118)])
        refine Go.of (fun _ hr => XS.iconst X119.here hx rfl (hb hby d1_157) hr) ?_
        show Go p e s below _ _ _ _ T119 (mkF m 158 #[.val (.int p1), .val (.int d0), .val (.int c1), .val (.int c2), .val (.int nn), .val (.int bl), .val (.ref o118)] [(.int (1 : Int32)), (.ref o118)])
        refine Go.of (fun _ hr => XS.iloadN X119.here hx rfl (hb hby d1_158) rfl  hr) ?_
        show Go p e s below _ _ _ _ T119 (mkF m 159 #[.val (.int p1), .val (.int d0), .val (.int c1), .val (.int c2), .val (.int nn), .val (.int bl), .val (.ref o118)] [(.int c1), (.int (1 : Int32)), (.ref o118)])
        obtain ⟨cl120, Ar120, q120, S120, N120_, H120, G120⟩ := id V119
        have hin120 : ¬ ((1 : Int32) < 0 ∨ cl120.slots.size ≤ ((1 : Int32)).toNatClampNeg) := inb_of S120 ⟨by decide, by decide⟩
        obtain ⟨T120, h120, X120, e120, W120, st120⟩ := stC X119 hx hZ e119 Ar120 (j := (1 : Int32)) hin120 (g := (mkF m 159 #[.val (.int p1), .val (.int d0), .val (.int c1), .val (.int c2), .val (.int nn), .val (.int bl), .val (.ref o118)] [(.int c1), (.int (1 : Int32)), (.ref o118)])) rfl rfl (hb hby d1_159)
        have W120' := W120
        rw [show nar .char c1 = c1 from (nar_c hq_c1.1 (le255 hq_c1.2))] at W120'
        have V120 : Arv Z h120 o118 k118 .char (3 : Int32) [(.int d0), (.int c1), (.int (0 : Int32))] (.int (0 : Int32)) := Arv.set Ar120 q120 S120 N120_ H120 G120 (fits_c hq_c1.1 (le255 hq_c1.2)) W120' 1 rfl (by simp)
        have N120 := Fr.snoc X120 N119 fr118
        have J120 := J119.wr W120 (List.mem_cons_self ..)
        have B120 := B119.mono (Nat.le_of_eq W120.size.symm)
        have O120 := O119.wr W120 (Nat.le_trans (own_ole O0) fr118)
        have K120 := K119.wr W120 (Or.inr sz118)
        refine Go.of (fun _ hr => st120 _ hr) ?_
        show Go p e s below _ _ _ _ T120 (mkF m 160 #[.val (.int p1), .val (.int d0), .val (.int c1), .val (.int c2), .val (.int nn), .val (.int bl), .val (.ref o118)] [])
        refine Go.of (fun _ hr => XS.aload X120.here hx rfl (hb hby d1_160) rfl rfl hr) ?_
        show Go p e s below _ _ _ _ T120 (mkF m 162 #[.val (.int p1), .val (.int d0), .val (.int c1), .val (.int c2), .val (.int nn), .val (.int bl), .val (.ref o118)] [(.ref o118)])
        refine Go.of (fun _ hr => XS.iconst X120.here hx rfl (hb hby d1_162) hr) ?_
        show Go p e s below _ _ _ _ T120 (mkF m 163 #[.val (.int p1), .val (.int d0), .val (.int c1), .val (.int c2), .val (.int nn), .val (.int bl), .val (.ref o118)] [(.int (2 : Int32)), (.ref o118)])
        refine Go.of (fun _ hr => XS.iloadN X120.here hx rfl (hb hby d1_163) rfl  hr) ?_
        show Go p e s below _ _ _ _ T120 (mkF m 164 #[.val (.int p1), .val (.int d0), .val (.int c1), .val (.int c2), .val (.int nn), .val (.int bl), .val (.ref o118)] [(.int c2), (.int (2 : Int32)), (.ref o118)])
        obtain ⟨cl121, Ar121, q121, S121, N121_, H121, G121⟩ := id V120
        have hin121 : ¬ ((2 : Int32) < 0 ∨ cl121.slots.size ≤ ((2 : Int32)).toNatClampNeg) := inb_of S121 ⟨by decide, by decide⟩
        obtain ⟨T121, h121, X121, e121, W121, st121⟩ := stC X120 hx hZ e120 Ar121 (j := (2 : Int32)) hin121 (g := (mkF m 164 #[.val (.int p1), .val (.int d0), .val (.int c1), .val (.int c2), .val (.int nn), .val (.int bl), .val (.ref o118)] [(.int c2), (.int (2 : Int32)), (.ref o118)])) rfl rfl (hb hby d1_164)
        have W121' := W121
        rw [show nar .char c2 = c2 from (nar_c hq_c2.1 (le255 hq_c2.2))] at W121'
        have V121 : Arv Z h121 o118 k118 .char (3 : Int32) [(.int d0), (.int c1), (.int c2)] (.int (0 : Int32)) := Arv.set Ar121 q121 S121 N121_ H121 G121 (fits_c hq_c2.1 (le255 hq_c2.2)) W121' 2 rfl (by simp)
        have N121 := Fr.snoc X121 N120 fr118
        have J121 := J120.wr W121 (List.mem_cons_self ..)
        have B121 := B120.mono (Nat.le_of_eq W121.size.symm)
        have O121 := O120.wr W121 (Nat.le_trans (own_ole O0) fr118)
        have K121 := K120.wr W121 (Or.inr sz118)
        refine Go.of (fun _ hr => st121 _ hr) ?_
        show Go p e s below _ _ _ _ T121 (mkF m 165 #[.val (.int p1), .val (.int d0), .val (.int c1), .val (.int c2), .val (.int nn), .val (.int bl), .val (.ref o118)] [])
        obtain ⟨T122, h122, X122, e122, E122, A122, D122, -, st122⟩ := newO X121 hx hZ hown (hw _ (List.mem_of_getElem? (i := 8) rfl)) (hw _ (List.mem_of_getElem? (i := 9) rfl)) (hw _ (List.mem_of_getElem? (i := 10) rfl)) e121 (g := (mkF m 165 #[.val (.int p1), .val (.int d0), .val (.int c1), .val (.int c2), .val (.int nn), .val (.int bl), .val (.ref o118)] [])) rfl (hb hby d1_165) (by decide) (by decide)
        obtain ⟨o122, g122⟩ : ∃ z, z = h121.size := ⟨_, rfl⟩
        rw [← g122] at A122 D122 st122
        have ne_o118_o122 : o118 ≠ o122 := Nat.ne_of_lt (Nat.lt_of_lt_of_le V121.lt (Nat.le_of_eq g122.symm))
        have lt122 : o122 < h122.size := A122.lt
        have J122 := J121.add E122 g122 lt122
        have B122 := B121.mono E122.1
        have O122 := O121.ext E122
        have sz122 : h0.size ≤ o122 := Nat.le_trans K121.1 (Nat.le_of_eq g122.symm)
        have fr122 : h0.size ≤ o122 := sz122
        have K122 := K121.ext E122
        have F122_coder : Fld Z h122 o122 "java/lang/String" "coder" "B" (.int (0 : Int32)) := D122 (Or.inr (hw _ (List.mem_of_getElem? (i := 34) rfl))) (ty := .byte) (by decide)
        have F122_value : Fld Z h122 o122 "java/lang/String" "value" "[B" .null := D122 (Or.inr (hw _ (List.mem_of_getElem? (i := 36) rfl))) (ty := (.array .byte)) (by decide)
        refine Go.of (fun _ hr => st122 _ hr) ?_
        show Go p e s below _ _ _ _ T122 (mkF m 168 #[.val (.int p1), .val (.int d0), .val (.int c1), .val (.int c2), .val (.int nn), .val (.int bl), .val (.ref o118)] [(.ref o122)])
        refine Go.of (fun _ hr => XS.dup X122.here hx rfl (hb hby d1_168) rfl rfl hr) ?_
        show Go p e s below _ _ _ _ T122 (mkF m 169 #[.val (.int p1), .val (.int d0), .val (.int c1), .val (.int c2), .val (.int nn), .val (.int bl), .val (.ref o118)] [(.ref o122), (.ref o122)])
        refine Go.of (fun _ hr => XS.aload X122.here hx rfl (hb hby d1_169) rfl rfl hr) ?_
        show Go p e s below _ _ _ _ T122 (mkF m 171 #[.val (.int p1), .val (.int d0), .val (.int c1), .val (.int c2), .val (.int nn), .val (.int bl), .val (.ref o118)] [(.ref o118), (.ref o122), (.ref o122)])
        have f124 := (V121.ext E122)
        obtain ⟨_, b123, T123, h123, L123, e123, Cc123, X123, B123, J123, g123, hQ123, st123⟩ := own_callI Cc102 B122 J122 X122 rfl (hw _ (List.mem_of_getElem? (i := 11) rfl)) (hw _ (List.mem_of_getElem? (i := 12) rfl)) (hw _ (List.mem_of_getElem? (i := 10) rfl)) (hw _ (List.mem_of_getElem? (i := 13) rfl)) (by decide) (rm3 l Z a0 hw [] o122 o118 _ [d0, c1, c2] _ _ zc _ h122 n0 O122 h0.size (own_ole O0) K122.1 fr122 (List.mem_cons_self ..) (by simp) (by intro x hx; simp only [List.mem_cons, List.not_mem_nil, or_false] at hx; rcases hx with rfl | rfl | rfl <;> assumption) (by simp) f124 ne_o118_o122 A122 F122_value F122_coder S_C hzc) e122 (g := (mkF m 171 #[.val (.int p1), .val (.int d0), .val (.int c1), .val (.int c2), .val (.int nn), .val (.int bl), .val (.ref o118)] [(.ref o118), (.ref o122), (.ref o122)])) rfl (by rw [hml]; rfl) (argsL := [(.ref o118)]) (rest := [(.ref o122)]) (lenOf pd30 rfl) rfl (W := 1) (by show 2 * 0 + _ ≤ _; exact Nat.le_of_eq rfl) (hb hby d1_171) (by decide) (by decide) (by decide) (by decide)
        obtain ⟨rfl, Nq123, Kq123, t123, kt123, nt123, Fv123, Fc123, Vt123⟩ := hQ123
        have N123 := Fr.app N121 Nq123
        obtain ⟨hx, hZ, hown, hby, hml, hnm, hret, hlk⟩ := id Cc123
        have K123 := K122.trans Kq123 (allS (Or.inr sz122) all0)
        have O123 := O122.keep Kq123 (allS (Nat.le_trans (own_ole O0) fr122) all0)
        refine Go.of st123 ?_
        have nx_t123_o122 : t123 ≠ o122 := fun q => nt123 (by rw [q]; exact (List.mem_cons_self ..))
        have nx_t123_o118 : t123 ≠ o118 := fun q => nt123 (by rw [q]; exact (List.mem_cons_of_mem _ (List.mem_cons_self ..)))
        show Go p e s below _ _ _ _ T123 (mkF m 174 #[.val (.int p1), .val (.int d0), .val (.int c1), .val (.int c2), .val (.int nn), .val (.int bl), .val (.ref o118)] [(.ref o122)])
        have f125 := (A122.keep Kq123)
        exact Go.retA X123 hx hlk B123 (J123.sub fun x hx => (List.mem_cons_of_mem _ (List.mem_cons_of_mem _ hx))) e123 hret rfl rfl (hb hby d1_174) (by decide) (by decide) (fun vm_ hw_ => ⟨_, _, _, _, rfl, (fun y hy => Nat.le_trans hnb (N123 y hy)), keep_ext K123, sz122, (okL3 hr_n hnb_ hq_d0 hq_c1 hq_c2 hb91_103 hb117_110), (fun hz => nt123 (List.mem_cons_of_mem _ (List.mem_cons_of_mem _ hz))), f125, Fv123, Fc123, Vt123⟩)
  intro jn102
  show Go p e s below _ _ _ _ T101 (mkF m 44 #[.val (.int p1), .val (.int c0), .val (.int c1), .val (.int c2), .val (.int nn), .unset, .unset] [(.int (wsV c0))])
  by_cases hb44_126 : (wsV c0) = (0 : Int32)
  · refine Go.of (fun _ hr => XS.ifYes X101.here hx rfl (pc0 := 44) (pc' := 77) rfl (hb hby d1_44) rfl ((if0 _ _).trans (teq hb44_126).1) (by decide) (by decide) hr) ?_
    show Go p e s below _ _ _ _ T101 (mkF m 77 #[.val (.int p1), .val (.int c0), .val (.int c1), .val (.int c2), .val (.int nn), .unset, .unset] [])
    refine Go.of (fun _ hr => XS.iconst X101.here hx rfl (hb hby d1_77) hr) ?_
    show Go p e s below _ _ _ _ T101 (mkF m 78 #[.val (.int p1), .val (.int c0), .val (.int c1), .val (.int c2), .val (.int nn), .unset, .unset] [(.int (0 : Int32))])
    refine Go.of (fun _ hr => XS.istore X101.here hx rfl (hb hby d1_78) rfl (l' := #[.val (.int p1), .val (.int c0), .val (.int c1), .val (.int c2), .val (.int nn), .val (.int (0 : Int32)), .unset]) rfl hr) ?_
    show Go p e s below _ _ _ _ T101 (mkF m 80 #[.val (.int p1), .val (.int c0), .val (.int c1), .val (.int c2), .val (.int nn), .val (.int (0 : Int32)), .unset] [])
    refine Go.of (fun _ hr => XS.iload X101.here hx rfl (hb hby d1_80) rfl  hr) ?_
    show Go p e s below _ _ _ _ T101 (mkF m 82 #[.val (.int p1), .val (.int c0), .val (.int c1), .val (.int c2), .val (.int nn), .val (.int (0 : Int32)), .unset] [(.int (0 : Int32))])
    refine Go.of (fun _ hr => XS.ifYes X101.here hx rfl (pc0 := 82) (pc' := 88) rfl (hb hby d1_82) rfl ((if0 _ _).trans (teq (by decide : ((0 : Int32) = (0 : Int32)))).1) (by decide) (by decide) hr) ?_
    show Go p e s below _ _ _ _ T101 (mkF m 88 #[.val (.int p1), .val (.int c0), .val (.int c1), .val (.int c2), .val (.int nn), .val (.int (0 : Int32)), .unset] [])
    exact jn102 (c0, (0 : Int32)) _ _ _ Cc101 X101 e101 B101 J101 N101 ⟨hq_c0, (Or.inl hb44_126), rfl⟩
  · refine Go.of (fun _ hr => XS.ifNo X101.here hx rfl (hb hby d1_44) rfl ((if0 _ _).trans (feq hb44_126).1) hr) ?_
    show Go p e s below _ _ _ _ T101 (mkF m 47 #[.val (.int p1), .val (.int c0), .val (.int c1), .val (.int c2), .val (.int nn), .unset, .unset] [])
    refine Go.of (fun _ hr => XS.iload X101.here hx rfl (hb hby d1_47) rfl  hr) ?_
    show Go p e s below _ _ _ _ T101 (mkF m 49 #[.val (.int p1), .val (.int c0), .val (.int c1), .val (.int c2), .val (.int nn), .unset, .unset] [(.int nn)])
    refine Go.of (fun _ hr => XS.iconst X101.here hx rfl (hb hby d1_49) hr) ?_
    show Go p e s below _ _ _ _ T101 (mkF m 50 #[.val (.int p1), .val (.int c0), .val (.int c1), .val (.int c2), .val (.int nn), .unset, .unset] [(.int (2 : Int32)), (.int nn)])
    by_cases hb50_127 : nn < (2 : Int32)
    · refine Go.of (fun _ hr => XS.icmpYes X101.here hx rfl (pc0 := 50) (pc' := 60) rfl (hb hby d1_50) rfl (tlt hb50_127).1 (by decide) (by decide) hr) ?_
      show Go p e s below _ _ _ _ T101 (mkF m 60 #[.val (.int p1), .val (.int c0), .val (.int c1), .val (.int c2), .val (.int nn), .unset, .unset] [])
      refine Go.of (fun _ hr => XS.iload X101.here hx rfl (hb hby d1_60) rfl  hr) ?_
      show Go p e s below _ _ _ _ T101 (mkF m 62 #[.val (.int p1), .val (.int c0), .val (.int c1), .val (.int c2), .val (.int nn), .unset, .unset] [(.int nn)])
      refine Go.of (fun _ hr => XS.iconst X101.here hx rfl (hb hby d1_62) hr) ?_
      show Go p e s below _ _ _ _ T101 (mkF m 63 #[.val (.int p1), .val (.int c0), .val (.int c1), .val (.int c2), .val (.int nn), .unset, .unset] [(.int (3 : Int32)), (.int nn)])
      by_cases hb63_128 : nn < (3 : Int32)
      · refine Go.of (fun _ hr => XS.icmpYes X101.here hx rfl (pc0 := 63) (pc' := 73) rfl (hb hby d1_63) rfl (tlt hb63_128).1 (by decide) (by decide) hr) ?_
        show Go p e s below _ _ _ _ T101 (mkF m 73 #[.val (.int p1), .val (.int c0), .val (.int c1), .val (.int c2), .val (.int nn), .unset, .unset] [])
        refine Go.of (fun _ hr => XS.iconst X101.here hx rfl (hb hby d1_73) hr) ?_
        show Go p e s below _ _ _ _ T101 (mkF m 74 #[.val (.int p1), .val (.int c0), .val (.int c1), .val (.int c2), .val (.int nn), .unset, .unset] [(.int (1 : Int32))])
        refine Go.of (fun _ hr => XS.goto X101.here hx rfl (pc0 := 74) (pc' := 78) rfl (hb hby d1_74) (by decide) (by decide) hr) ?_
        show Go p e s below _ _ _ _ T101 (mkF m 78 #[.val (.int p1), .val (.int c0), .val (.int c1), .val (.int c2), .val (.int nn), .unset, .unset] [(.int (1 : Int32))])
        refine Go.of (fun _ hr => XS.istore X101.here hx rfl (hb hby d1_78) rfl (l' := #[.val (.int p1), .val (.int c0), .val (.int c1), .val (.int c2), .val (.int nn), .val (.int (1 : Int32)), .unset]) rfl hr) ?_
        show Go p e s below _ _ _ _ T101 (mkF m 80 #[.val (.int p1), .val (.int c0), .val (.int c1), .val (.int c2), .val (.int nn), .val (.int (1 : Int32)), .unset] [])
        refine Go.of (fun _ hr => XS.iload X101.here hx rfl (hb hby d1_80) rfl  hr) ?_
        show Go p e s below _ _ _ _ T101 (mkF m 82 #[.val (.int p1), .val (.int c0), .val (.int c1), .val (.int c2), .val (.int nn), .val (.int (1 : Int32)), .unset] [(.int (1 : Int32))])
        refine Go.of (fun _ hr => XS.ifNo X101.here hx rfl (hb hby d1_82) rfl ((if0 _ _).trans (feq (by decide : ¬ ((1 : Int32) = (0 : Int32)))).1) hr) ?_
        show Go p e s below _ _ _ _ T101 (mkF m 85 #[.val (.int p1), .val (.int c0), .val (.int c1), .val (.int c2), .val (.int nn), .val (.int (1 : Int32)), .unset] [])
        refine Go.of (fun _ hr => XS.bipush X101.here hx rfl (hb hby d1_85) hr) ?_
        show Go p e s below _ _ _ _ T101 (mkF m 87 #[.val (.int p1), .val (.int c0), .val (.int c1), .val (.int c2), .val (.int nn), .val (.int (1 : Int32)), .unset] [(.int (107 : Int32))])
        refine Go.of (fun _ hr => XS.istoreN X101.here hx rfl (hb hby d1_87) rfl (l' := #[.val (.int p1), .val (.int (107 : Int32)), .val (.int c1), .val (.int c2), .val (.int nn), .val (.int (1 : Int32)), .unset]) rfl hr) ?_
        show Go p e s below _ _ _ _ T101 (mkF m 88 #[.val (.int p1), .val (.int (107 : Int32)), .val (.int c1), .val (.int c2), .val (.int nn), .val (.int (1 : Int32)), .unset] [])
        exact jn102 ((107 : Int32), (1 : Int32)) _ _ _ Cc101 X101 e101 B101 J101 N101 ⟨(by decide), Or.inl (by decide), rfl⟩
      · refine Go.of (fun _ hr => XS.icmpNo X101.here hx rfl (hb hby d1_63) rfl (flt hb63_128).1 hr) ?_
        show Go p e s below _ _ _ _ T101 (mkF m 66 #[.val (.int p1), .val (.int c0), .val (.int c1), .val (.int c2), .val (.int nn), .unset, .unset] [])
        refine Go.of (fun _ hr => XS.iloadN X101.here hx rfl (hb hby d1_66) rfl  hr) ?_
        show Go p e s below _ _ _ _ T101 (mkF m 67 #[.val (.int p1), .val (.int c0), .val (.int c1), .val (.int c2), .val (.int nn), .unset, .unset] [(.int c2)])
        obtain ⟨_, b129, T129, h129, L129, e129, Cc129, X129, B129, J129, g129, hQ129, st129⟩ := own_callS Cc101 B101 J101 X101 (hw _ (List.mem_of_getElem? (i := 4) rfl)) (hw _ (List.mem_of_getElem? (i := 5) rfl)) (hw _ (List.mem_of_getElem? (i := 2) rfl)) (hw _ (List.mem_of_getElem? (i := 6) rfl)) (by decide) (rm2 l Z a0 hw [] c2 _ h0 n0 O0 h0.size (own_ole O0) K0.1) e101 (g := (mkF m 67 #[.val (.int p1), .val (.int c0), .val (.int c1), .val (.int c2), .val (.int nn), .unset, .unset] [(.int c2)])) rfl (by rw [hml]; rfl) (argsL := [(.int c2)]) (rest := []) (lenOf pd29 rfl) rfl (W := 0) (by show 2 * 0 + _ ≤ _; exact Nat.le_of_eq rfl) (hb hby d1_67) (by decide) (by decide) (by decide) (by decide)
        obtain ⟨rfl, Nq129, hh129⟩ := hQ129
        have N129 := Fr.app N101 Nq129
        obtain ⟨hx, hZ, hown, hby, hml, hnm, hret, hlk⟩ := id Cc129
        rw [hh129] at e129 B129 J129
        refine Go.of st129 ?_
        show Go p e s below _ _ _ _ T129 (mkF m 70 #[.val (.int p1), .val (.int c0), .val (.int c1), .val (.int c2), .val (.int nn), .unset, .unset] [(.int (wsV c2))])
        by_cases hb70_130 : (wsV c2) = (0 : Int32)
        · refine Go.of (fun _ hr => XS.ifYes X129.here hx rfl (pc0 := 70) (pc' := 77) rfl (hb hby d1_70) rfl ((if0 _ _).trans (teq hb70_130).1) (by decide) (by decide) hr) ?_
          show Go p e s below _ _ _ _ T129 (mkF m 77 #[.val (.int p1), .val (.int c0), .val (.int c1), .val (.int c2), .val (.int nn), .unset, .unset] [])
          refine Go.of (fun _ hr => XS.iconst X129.here hx rfl (hb hby d1_77) hr) ?_
          show Go p e s below _ _ _ _ T129 (mkF m 78 #[.val (.int p1), .val (.int c0), .val (.int c1), .val (.int c2), .val (.int nn), .unset, .unset] [(.int (0 : Int32))])
          refine Go.of (fun _ hr => XS.istore X129.here hx rfl (hb hby d1_78) rfl (l' := #[.val (.int p1), .val (.int c0), .val (.int c1), .val (.int c2), .val (.int nn), .val (.int (0 : Int32)), .unset]) rfl hr) ?_
          show Go p e s below _ _ _ _ T129 (mkF m 80 #[.val (.int p1), .val (.int c0), .val (.int c1), .val (.int c2), .val (.int nn), .val (.int (0 : Int32)), .unset] [])
          refine Go.of (fun _ hr => XS.iload X129.here hx rfl (hb hby d1_80) rfl  hr) ?_
          show Go p e s below _ _ _ _ T129 (mkF m 82 #[.val (.int p1), .val (.int c0), .val (.int c1), .val (.int c2), .val (.int nn), .val (.int (0 : Int32)), .unset] [(.int (0 : Int32))])
          refine Go.of (fun _ hr => XS.ifYes X129.here hx rfl (pc0 := 82) (pc' := 88) rfl (hb hby d1_82) rfl ((if0 _ _).trans (teq (by decide : ((0 : Int32) = (0 : Int32)))).1) (by decide) (by decide) hr) ?_
          show Go p e s below _ _ _ _ T129 (mkF m 88 #[.val (.int p1), .val (.int c0), .val (.int c1), .val (.int c2), .val (.int nn), .val (.int (0 : Int32)), .unset] [])
          exact jn102 (c0, (0 : Int32)) _ _ _ Cc129 X129 e129 B129 J129 N129 ⟨hq_c0, (Or.inr (Or.inr ⟨hb63_128, hb70_130⟩)), rfl⟩
        · refine Go.of (fun _ hr => XS.ifNo X129.here hx rfl (hb hby d1_70) rfl ((if0 _ _).trans (feq hb70_130).1) hr) ?_
          show Go p e s below _ _ _ _ T129 (mkF m 73 #[.val (.int p1), .val (.int c0), .val (.int c1), .val (.int c2), .val (.int nn), .unset, .unset] [])
          refine Go.of (fun _ hr => XS.iconst X129.here hx rfl (hb hby d1_73) hr) ?_
          show Go p e s below _ _ _ _ T129 (mkF m 74 #[.val (.int p1), .val (.int c0), .val (.int c1), .val (.int c2), .val (.int nn), .unset, .unset] [(.int (1 : Int32))])
          refine Go.of (fun _ hr => XS.goto X129.here hx rfl (pc0 := 74) (pc' := 78) rfl (hb hby d1_74) (by decide) (by decide) hr) ?_
          show Go p e s below _ _ _ _ T129 (mkF m 78 #[.val (.int p1), .val (.int c0), .val (.int c1), .val (.int c2), .val (.int nn), .unset, .unset] [(.int (1 : Int32))])
          refine Go.of (fun _ hr => XS.istore X129.here hx rfl (hb hby d1_78) rfl (l' := #[.val (.int p1), .val (.int c0), .val (.int c1), .val (.int c2), .val (.int nn), .val (.int (1 : Int32)), .unset]) rfl hr) ?_
          show Go p e s below _ _ _ _ T129 (mkF m 80 #[.val (.int p1), .val (.int c0), .val (.int c1), .val (.int c2), .val (.int nn), .val (.int (1 : Int32)), .unset] [])
          refine Go.of (fun _ hr => XS.iload X129.here hx rfl (hb hby d1_80) rfl  hr) ?_
          show Go p e s below _ _ _ _ T129 (mkF m 82 #[.val (.int p1), .val (.int c0), .val (.int c1), .val (.int c2), .val (.int nn), .val (.int (1 : Int32)), .unset] [(.int (1 : Int32))])
          refine Go.of (fun _ hr => XS.ifNo X129.here hx rfl (hb hby d1_82) rfl ((if0 _ _).trans (feq (by decide : ¬ ((1 : Int32) = (0 : Int32)))).1) hr) ?_
          show Go p e s below _ _ _ _ T129 (mkF m 85 #[.val (.int p1), .val (.int c0), .val (.int c1), .val (.int c2), .val (.int nn), .val (.int (1 : Int32)), .unset] [])
          refine Go.of (fun _ hr => XS.bipush X129.here hx rfl (hb hby d1_85) hr) ?_
          show Go p e s below _ _ _ _ T129 (mkF m 87 #[.val (.int p1), .val (.int c0), .val (.int c1), .val (.int c2), .val (.int nn), .val (.int (1 : Int32)), .unset] [(.int (107 : Int32))])
          refine Go.of (fun _ hr => XS.istoreN X129.here hx rfl (hb hby d1_87) rfl (l' := #[.val (.int p1), .val (.int (107 : Int32)), .val (.int c1), .val (.int c2), .val (.int nn), .val (.int (1 : Int32)), .unset]) rfl hr) ?_
          show Go p e s below _ _ _ _ T129 (mkF m 88 #[.val (.int p1), .val (.int (107 : Int32)), .val (.int c1), .val (.int c2), .val (.int nn), .val (.int (1 : Int32)), .unset] [])
          exact jn102 ((107 : Int32), (1 : Int32)) _ _ _ Cc129 X129 e129 B129 J129 N129 ⟨(by decide), Or.inl (by decide), rfl⟩
    · refine Go.of (fun _ hr => XS.icmpNo X101.here hx rfl (hb hby d1_50) rfl (flt hb50_127).1 hr) ?_
      show Go p e s below _ _ _ _ T101 (mkF m 53 #[.val (.int p1), .val (.int c0), .val (.int c1), .val (.int c2), .val (.int nn), .unset, .unset] [])
      refine Go.of (fun _ hr => XS.iloadN X101.here hx rfl (hb hby d1_53) rfl  hr) ?_
      show Go p e s below _ _ _ _ T101 (mkF m 54 #[.val (.int p1), .val (.int c0), .val (.int c1), .val (.int c2), .val (.int nn), .unset, .unset] [(.int c1)])
      obtain ⟨_, b131, T131, h131, L131, e131, Cc131, X131, B131, J131, g131, hQ131, st131⟩ := own_callS Cc101 B101 J101 X101 (hw _ (List.mem_of_getElem? (i := 4) rfl)) (hw _ (List.mem_of_getElem? (i := 5) rfl)) (hw _ (List.mem_of_getElem? (i := 2) rfl)) (hw _ (List.mem_of_getElem? (i := 6) rfl)) (by decide) (rm2 l Z a0 hw [] c1 _ h0 n0 O0 h0.size (own_ole O0) K0.1) e101 (g := (mkF m 54 #[.val (.int p1), .val (.int c0), .val (.int c1), .val (.int c2), .val (.int nn), .unset, .unset] [(.int c1)])) rfl (by rw [hml]; rfl) (argsL := [(.int c1)]) (rest := []) (lenOf pd29 rfl) rfl (W := 0) (by show 2 * 0 + _ ≤ _; exact Nat.le_of_eq rfl) (hb hby d1_54) (by decide) (by decide) (by decide) (by decide)
      obtain ⟨rfl, Nq131, hh131⟩ := hQ131
      have N131 := Fr.app N101 Nq131
      obtain ⟨hx, hZ, hown, hby, hml, hnm, hret, hlk⟩ := id Cc131
      rw [hh131] at e131 B131 J131
      refine Go.of st131 ?_
      show Go p e s below _ _ _ _ T131 (mkF m 57 #[.val (.int p1), .val (.int c0), .val (.int c1), .val (.int c2), .val (.int nn), .unset, .unset] [(.int (wsV c1))])
      by_cases hb57_132 : (wsV c1) = (0 : Int32)
      · refine Go.of (fun _ hr => XS.ifYes X131.here hx rfl (pc0 := 57) (pc' := 77) rfl (hb hby d1_57) rfl ((if0 _ _).trans (teq hb57_132).1) (by decide) (by decide) hr) ?_
        show Go p e s below _ _ _ _ T131 (mkF m 77 #[.val (.int p1), .val (.int c0), .val (.int c1), .val (.int c2), .val (.int nn), .unset, .unset] [])
        refine Go.of (fun _ hr => XS.iconst X131.here hx rfl (hb hby d1_77) hr) ?_
        show Go p e s below _ _ _ _ T131 (mkF m 78 #[.val (.int p1), .val (.int c0), .val (.int c1), .val (.int c2), .val (.int nn), .unset, .unset] [(.int (0 : Int32))])
        refine Go.of (fun _ hr => XS.istore X131.here hx rfl (hb hby d1_78) rfl (l' := #[.val (.int p1), .val (.int c0), .val (.int c1), .val (.int c2), .val (.int nn), .val (.int (0 : Int32)), .unset]) rfl hr) ?_
        show Go p e s below _ _ _ _ T131 (mkF m 80 #[.val (.int p1), .val (.int c0), .val (.int c1), .val (.int c2), .val (.int nn), .val (.int (0 : Int32)), .unset] [])
        refine Go.of (fun _ hr => XS.iload X131.here hx rfl (hb hby d1_80) rfl  hr) ?_
        show Go p e s below _ _ _ _ T131 (mkF m 82 #[.val (.int p1), .val (.int c0), .val (.int c1), .val (.int c2), .val (.int nn), .val (.int (0 : Int32)), .unset] [(.int (0 : Int32))])
        refine Go.of (fun _ hr => XS.ifYes X131.here hx rfl (pc0 := 82) (pc' := 88) rfl (hb hby d1_82) rfl ((if0 _ _).trans (teq (by decide : ((0 : Int32) = (0 : Int32)))).1) (by decide) (by decide) hr) ?_
        show Go p e s below _ _ _ _ T131 (mkF m 88 #[.val (.int p1), .val (.int c0), .val (.int c1), .val (.int c2), .val (.int nn), .val (.int (0 : Int32)), .unset] [])
        exact jn102 (c0, (0 : Int32)) _ _ _ Cc131 X131 e131 B131 J131 N131 ⟨hq_c0, (Or.inr (Or.inl ⟨hb50_127, hb57_132⟩)), rfl⟩
      · refine Go.of (fun _ hr => XS.ifNo X131.here hx rfl (hb hby d1_57) rfl ((if0 _ _).trans (feq hb57_132).1) hr) ?_
        show Go p e s below _ _ _ _ T131 (mkF m 60 #[.val (.int p1), .val (.int c0), .val (.int c1), .val (.int c2), .val (.int nn), .unset, .unset] [])
        refine Go.of (fun _ hr => XS.iload X131.here hx rfl (hb hby d1_60) rfl  hr) ?_
        show Go p e s below _ _ _ _ T131 (mkF m 62 #[.val (.int p1), .val (.int c0), .val (.int c1), .val (.int c2), .val (.int nn), .unset, .unset] [(.int nn)])
        refine Go.of (fun _ hr => XS.iconst X131.here hx rfl (hb hby d1_62) hr) ?_
        show Go p e s below _ _ _ _ T131 (mkF m 63 #[.val (.int p1), .val (.int c0), .val (.int c1), .val (.int c2), .val (.int nn), .unset, .unset] [(.int (3 : Int32)), (.int nn)])
        by_cases hb63_133 : nn < (3 : Int32)
        · refine Go.of (fun _ hr => XS.icmpYes X131.here hx rfl (pc0 := 63) (pc' := 73) rfl (hb hby d1_63) rfl (tlt hb63_133).1 (by decide) (by decide) hr) ?_
          show Go p e s below _ _ _ _ T131 (mkF m 73 #[.val (.int p1), .val (.int c0), .val (.int c1), .val (.int c2), .val (.int nn), .unset, .unset] [])
          refine Go.of (fun _ hr => XS.iconst X131.here hx rfl (hb hby d1_73) hr) ?_
          show Go p e s below _ _ _ _ T131 (mkF m 74 #[.val (.int p1), .val (.int c0), .val (.int c1), .val (.int c2), .val (.int nn), .unset, .unset] [(.int (1 : Int32))])
          refine Go.of (fun _ hr => XS.goto X131.here hx rfl (pc0 := 74) (pc' := 78) rfl (hb hby d1_74) (by decide) (by decide) hr) ?_
          show Go p e s below _ _ _ _ T131 (mkF m 78 #[.val (.int p1), .val (.int c0), .val (.int c1), .val (.int c2), .val (.int nn), .unset, .unset] [(.int (1 : Int32))])
          refine Go.of (fun _ hr => XS.istore X131.here hx rfl (hb hby d1_78) rfl (l' := #[.val (.int p1), .val (.int c0), .val (.int c1), .val (.int c2), .val (.int nn), .val (.int (1 : Int32)), .unset]) rfl hr) ?_
          show Go p e s below _ _ _ _ T131 (mkF m 80 #[.val (.int p1), .val (.int c0), .val (.int c1), .val (.int c2), .val (.int nn), .val (.int (1 : Int32)), .unset] [])
          refine Go.of (fun _ hr => XS.iload X131.here hx rfl (hb hby d1_80) rfl  hr) ?_
          show Go p e s below _ _ _ _ T131 (mkF m 82 #[.val (.int p1), .val (.int c0), .val (.int c1), .val (.int c2), .val (.int nn), .val (.int (1 : Int32)), .unset] [(.int (1 : Int32))])
          refine Go.of (fun _ hr => XS.ifNo X131.here hx rfl (hb hby d1_82) rfl ((if0 _ _).trans (feq (by decide : ¬ ((1 : Int32) = (0 : Int32)))).1) hr) ?_
          show Go p e s below _ _ _ _ T131 (mkF m 85 #[.val (.int p1), .val (.int c0), .val (.int c1), .val (.int c2), .val (.int nn), .val (.int (1 : Int32)), .unset] [])
          refine Go.of (fun _ hr => XS.bipush X131.here hx rfl (hb hby d1_85) hr) ?_
          show Go p e s below _ _ _ _ T131 (mkF m 87 #[.val (.int p1), .val (.int c0), .val (.int c1), .val (.int c2), .val (.int nn), .val (.int (1 : Int32)), .unset] [(.int (107 : Int32))])
          refine Go.of (fun _ hr => XS.istoreN X131.here hx rfl (hb hby d1_87) rfl (l' := #[.val (.int p1), .val (.int (107 : Int32)), .val (.int c1), .val (.int c2), .val (.int nn), .val (.int (1 : Int32)), .unset]) rfl hr) ?_
          show Go p e s below _ _ _ _ T131 (mkF m 88 #[.val (.int p1), .val (.int (107 : Int32)), .val (.int c1), .val (.int c2), .val (.int nn), .val (.int (1 : Int32)), .unset] [])
          exact jn102 ((107 : Int32), (1 : Int32)) _ _ _ Cc131 X131 e131 B131 J131 N131 ⟨(by decide), Or.inl (by decide), rfl⟩
        · refine Go.of (fun _ hr => XS.icmpNo X131.here hx rfl (hb hby d1_63) rfl (flt hb63_133).1 hr) ?_
          show Go p e s below _ _ _ _ T131 (mkF m 66 #[.val (.int p1), .val (.int c0), .val (.int c1), .val (.int c2), .val (.int nn), .unset, .unset] [])
          refine Go.of (fun _ hr => XS.iloadN X131.here hx rfl (hb hby d1_66) rfl  hr) ?_
          show Go p e s below _ _ _ _ T131 (mkF m 67 #[.val (.int p1), .val (.int c0), .val (.int c1), .val (.int c2), .val (.int nn), .unset, .unset] [(.int c2)])
          obtain ⟨_, b134, T134, h134, L134, e134, Cc134, X134, B134, J134, g134, hQ134, st134⟩ := own_callS Cc131 B131 J131 X131 (hw _ (List.mem_of_getElem? (i := 4) rfl)) (hw _ (List.mem_of_getElem? (i := 5) rfl)) (hw _ (List.mem_of_getElem? (i := 2) rfl)) (hw _ (List.mem_of_getElem? (i := 6) rfl)) (by decide) (rm2 l Z a0 hw [] c2 _ h0 n0 O0 h0.size (own_ole O0) K0.1) e131 (g := (mkF m 67 #[.val (.int p1), .val (.int c0), .val (.int c1), .val (.int c2), .val (.int nn), .unset, .unset] [(.int c2)])) rfl (by rw [hml]; rfl) (argsL := [(.int c2)]) (rest := []) (lenOf pd29 rfl) rfl (W := 0) (by show 2 * 0 + _ ≤ _; exact Nat.le_of_eq rfl) (hb hby d1_67) (by decide) (by decide) (by decide) (by decide)
          obtain ⟨rfl, Nq134, hh134⟩ := hQ134
          have N134 := Fr.app N131 Nq134
          obtain ⟨hx, hZ, hown, hby, hml, hnm, hret, hlk⟩ := id Cc134
          rw [hh134] at e134 B134 J134
          refine Go.of st134 ?_
          show Go p e s below _ _ _ _ T134 (mkF m 70 #[.val (.int p1), .val (.int c0), .val (.int c1), .val (.int c2), .val (.int nn), .unset, .unset] [(.int (wsV c2))])
          by_cases hb70_135 : (wsV c2) = (0 : Int32)
          · refine Go.of (fun _ hr => XS.ifYes X134.here hx rfl (pc0 := 70) (pc' := 77) rfl (hb hby d1_70) rfl ((if0 _ _).trans (teq hb70_135).1) (by decide) (by decide) hr) ?_
            show Go p e s below _ _ _ _ T134 (mkF m 77 #[.val (.int p1), .val (.int c0), .val (.int c1), .val (.int c2), .val (.int nn), .unset, .unset] [])
            refine Go.of (fun _ hr => XS.iconst X134.here hx rfl (hb hby d1_77) hr) ?_
            show Go p e s below _ _ _ _ T134 (mkF m 78 #[.val (.int p1), .val (.int c0), .val (.int c1), .val (.int c2), .val (.int nn), .unset, .unset] [(.int (0 : Int32))])
            refine Go.of (fun _ hr => XS.istore X134.here hx rfl (hb hby d1_78) rfl (l' := #[.val (.int p1), .val (.int c0), .val (.int c1), .val (.int c2), .val (.int nn), .val (.int (0 : Int32)), .unset]) rfl hr) ?_
            show Go p e s below _ _ _ _ T134 (mkF m 80 #[.val (.int p1), .val (.int c0), .val (.int c1), .val (.int c2), .val (.int nn), .val (.int (0 : Int32)), .unset] [])
            refine Go.of (fun _ hr => XS.iload X134.here hx rfl (hb hby d1_80) rfl  hr) ?_
            show Go p e s below _ _ _ _ T134 (mkF m 82 #[.val (.int p1), .val (.int c0), .val (.int c1), .val (.int c2), .val (.int nn), .val (.int (0 : Int32)), .unset] [(.int (0 : Int32))])
            refine Go.of (fun _ hr => XS.ifYes X134.here hx rfl (pc0 := 82) (pc' := 88) rfl (hb hby d1_82) rfl ((if0 _ _).trans (teq (by decide : ((0 : Int32) = (0 : Int32)))).1) (by decide) (by decide) hr) ?_
            show Go p e s below _ _ _ _ T134 (mkF m 88 #[.val (.int p1), .val (.int c0), .val (.int c1), .val (.int c2), .val (.int nn), .val (.int (0 : Int32)), .unset] [])
            exact jn102 (c0, (0 : Int32)) _ _ _ Cc134 X134 e134 B134 J134 N134 ⟨hq_c0, (Or.inr (Or.inr ⟨hb63_133, hb70_135⟩)), rfl⟩
          · refine Go.of (fun _ hr => XS.ifNo X134.here hx rfl (hb hby d1_70) rfl ((if0 _ _).trans (feq hb70_135).1) hr) ?_
            show Go p e s below _ _ _ _ T134 (mkF m 73 #[.val (.int p1), .val (.int c0), .val (.int c1), .val (.int c2), .val (.int nn), .unset, .unset] [])
            refine Go.of (fun _ hr => XS.iconst X134.here hx rfl (hb hby d1_73) hr) ?_
            show Go p e s below _ _ _ _ T134 (mkF m 74 #[.val (.int p1), .val (.int c0), .val (.int c1), .val (.int c2), .val (.int nn), .unset, .unset] [(.int (1 : Int32))])
            refine Go.of (fun _ hr => XS.goto X134.here hx rfl (pc0 := 74) (pc' := 78) rfl (hb hby d1_74) (by decide) (by decide) hr) ?_
            show Go p e s below _ _ _ _ T134 (mkF m 78 #[.val (.int p1), .val (.int c0), .val (.int c1), .val (.int c2), .val (.int nn), .unset, .unset] [(.int (1 : Int32))])
            refine Go.of (fun _ hr => XS.istore X134.here hx rfl (hb hby d1_78) rfl (l' := #[.val (.int p1), .val (.int c0), .val (.int c1), .val (.int c2), .val (.int nn), .val (.int (1 : Int32)), .unset]) rfl hr) ?_
            show Go p e s below _ _ _ _ T134 (mkF m 80 #[.val (.int p1), .val (.int c0), .val (.int c1), .val (.int c2), .val (.int nn), .val (.int (1 : Int32)), .unset] [])
            refine Go.of (fun _ hr => XS.iload X134.here hx rfl (hb hby d1_80) rfl  hr) ?_
            show Go p e s below _ _ _ _ T134 (mkF m 82 #[.val (.int p1), .val (.int c0), .val (.int c1), .val (.int c2), .val (.int nn), .val (.int (1 : Int32)), .unset] [(.int (1 : Int32))])
            refine Go.of (fun _ hr => XS.ifNo X134.here hx rfl (hb hby d1_82) rfl ((if0 _ _).trans (feq (by decide : ¬ ((1 : Int32) = (0 : Int32)))).1) hr) ?_
            show Go p e s below _ _ _ _ T134 (mkF m 85 #[.val (.int p1), .val (.int c0), .val (.int c1), .val (.int c2), .val (.int nn), .val (.int (1 : Int32)), .unset] [])
            refine Go.of (fun _ hr => XS.bipush X134.here hx rfl (hb hby d1_85) hr) ?_
            show Go p e s below _ _ _ _ T134 (mkF m 87 #[.val (.int p1), .val (.int c0), .val (.int c1), .val (.int c2), .val (.int nn), .val (.int (1 : Int32)), .unset] [(.int (107 : Int32))])
            refine Go.of (fun _ hr => XS.istoreN X134.here hx rfl (hb hby d1_87) rfl (l' := #[.val (.int p1), .val (.int (107 : Int32)), .val (.int c1), .val (.int c2), .val (.int nn), .val (.int (1 : Int32)), .unset]) rfl hr) ?_
            show Go p e s below _ _ _ _ T134 (mkF m 88 #[.val (.int p1), .val (.int (107 : Int32)), .val (.int c1), .val (.int c2), .val (.int nn), .val (.int (1 : Int32)), .unset] [])
            exact jn102 ((107 : Int32), (1 : Int32)) _ _ _ Cc134 X134 e134 B134 J134 N134 ⟨(by decide), Or.inl (by decide), rfl⟩

theorem d44_0 : decode method_4_code 0 = .ok (.iload_n 1, 1) := by decide +kernel
theorem d44_1 : decode method_4_code 1 = .ok (.aload_n 0, 1) := by decide +kernel
theorem d44_2 : decode method_4_code 2 = .ok (.invokevirtual 18, 3) := by decide +kernel
theorem d44_5 : decode method_4_code 5 = .ok (.if_icmp .lt 5, 3) := by decide +kernel
theorem d44_10 : decode method_4_code 10 = .ok (.aload_n 2, 1) := by decide +kernel
theorem d44_11 : decode method_4_code 11 = .ok (.invokevirtual 18, 3) := by decide +kernel
theorem d44_14 : decode method_4_code 14 = .ok (.istore 4, 2) := by decide +kernel
theorem d44_16 : decode method_4_code 16 = .ok (.iload_n 1, 1) := by decide +kernel
theorem d44_17 : decode method_4_code 17 = .ok (.iload 4, 2) := by decide +kernel
theorem d44_57 : decode method_4_code 57 = .ok (.aload_n 0, 1) := by decide +kernel
theorem d44_58 : decode method_4_code 58 = .ok (.iload_n 1, 1) := by decide +kernel
theorem d44_59 : decode method_4_code 59 = .ok (.invokevirtual 22, 3) := by decide +kernel
theorem pd31 : parseMethodDescriptor "(I)C" = some ⟨[.int], some .char⟩ := by decide +kernel
theorem d44_62 : decode method_4_code 62 = .ok (.iload 5, 2) := by decide +kernel
theorem d44_64 : decode method_4_code 64 = .ok (.if_icmp .ne 7, 3) := by decide +kernel
theorem d44_67 : decode method_4_code 67 = .ok (.iconst 1, 1) := by decide +kernel
theorem d44_68 : decode method_4_code 68 = .ok (.goto 4, 3) := by decide +kernel
theorem d44_72 : decode method_4_code 72 = .ok (.ireturn, 1) := by decide +kernel
theorem d44_19 : decode method_4_code 19 = .ok (.if_icmp .ge 13, 3) := by decide +kernel
theorem d44_22 : decode method_4_code 22 = .ok (.aload_n 2, 1) := by decide +kernel
theorem d44_23 : decode method_4_code 23 = .ok (.iload_n 1, 1) := by decide +kernel
theorem d44_24 : decode method_4_code 24 = .ok (.invokevirtual 22, 3) := by decide +kernel
theorem d44_27 : decode method_4_code 27 = .ok (.istore 5, 2) := by decide +kernel
theorem d44_29 : decode method_4_code 29 = .ok (.goto 28, 3) := by decide +kernel
theorem d44_32 : decode method_4_code 32 = .ok (.iload_n 1, 1) := by decide +kernel
theorem d44_33 : decode method_4_code 33 = .ok (.iload 4, 2) := by decide +kernel
theorem d44_35 : decode method_4_code 35 = .ok (.if_icmp .ne 10, 3) := by decide +kernel
theorem d44_38 : decode method_4_code 38 = .ok (.bipush 46, 2) := by decide +kernel
theorem d44_40 : decode method_4_code 40 = .ok (.istore 5, 2) := by decide +kernel
theorem d44_42 : decode method_4_code 42 = .ok (.goto 15, 3) := by decide +kernel
theorem d44_45 : decode method_4_code 45 = .ok (.aload_n 3, 1) := by decide +kernel
theorem d44_46 : decode method_4_code 46 = .ok (.iload_n 1, 1) := by decide +kernel
theorem d44_47 : decode method_4_code 47 = .ok (.iload 4, 2) := by decide +kernel
theorem d44_49 : decode method_4_code 49 = .ok (.isub, 1) := by decide +kernel
theorem d44_50 : decode method_4_code 50 = .ok (.iconst 1, 1) := by decide +kernel
theorem d44_51 : decode method_4_code 51 = .ok (.isub, 1) := by decide +kernel
theorem d44_52 : decode method_4_code 52 = .ok (.invokevirtual 22, 3) := by decide +kernel
theorem d44_55 : decode method_4_code 55 = .ok (.istore 5, 2) := by decide +kernel
theorem d44_8 : decode method_4_code 8 = .ok (.iconst 1, 1) := by decide +kernel
theorem d44_9 : decode method_4_code 9 = .ok (.ireturn, 1) := by decide +kernel
set_option maxRecDepth 65536 in
set_option maxHeartbeats 40000000 in
theorem rm44 (l : Launch) (Z : State) (a0 : Array Value) (hw : ∀ d ∈ tables_1, d.before a0 Z = true) (ws : List Jvm.Cond) (s3 t3 : Addr) (k3 : ClassId) (i1 : Int32) (s1 t1 : Addr) (k1 : ClassId) (b1 : List Int32) (s2 t2 : Addr) (k2 : ClassId) (b2 : List Int32) (zc : Int32) (ms : List Addr) (h0 : Heap) (n0 : Nat) (O0 : Old Z n0 h0) (nb : Nat) (hb0 : n0 ≤ nb) (hnb : nb ≤ h0.size) (fs : Value) (hfs : fs = .null ∨ ∃ a, fs = .ref a) (S_F : Sta Z Z.heap "jdk/internal/util/Preconditions" "SIOOBE_FORMATTER" "Ljava/util/function/BiFunction;" fs) (Es3 : Exa Z h0 s3 "java/lang/String") (Fv3 : Fld Z h0 s3 "java/lang/String" "value" "[B" (.ref t3)) (Fc3 : Fld Z h0 s3 "java/lang/String" "coder" "B" (.int 0)) (V3 : Arv Z h0 t3 k3 .byte (Int32.ofNat (b1 ++ litI "." ++ b2).length) ((b1 ++ litI "." ++ b2).map Value.int) (.int 0)) (hn3 : (b1 ++ litI "." ++ b2).length ≤ 1000) (Es1 : Exa Z h0 s1 "java/lang/String") (Fv1 : Fld Z h0 s1 "java/lang/String" "value" "[B" (.ref t1)) (Fc1 : Fld Z h0 s1 "java/lang/String" "coder" "B" (.int 0)) (V1 : Arv Z h0 t1 k1 .byte (Int32.ofNat b1.length) (b1.map Value.int) (.int 0)) (hn1 : b1.length ≤ 1000) (Es2 : Exa Z h0 s2 "java/lang/String") (Fv2 : Fld Z h0 s2 "java/lang/String" "value" "[B" (.ref t2)) (Fc2 : Fld Z h0 s2 "java/lang/String" "coder" "B" (.int 0)) (V2 : Arv Z h0 t2 k2 .byte (Int32.ofNat b2.length) (b2.map Value.int) (.int 0)) (hn2 : b2.length ≤ 1000) (i0 : ¬ i1 < 0) (i6 : i1.toNatClampNeg < 2147483648) (S_C : Sta Z Z.heap "java/lang/String" "COMPACT_STRINGS" "Z" (.int zc)) (hzc : ¬ zc = 0) :
    Con l Z ms (⟨"com/example/grid_job_scheduler/gridjobscheduler/TriggerKeyToStringPinLaw", "posOk", "(Ljava/lang/String;ILjava/lang/String;Ljava/lang/String;)Z"⟩ : MethodName) method_4_code 6 (some .boolean) ws ({ frames := 4, cells := 0, slots := 0, locals := 55 } : Room) #[(.ref s3), (.int i1), (.ref s1), (.ref s2)] h0 (fun v vm h L => v = some (.int 1) ∧ Fr nb L ∧ h = h0) := by
  refine Con.mk (plainFor_of_name pn12) ?_
  intro p e s m below meth c s₁ Cc X0 e0 eb J0 B0 M0
  obtain ⟨hx, hZ, hown, hby, hml, hnm, hret, hlk⟩ := id Cc
  have N0 := Fr.nil h0.size
  have K0 := Keep.refl h0 []
  show Go p e s below _ _ _ _ s₁ (mkF m 0 #[.val (.ref s3), .val (.int i1), .val (.ref s1), .val (.ref s2), .unset, .unset] [])
  refine Go.of (fun _ hr => XS.iloadN X0.here hx rfl (hb hby d44_0) rfl  hr) ?_
  show Go p e s below _ _ _ _ s₁ (mkF m 1 #[.val (.ref s3), .val (.int i1), .val (.ref s1), .val (.ref s2), .unset, .unset] [(.int i1)])
  refine Go.of (fun _ hr => XS.aloadN X0.here hx rfl (hb hby d44_1) rfl rfl hr) ?_
  show Go p e s below _ _ _ _ s₁ (mkF m 2 #[.val (.ref s3), .val (.int i1), .val (.ref s1), .val (.ref s2), .unset, .unset] [(.ref s3), (.int i1)])
  obtain ⟨_, b101, T101, h101, L101, e101, Cc101, X101, B101, J101, g101, hQ101, st101⟩ := own_callV Cc B0 J0 X0 (hw _ (List.mem_of_getElem? (i := 228) rfl)) (hw _ (List.mem_of_getElem? (i := 104) rfl)) (notFace_of_selects (args := #[]) (mvT hZ (hw _ (List.mem_of_getElem? (i := 106) rfl)))) (hw _ (List.mem_of_getElem? (i := 106) rfl)) (hw _ (List.mem_of_getElem? (i := 105) rfl)) (hw _ (List.mem_of_getElem? (i := 10) rfl)) (hw _ (List.mem_of_getElem? (i := 107) rfl)) (by decide) Es3 (rm21 l Z a0 hw [] s3 t3 _ (b1 ++ litI "." ++ b2) zc _ h0 n0 O0 h0.size (own_ole O0) K0.1 Es3 Fv3 Fc3 V3 hn3 S_C hzc) e0 (g := (mkF m 2 #[.val (.ref s3), .val (.int i1), .val (.ref s1), .val (.ref s2), .unset, .unset] [(.ref s3), (.int i1)])) rfl (by rw [hml]; rfl) (argsL := []) (rest := [(.int i1)]) (lenOf pd12 rfl) rfl (W := 1) (by show 2 * 0 + _ ≤ _; exact Nat.le_of_eq rfl) (hb hby d44_2) (by decide) (by decide) (by decide) (by decide)
  obtain ⟨rfl, Nq101, hh101⟩ := hQ101
  have N101 := Fr.app N0 Nq101
  obtain ⟨hx, hZ, hown, hby, hml, hnm, hret, hlk⟩ := id Cc101
  rw [hh101] at e101 B101 J101
  refine Go.of st101 ?_
  show Go p e s below _ _ _ _ T101 (mkF m 5 #[.val (.ref s3), .val (.int i1), .val (.ref s1), .val (.ref s2), .unset, .unset] [(.int (Int32.ofNat (b1 ++ litI "." ++ b2).length)), (.int i1)])
  by_cases hb5_102 : i1 < (Int32.ofNat (b1 ++ litI "." ++ b2).length)
  · refine Go.of (fun _ hr => XS.icmpYes X101.here hx rfl (pc0 := 5) (pc' := 10) rfl (hb hby d44_5) rfl (tlt hb5_102).1 (by decide) (by decide) hr) ?_
    show Go p e s below _ _ _ _ T101 (mkF m 10 #[.val (.ref s3), .val (.int i1), .val (.ref s1), .val (.ref s2), .unset, .unset] [])
    refine Go.of (fun _ hr => XS.aloadN X101.here hx rfl (hb hby d44_10) rfl rfl hr) ?_
    show Go p e s below _ _ _ _ T101 (mkF m 11 #[.val (.ref s3), .val (.int i1), .val (.ref s1), .val (.ref s2), .unset, .unset] [(.ref s1)])
    obtain ⟨_, b103, T103, h103, L103, e103, Cc103, X103, B103, J103, g103, hQ103, st103⟩ := own_callV Cc101 B101 J101 X101 (hw _ (List.mem_of_getElem? (i := 228) rfl)) (hw _ (List.mem_of_getElem? (i := 104) rfl)) (notFace_of_selects (args := #[]) (mvT hZ (hw _ (List.mem_of_getElem? (i := 106) rfl)))) (hw _ (List.mem_of_getElem? (i := 106) rfl)) (hw _ (List.mem_of_getElem? (i := 105) rfl)) (hw _ (List.mem_of_getElem? (i := 10) rfl)) (hw _ (List.mem_of_getElem? (i := 107) rfl)) (by decide) Es1 (rm21 l Z a0 hw [] s1 t1 _ b1 zc _ h0 n0 O0 h0.size (own_ole O0) K0.1 Es1 Fv1 Fc1 V1 hn1 S_C hzc) e101 (g := (mkF m 11 #[.val (.ref s3), .val (.int i1), .val (.ref s1), .val (.ref s2), .unset, .unset] [(.ref s1)])) rfl (by rw [hml]; rfl) (argsL := []) (rest := []) (lenOf pd12 rfl) rfl (W := 0) (by show 2 * 0 + _ ≤ _; exact Nat.le_of_eq rfl) (hb hby d44_11) (by decide) (by decide) (by decide) (by decide)
    obtain ⟨rfl, Nq103, hh103⟩ := hQ103
    have N103 := Fr.app N101 Nq103
    obtain ⟨hx, hZ, hown, hby, hml, hnm, hret, hlk⟩ := id Cc103
    rw [hh103] at e103 B103 J103
    refine Go.of st103 ?_
    show Go p e s below _ _ _ _ T103 (mkF m 14 #[.val (.ref s3), .val (.int i1), .val (.ref s1), .val (.ref s2), .unset, .unset] [(.int (Int32.ofNat b1.length))])
    refine Go.of (fun _ hr => XS.istore X103.here hx rfl (hb hby d44_14) rfl (l' := #[.val (.ref s3), .val (.int i1), .val (.ref s1), .val (.ref s2), .val (.int (Int32.ofNat b1.length)), .unset]) rfl hr) ?_
    show Go p e s below _ _ _ _ T103 (mkF m 16 #[.val (.ref s3), .val (.int i1), .val (.ref s1), .val (.ref s2), .val (.int (Int32.ofNat b1.length)), .unset] [])
    refine Go.of (fun _ hr => XS.iloadN X103.here hx rfl (hb hby d44_16) rfl  hr) ?_
    show Go p e s below _ _ _ _ T103 (mkF m 17 #[.val (.ref s3), .val (.int i1), .val (.ref s1), .val (.ref s2), .val (.int (Int32.ofNat b1.length)), .unset] [(.int i1)])
    refine Go.of (fun _ hr => XS.iload X103.here hx rfl (hb hby d44_17) rfl  hr) ?_
    show Go p e s below _ _ _ _ T103 (mkF m 19 #[.val (.ref s3), .val (.int i1), .val (.ref s1), .val (.ref s2), .val (.int (Int32.ofNat b1.length)), .unset] [(.int (Int32.ofNat b1.length)), (.int i1)])
    refine Go.joinC (α := Int32) Cc103 X103 J103 N103 (fun x_ => x_ = chV (b1 ++ litI "." ++ b2) i1) (fun x_ => (mkF m 57 #[.val (.ref s3), .val (.int i1), .val (.ref s1), .val (.ref s2), .val (.int (Int32.ofNat b1.length)), .val (.int x_)] [])) ?_ ?_
    · rintro want b104 T104 L104 Cc104 X104 e104 B104 J104 N104 hj104
      replace hj104 : want = chV (b1 ++ litI "." ++ b2) i1 := hj104
      obtain ⟨hx, hZ, hown, hby, hml, hnm, hret, hlk⟩ := id Cc104
      show Go p e s below _ _ _ _ T104 (mkF m 57 #[.val (.ref s3), .val (.int i1), .val (.ref s1), .val (.ref s2), .val (.int (Int32.ofNat b1.length)), .val (.int want)] [])
      refine Go.of (fun _ hr => XS.aloadN X104.here hx rfl (hb hby d44_57) rfl rfl hr) ?_
      show Go p e s below _ _ _ _ T104 (mkF m 58 #[.val (.ref s3), .val (.int i1), .val (.ref s1), .val (.ref s2), .val (.int (Int32.ofNat b1.length)), .val (.int want)] [(.ref s3)])
      refine Go.of (fun _ hr => XS.iloadN X104.here hx rfl (hb hby d44_58) rfl  hr) ?_
      show Go p e s below _ _ _ _ T104 (mkF m 59 #[.val (.ref s3), .val (.int i1), .val (.ref s1), .val (.ref s2), .val (.int (Int32.ofNat b1.length)), .val (.int want)] [(.int i1), (.ref s3)])
      obtain ⟨_, b105, T105, h105, L105, e105, Cc105, X105, B105, J105, g105, hQ105, st105⟩ := own_callV Cc104 B104 J104 X104 (hw _ (List.mem_of_getElem? (i := 232) rfl)) (hw _ (List.mem_of_getElem? (i := 233) rfl)) (notFace_of_selects (args := #[]) (mvT hZ (hw _ (List.mem_of_getElem? (i := 235) rfl)))) (hw _ (List.mem_of_getElem? (i := 235) rfl)) (hw _ (List.mem_of_getElem? (i := 234) rfl)) (hw _ (List.mem_of_getElem? (i := 10) rfl)) (hw _ (List.mem_of_getElem? (i := 236) rfl)) (by decide) Es3 (rm45 l Z a0 hw [] s3 t3 _ (b1 ++ litI "." ++ b2) i1 zc _ h0 n0 O0 h0.size (own_ole O0) K0.1 fs hfs S_F Es3 Fv3 Fc3 V3 hn3 i0 hb5_102 S_C hzc) e104 (g := (mkF m 59 #[.val (.ref s3), .val (.int i1), .val (.ref s1), .val (.ref s2), .val (.int (Int32.ofNat b1.length)), .val (.int want)] [(.int i1), (.ref s3)])) rfl (by rw [hml]; rfl) (argsL := [(.int i1)]) (rest := []) (lenOf pd31 rfl) rfl (W := 0) (by show 2 * 0 + _ ≤ _; exact Nat.le_of_eq rfl) (hb hby d44_59) (by decide) (by decide) (by decide) (by decide)
      obtain ⟨rfl, Nq105, hh105⟩ := hQ105
      have N105 := Fr.app N104 Nq105
      obtain ⟨hx, hZ, hown, hby, hml, hnm, hret, hlk⟩ := id Cc105
      rw [hh105] at e105 B105 J105
      refine Go.of st105 ?_
      show Go p e s below _ _ _ _ T105 (mkF m 62 #[.val (.ref s3), .val (.int i1), .val (.ref s1), .val (.ref s2), .val (.int (Int32.ofNat b1.length)), .val (.int want)] [(.int (chV (b1 ++ litI "." ++ b2) i1))])
      refine Go.of (fun _ hr => XS.iload X105.here hx rfl (hb hby d44_62) rfl  hr) ?_
      show Go p e s below _ _ _ _ T105 (mkF m 64 #[.val (.ref s3), .val (.int i1), .val (.ref s1), .val (.ref s2), .val (.int (Int32.ofNat b1.length)), .val (.int want)] [(.int want), (.int (chV (b1 ++ litI "." ++ b2) i1))])
      refine Go.of (fun _ hr => XS.icmpNo X105.here hx rfl (hb hby d44_64) rfl (teq hj104.symm).2 hr) ?_
      show Go p e s below _ _ _ _ T105 (mkF m 67 #[.val (.ref s3), .val (.int i1), .val (.ref s1), .val (.ref s2), .val (.int (Int32.ofNat b1.length)), .val (.int want)] [])
      refine Go.of (fun _ hr => XS.iconst X105.here hx rfl (hb hby d44_67) hr) ?_
      show Go p e s below _ _ _ _ T105 (mkF m 68 #[.val (.ref s3), .val (.int i1), .val (.ref s1), .val (.ref s2), .val (.int (Int32.ofNat b1.length)), .val (.int want)] [(.int (1 : Int32))])
      refine Go.of (fun _ hr => XS.goto X105.here hx rfl (pc0 := 68) (pc' := 72) rfl (hb hby d44_68) (by decide) (by decide) hr) ?_
      show Go p e s below _ _ _ _ T105 (mkF m 72 #[.val (.ref s3), .val (.int i1), .val (.ref s1), .val (.ref s2), .val (.int (Int32.ofNat b1.length)), .val (.int want)] [(.int (1 : Int32))])
      exact Go.retN X105 hx hlk B105 J105 e105 (t := .boolean) (z' := (1 : Int32)) hret (by simp) (hb hby d44_72) rfl (by decide) (by decide) (fun vm_ hw_ => ⟨rfl, (fun y hy => Nat.le_trans hnb (N105 y hy)), rfl⟩)
    intro jn104
    show Go p e s below _ _ _ _ T103 (mkF m 19 #[.val (.ref s3), .val (.int i1), .val (.ref s1), .val (.ref s2), .val (.int (Int32.ofNat b1.length)), .unset] [(.int (Int32.ofNat b1.length)), (.int i1)])
    by_cases hb19_106 : i1 < (Int32.ofNat b1.length)
    · refine Go.of (fun _ hr => XS.icmpNo X103.here hx rfl (hb hby d44_19) rfl (tlt hb19_106).2.1 hr) ?_
      show Go p e s below _ _ _ _ T103 (mkF m 22 #[.val (.ref s3), .val (.int i1), .val (.ref s1), .val (.ref s2), .val (.int (Int32.ofNat b1.length)), .unset] [])
      refine Go.of (fun _ hr => XS.aloadN X103.here hx rfl (hb hby d44_22) rfl rfl hr) ?_
      show Go p e s below _ _ _ _ T103 (mkF m 23 #[.val (.ref s3), .val (.int i1), .val (.ref s1), .val (.ref s2), .val (.int (Int32.ofNat b1.length)), .unset] [(.ref s1)])
      refine Go.of (fun _ hr => XS.iloadN X103.here hx rfl (hb hby d44_23) rfl  hr) ?_
      show Go p e s below _ _ _ _ T103 (mkF m 24 #[.val (.ref s3), .val (.int i1), .val (.ref s1), .val (.ref s2), .val (.int (Int32.ofNat b1.length)), .unset] [(.int i1), (.ref s1)])
      obtain ⟨_, b107, T107, h107, L107, e107, Cc107, X107, B107, J107, g107, hQ107, st107⟩ := own_callV Cc103 B103 J103 X103 (hw _ (List.mem_of_getElem? (i := 232) rfl)) (hw _ (List.mem_of_getElem? (i := 233) rfl)) (notFace_of_selects (args := #[]) (mvT hZ (hw _ (List.mem_of_getElem? (i := 235) rfl)))) (hw _ (List.mem_of_getElem? (i := 235) rfl)) (hw _ (List.mem_of_getElem? (i := 234) rfl)) (hw _ (List.mem_of_getElem? (i := 10) rfl)) (hw _ (List.mem_of_getElem? (i := 236) rfl)) (by decide) Es1 (rm45 l Z a0 hw [] s1 t1 _ b1 i1 zc _ h0 n0 O0 h0.size (own_ole O0) K0.1 fs hfs S_F Es1 Fv1 Fc1 V1 hn1 i0 hb19_106 S_C hzc) e103 (g := (mkF m 24 #[.val (.ref s3), .val (.int i1), .val (.ref s1), .val (.ref s2), .val (.int (Int32.ofNat b1.length)), .unset] [(.int i1), (.ref s1)])) rfl (by rw [hml]; rfl) (argsL := [(.int i1)]) (rest := []) (lenOf pd31 rfl) rfl (W := 0) (by show 2 * 0 + _ ≤ _; exact Nat.le_of_eq rfl) (hb hby d44_24) (by decide) (by decide) (by decide) (by decide)
      obtain ⟨rfl, Nq107, hh107⟩ := hQ107
      have N107 := Fr.app N103 Nq107
      obtain ⟨hx, hZ, hown, hby, hml, hnm, hret, hlk⟩ := id Cc107
      rw [hh107] at e107 B107 J107
      refine Go.of st107 ?_
      show Go p e s below _ _ _ _ T107 (mkF m 27 #[.val (.ref s3), .val (.int i1), .val (.ref s1), .val (.ref s2), .val (.int (Int32.ofNat b1.length)), .unset] [(.int (chV b1 i1))])
      refine Go.of (fun _ hr => XS.istore X107.here hx rfl (hb hby d44_27) rfl (l' := #[.val (.ref s3), .val (.int i1), .val (.ref s1), .val (.ref s2), .val (.int (Int32.ofNat b1.length)), .val (.int (chV b1 i1))]) rfl hr) ?_
      show Go p e s below _ _ _ _ T107 (mkF m 29 #[.val (.ref s3), .val (.int i1), .val (.ref s1), .val (.ref s2), .val (.int (Int32.ofNat b1.length)), .val (.int (chV b1 i1))] [])
      refine Go.of (fun _ hr => XS.goto X107.here hx rfl (pc0 := 29) (pc' := 57) rfl (hb hby d44_29) (by decide) (by decide) hr) ?_
      show Go p e s below _ _ _ _ T107 (mkF m 57 #[.val (.ref s3), .val (.int i1), .val (.ref s1), .val (.ref s2), .val (.int (Int32.ofNat b1.length)), .val (.int (chV b1 i1))] [])
      exact jn104 (chV b1 i1) _ _ _ Cc107 X107 e107 B107 J107 N107 (chV_ll i0 hb19_106 (by omega)).symm
    · refine Go.of (fun _ hr => XS.icmpYes X103.here hx rfl (pc0 := 19) (pc' := 32) rfl (hb hby d44_19) rfl (flt hb19_106).2.1 (by decide) (by decide) hr) ?_
      show Go p e s below _ _ _ _ T103 (mkF m 32 #[.val (.ref s3), .val (.int i1), .val (.ref s1), .val (.ref s2), .val (.int (Int32.ofNat b1.length)), .unset] [])
      refine Go.of (fun _ hr => XS.iloadN X103.here hx rfl (hb hby d44_32) rfl  hr) ?_
      show Go p e s below _ _ _ _ T103 (mkF m 33 #[.val (.ref s3), .val (.int i1), .val (.ref s1), .val (.ref s2), .val (.int (Int32.ofNat b1.length)), .unset] [(.int i1)])
      refine Go.of (fun _ hr => XS.iload X103.here hx rfl (hb hby d44_33) rfl  hr) ?_
      show Go p e s below _ _ _ _ T103 (mkF m 35 #[.val (.ref s3), .val (.int i1), .val (.ref s1), .val (.ref s2), .val (.int (Int32.ofNat b1.length)), .unset] [(.int (Int32.ofNat b1.length)), (.int i1)])
      by_cases hb35_108 : i1 = (Int32.ofNat b1.length)
      · refine Go.of (fun _ hr => XS.icmpNo X103.here hx rfl (hb hby d44_35) rfl (teq hb35_108).2 hr) ?_
        show Go p e s below _ _ _ _ T103 (mkF m 38 #[.val (.ref s3), .val (.int i1), .val (.ref s1), .val (.ref s2), .val (.int (Int32.ofNat b1.length)), .unset] [])
        refine Go.of (fun _ hr => XS.bipush X103.here hx rfl (hb hby d44_38) hr) ?_
        show Go p e s below _ _ _ _ T103 (mkF m 40 #[.val (.ref s3), .val (.int i1), .val (.ref s1), .val (.ref s2), .val (.int (Int32.ofNat b1.length)), .unset] [(.int (46 : Int32))])
        refine Go.of (fun _ hr => XS.istore X103.here hx rfl (hb hby d44_40) rfl (l' := #[.val (.ref s3), .val (.int i1), .val (.ref s1), .val (.ref s2), .val (.int (Int32.ofNat b1.length)), .val (.int (46 : Int32))]) rfl hr) ?_
        show Go p e s below _ _ _ _ T103 (mkF m 42 #[.val (.ref s3), .val (.int i1), .val (.ref s1), .val (.ref s2), .val (.int (Int32.ofNat b1.length)), .val (.int (46 : Int32))] [])
        refine Go.of (fun _ hr => XS.goto X103.here hx rfl (pc0 := 42) (pc' := 57) rfl (hb hby d44_42) (by decide) (by decide) hr) ?_
        show Go p e s below _ _ _ _ T103 (mkF m 57 #[.val (.ref s3), .val (.int i1), .val (.ref s1), .val (.ref s2), .val (.int (Int32.ofNat b1.length)), .val (.int (46 : Int32))] [])
        exact jn104 (46 : Int32) _ _ _ Cc103 X103 e103 B103 J103 N103 (chV_m hb35_108 (by omega)).symm
      · refine Go.of (fun _ hr => XS.icmpYes X103.here hx rfl (pc0 := 35) (pc' := 45) rfl (hb hby d44_35) rfl (feq hb35_108).2 (by decide) (by decide) hr) ?_
        show Go p e s below _ _ _ _ T103 (mkF m 45 #[.val (.ref s3), .val (.int i1), .val (.ref s1), .val (.ref s2), .val (.int (Int32.ofNat b1.length)), .unset] [])
        refine Go.of (fun _ hr => XS.aloadN X103.here hx rfl (hb hby d44_45) rfl rfl hr) ?_
        show Go p e s below _ _ _ _ T103 (mkF m 46 #[.val (.ref s3), .val (.int i1), .val (.ref s1), .val (.ref s2), .val (.int (Int32.ofNat b1.length)), .unset] [(.ref s2)])
        refine Go.of (fun _ hr => XS.iloadN X103.here hx rfl (hb hby d44_46) rfl  hr) ?_
        show Go p e s below _ _ _ _ T103 (mkF m 47 #[.val (.ref s3), .val (.int i1), .val (.ref s1), .val (.ref s2), .val (.int (Int32.ofNat b1.length)), .unset] [(.int i1), (.ref s2)])
        refine Go.of (fun _ hr => XS.iload X103.here hx rfl (hb hby d44_47) rfl  hr) ?_
        show Go p e s below _ _ _ _ T103 (mkF m 49 #[.val (.ref s3), .val (.int i1), .val (.ref s1), .val (.ref s2), .val (.int (Int32.ofNat b1.length)), .unset] [(.int (Int32.ofNat b1.length)), (.int i1), (.ref s2)])
        refine Go.of (fun _ hr => XS.isub X103.here hx rfl (hb hby d44_49) rfl hr) ?_
        show Go p e s below _ _ _ _ T103 (mkF m 50 #[.val (.ref s3), .val (.int i1), .val (.ref s1), .val (.ref s2), .val (.int (Int32.ofNat b1.length)), .unset] [(.int (i1 - (Int32.ofNat b1.length))), (.ref s2)])
        refine Go.of (fun _ hr => XS.iconst X103.here hx rfl (hb hby d44_50) hr) ?_
        show Go p e s below _ _ _ _ T103 (mkF m 51 #[.val (.ref s3), .val (.int i1), .val (.ref s1), .val (.ref s2), .val (.int (Int32.ofNat b1.length)), .unset] [(.int (1 : Int32)), (.int (i1 - (Int32.ofNat b1.length))), (.ref s2)])
        refine Go.of (fun _ hr => XS.isub X103.here hx rfl (hb hby d44_51) rfl hr) ?_
        show Go p e s below _ _ _ _ T103 (mkF m 52 #[.val (.ref s3), .val (.int i1), .val (.ref s1), .val (.ref s2), .val (.int (Int32.ofNat b1.length)), .unset] [(.int ((i1 - (Int32.ofNat b1.length)) - (1 : Int32))), (.ref s2)])
        obtain ⟨_, b109, T109, h109, L109, e109, Cc109, X109, B109, J109, g109, hQ109, st109⟩ := own_callV Cc103 B103 J103 X103 (hw _ (List.mem_of_getElem? (i := 232) rfl)) (hw _ (List.mem_of_getElem? (i := 233) rfl)) (notFace_of_selects (args := #[]) (mvT hZ (hw _ (List.mem_of_getElem? (i := 235) rfl)))) (hw _ (List.mem_of_getElem? (i := 235) rfl)) (hw _ (List.mem_of_getElem? (i := 234) rfl)) (hw _ (List.mem_of_getElem? (i := 10) rfl)) (hw _ (List.mem_of_getElem? (i := 236) rfl)) (by decide) Es2 (rm45 l Z a0 hw [] s2 t2 _ b2 ((i1 - (Int32.ofNat b1.length)) - (1 : Int32)) zc _ h0 n0 O0 h0.size (own_ole O0) K0.1 fs hfs S_F Es2 Fv2 Fc2 V2 hn2 (pos_in i0 hb5_102 hb19_106 hb35_108 hn1 hn2).1 (pos_in i0 hb5_102 hb19_106 hb35_108 hn1 hn2).2 S_C hzc) e103 (g := (mkF m 52 #[.val (.ref s3), .val (.int i1), .val (.ref s1), .val (.ref s2), .val (.int (Int32.ofNat b1.length)), .unset] [(.int ((i1 - (Int32.ofNat b1.length)) - (1 : Int32))), (.ref s2)])) rfl (by rw [hml]; rfl) (argsL := [(.int ((i1 - (Int32.ofNat b1.length)) - (1 : Int32)))]) (rest := []) (lenOf pd31 rfl) rfl (W := 0) (by show 2 * 0 + _ ≤ _; exact Nat.le_of_eq rfl) (hb hby d44_52) (by decide) (by decide) (by decide) (by decide)
        obtain ⟨rfl, Nq109, hh109⟩ := hQ109
        have N109 := Fr.app N103 Nq109
        obtain ⟨hx, hZ, hown, hby, hml, hnm, hret, hlk⟩ := id Cc109
        rw [hh109] at e109 B109 J109
        refine Go.of st109 ?_
        show Go p e s below _ _ _ _ T109 (mkF m 55 #[.val (.ref s3), .val (.int i1), .val (.ref s1), .val (.ref s2), .val (.int (Int32.ofNat b1.length)), .unset] [(.int (chV b2 ((i1 - (Int32.ofNat b1.length)) - (1 : Int32))))])
        refine Go.of (fun _ hr => XS.istore X109.here hx rfl (hb hby d44_55) rfl (l' := #[.val (.ref s3), .val (.int i1), .val (.ref s1), .val (.ref s2), .val (.int (Int32.ofNat b1.length)), .val (.int (chV b2 ((i1 - (Int32.ofNat b1.length)) - (1 : Int32))))]) rfl hr) ?_
        show Go p e s below _ _ _ _ T109 (mkF m 57 #[.val (.ref s3), .val (.int i1), .val (.ref s1), .val (.ref s2), .val (.int (Int32.ofNat b1.length)), .val (.int (chV b2 ((i1 - (Int32.ofNat b1.length)) - (1 : Int32))))] [])
        exact jn104 (chV b2 ((i1 - (Int32.ofNat b1.length)) - (1 : Int32))) _ _ _ Cc109 X109 e109 B109 J109 N109 (chV_r i0 hb19_106 hb35_108 (by omega) (by omega)).symm
  · refine Go.of (fun _ hr => XS.icmpNo X101.here hx rfl (hb hby d44_5) rfl (flt hb5_102).1 hr) ?_
    show Go p e s below _ _ _ _ T101 (mkF m 8 #[.val (.ref s3), .val (.int i1), .val (.ref s1), .val (.ref s2), .unset, .unset] [])
    refine Go.of (fun _ hr => XS.iconst X101.here hx rfl (hb hby d44_8) hr) ?_
    show Go p e s below _ _ _ _ T101 (mkF m 9 #[.val (.ref s3), .val (.int i1), .val (.ref s1), .val (.ref s2), .unset, .unset] [(.int (1 : Int32))])
    exact Go.retN X101 hx hlk B101 J101 e101 (t := .boolean) (z' := (1 : Int32)) hret (by simp) (hb hby d44_9) rfl (by decide) (by decide) (fun vm_ hw_ => ⟨rfl, (fun y hy => Nat.le_trans hnb (N101 y hy)), rfl⟩)


theorem pd32 : parseMethodDescriptor "(I)Ljava/lang/String;" = some ⟨[.int], some (.object "java/lang/String")⟩ := by decide +kernel
theorem pd33 : parseMethodDescriptor "(Ljava/lang/String;Ljava/lang/String;)V" = some ⟨[(.object "java/lang/String"), (.object "java/lang/String")], none⟩ := by decide +kernel
theorem pd34 : parseMethodDescriptor "(Ljava/lang/String;ILjava/lang/String;Ljava/lang/String;)Z" = some ⟨[(.object "java/lang/String"), .int, (.object "java/lang/String"), (.object "java/lang/String")], some .boolean⟩ := by decide +kernel
set_option maxRecDepth 65536 in
set_option maxHeartbeats 40000000 in
theorem rm0 (l : Launch) (Z : State) (a0 : Array Value) (hw : ∀ d ∈ tables_1, d.before a0 Z = true) (ws : List Jvm.Cond) (p1 p2 : Int32) (zc : Int32) (ms : List Addr) (h0 : Heap) (n0 : Nat) (O0 : Old Z n0 h0) (nb : Nat) (hb0 : n0 ≤ nb) (hnb : nb ≤ h0.size) (fs : Value) (hfs : fs = .null ∨ ∃ a, fs = .ref a) (S_F : Sta Z Z.heap "jdk/internal/util/Preconditions" "SIOOBE_FORMATTER" "Ljava/util/function/BiFunction;" fs) (wi wa : Addr) (ka : ClassId) (S_I : Sta Z Z.heap "java/lang/CharacterDataLatin1" "instance" "Ljava/lang/CharacterDataLatin1;" (.ref wi)) (E_I : Exa Z Z.heap wi "java/lang/CharacterDataLatin1") (S_A : Sta Z Z.heap "java/lang/CharacterDataLatin1" "A" "[I" (.ref wa)) (V_A : Arv Z Z.heap wa ka .int 256 (tabA.map Value.int) (.int 0)) (S_C : Sta Z Z.heap "java/lang/String" "COMPACT_STRINGS" "Z" (.int zc)) (hzc : ¬ zc = 0) :
    Con l Z ms x code maxLocals ret ws room_1 #[(.int p1), (.int p2)] h0 (fun v vm h L => v = some (.int 1) ∧ Fr nb L) := by
  refine Con.mk (plainFor_of_name pn12) ?_
  intro p e s m below meth c s₁ Cc X0 e0 eb J0 B0 M0
  replace Cc : Cx Z p s m meth c "com/example/grid_job_scheduler/gridjobscheduler/TriggerKeyToStringPinLaw" code 6 "law" ret := Cc
  obtain ⟨hx, hZ, hown, hby, hml, hnm, hret, hlk⟩ := id Cc
  have N0 := Fr.nil h0.size
  have K0 := Keep.refl h0 []
  show Go p e s below _ _ _ _ s₁ (mkF m 0 #[.val (.int p1), .val (.int p2), .unset, .unset, .unset, .unset] [])
  refine Go.of (fun _ hr => XS.iloadN X0.here hx rfl (hb hby at_0) rfl  hr) ?_
  show Go p e s below _ _ _ _ s₁ (mkF m 1 #[.val (.int p1), .val (.int p2), .unset, .unset, .unset, .unset] [(.int p1)])
  obtain ⟨_, b101, T101, h101, L101, e101, Cc101, X101, B101, J101, g101, hQ101, st101⟩ := own_callS Cc B0 J0 X0 (hw _ (List.mem_of_getElem? (i := 0) rfl)) (hw _ (List.mem_of_getElem? (i := 1) rfl)) (hw _ (List.mem_of_getElem? (i := 2) rfl)) (hw _ (List.mem_of_getElem? (i := 3) rfl)) (by decide) (rm1 l Z a0 hw [] p1 zc _ h0 n0 O0 h0.size (own_ole O0) K0.1 S_C hzc) e0 (g := (mkF m 1 #[.val (.int p1), .val (.int p2), .unset, .unset, .unset, .unset] [(.int p1)])) rfl (by rw [hml]; rfl) (argsL := [(.int p1)]) (rest := []) (lenOf pd32 rfl) rfl (W := 0) (by show 2 * 0 + _ ≤ _; exact Nat.le_of_eq rfl) (hb hby at_1) (by decide) (by decide) (by decide) (by decide)
  obtain ⟨r101, t101, kt101, cs101, rfl, Nq101, Eq101, R_r101, ok101, nt101, Er101, Fv101, Fc101, Vt101⟩ := hQ101
  have N101 := Fr.app N0 Nq101
  obtain ⟨hx, hZ, hown, hby, hml, hnm, hret, hlk⟩ := id Cc101
  have sz_r101 : h0.size ≤ r101 := Nat.le_trans K0.1 R_r101
  have fr_r101 : h0.size ≤ r101 := sz_r101
  have K101 := K0.ext Eq101
  have O101 := O0.ext Eq101
  refine Go.of st101 ?_
  show Go p e s below _ _ _ _ T101 (mkF m 4 #[.val (.int p1), .val (.int p2), .unset, .unset, .unset, .unset] [(.ref r101)])
  refine Go.of (fun _ hr => XS.astoreN X101.here hx rfl (hb hby at_4) rfl rfl (l' := #[.val (.int p1), .val (.int p2), .val (.ref r101), .unset, .unset, .unset]) rfl hr) ?_
  show Go p e s below _ _ _ _ T101 (mkF m 5 #[.val (.int p1), .val (.int p2), .val (.ref r101), .unset, .unset, .unset] [])
  refine Go.of (fun _ hr => XS.iloadN X101.here hx rfl (hb hby at_5) rfl  hr) ?_
  show Go p e s below _ _ _ _ T101 (mkF m 6 #[.val (.int p1), .val (.int p2), .val (.ref r101), .unset, .unset, .unset] [(.int p2)])
  obtain ⟨_, b102, T102, h102, L102, e102, Cc102, X102, B102, J102, g102, hQ102, st102⟩ := own_callS Cc101 B101 J101 X101 (hw _ (List.mem_of_getElem? (i := 0) rfl)) (hw _ (List.mem_of_getElem? (i := 1) rfl)) (hw _ (List.mem_of_getElem? (i := 2) rfl)) (hw _ (List.mem_of_getElem? (i := 3) rfl)) (by decide) (rm1 l Z a0 hw [] p2 zc _ h101 n0 O101 h0.size (own_ole O0) K101.1 S_C hzc) e101 (g := (mkF m 6 #[.val (.int p1), .val (.int p2), .val (.ref r101), .unset, .unset, .unset] [(.int p2)])) rfl (by rw [hml]; rfl) (argsL := [(.int p2)]) (rest := []) (lenOf pd32 rfl) rfl (W := 0) (by show 2 * 0 + _ ≤ _; exact Nat.le_of_eq rfl) (hb hby at_6) (by decide) (by decide) (by decide) (by decide)
  obtain ⟨r102, t102, kt102, cs102, rfl, Nq102, Eq102, R_r102, ok102, nt102, Er102, Fv102, Fc102, Vt102⟩ := hQ102
  have N102 := Fr.app N101 Nq102
  obtain ⟨hx, hZ, hown, hby, hml, hnm, hret, hlk⟩ := id Cc102
  have sz_r102 : h0.size ≤ r102 := Nat.le_trans K101.1 R_r102
  have fr_r102 : h0.size ≤ r102 := sz_r102
  have ne_r101_r102 : r101 ≠ r102 := Nat.ne_of_lt (Nat.lt_of_lt_of_le Er101.lt R_r102)
  have ne_t101_r102 : t101 ≠ r102 := Nat.ne_of_lt (Nat.lt_of_lt_of_le Vt101.lt R_r102)
  have K102 := K101.ext Eq102
  have O102 := O101.ext Eq102
  refine Go.of st102 ?_
  show Go p e s below _ _ _ _ T102 (mkF m 9 #[.val (.int p1), .val (.int p2), .val (.ref r101), .unset, .unset, .unset] [(.ref r102)])
  refine Go.of (fun _ hr => XS.astoreN X102.here hx rfl (hb hby at_9) rfl rfl (l' := #[.val (.int p1), .val (.int p2), .val (.ref r101), .val (.ref r102), .unset, .unset]) rfl hr) ?_
  show Go p e s below _ _ _ _ T102 (mkF m 10 #[.val (.int p1), .val (.int p2), .val (.ref r101), .val (.ref r102), .unset, .unset] [])
  obtain ⟨T103, h103, X103, e103, E103, A103, D103, -, st103⟩ := newO X102 hx hZ hown (hw _ (List.mem_of_getElem? (i := 37) rfl)) (hw _ (List.mem_of_getElem? (i := 38) rfl)) (hw _ (List.mem_of_getElem? (i := 39) rfl)) e102 (g := (mkF m 10 #[.val (.int p1), .val (.int p2), .val (.ref r101), .val (.ref r102), .unset, .unset] [])) rfl (hb hby at_10) (by decide) (by decide)
  obtain ⟨o103, g103⟩ : ∃ z, z = h102.size := ⟨_, rfl⟩
  rw [← g103] at A103 D103 st103
  have f104 := (Er101.ext Eq102)
  have ne_r101_o103 : r101 ≠ o103 := Nat.ne_of_lt (Nat.lt_of_lt_of_le f104.lt (Nat.le_of_eq g103.symm))
  have f105 := (Vt101.ext Eq102)
  have ne_t101_o103 : t101 ≠ o103 := Nat.ne_of_lt (Nat.lt_of_lt_of_le f105.lt (Nat.le_of_eq g103.symm))
  have ne_r102_o103 : r102 ≠ o103 := Nat.ne_of_lt (Nat.lt_of_lt_of_le Er102.lt (Nat.le_of_eq g103.symm))
  have ne_t102_o103 : t102 ≠ o103 := Nat.ne_of_lt (Nat.lt_of_lt_of_le Vt102.lt (Nat.le_of_eq g103.symm))
  have lt103 : o103 < h103.size := A103.lt
  have J103 := J102.add E103 g103 lt103
  have B103 := B102.mono E103.1
  have O103 := O102.ext E103
  have sz103 : h0.size ≤ o103 := Nat.le_trans K102.1 (Nat.le_of_eq g103.symm)
  have fr103 : h0.size ≤ o103 := sz103
  have K103 := K102.ext E103
  have F103_group : Fld Z h103 o103 "com/example/grid_job_scheduler/gridjobscheduler/TriggerKey" "group" "Ljava/lang/String;" .null := D103 (Or.inr (hw _ (List.mem_of_getElem? (i := 115) rfl))) (ty := (.object "java/lang/String")) (by decide)
  have F103_name : Fld Z h103 o103 "com/example/grid_job_scheduler/gridjobscheduler/TriggerKey" "name" "Ljava/lang/String;" .null := D103 (Or.inr (hw _ (List.mem_of_getElem? (i := 117) rfl))) (ty := (.object "java/lang/String")) (by decide)
  refine Go.of (fun _ hr => st103 _ hr) ?_
  show Go p e s below _ _ _ _ T103 (mkF m 13 #[.val (.int p1), .val (.int p2), .val (.ref r101), .val (.ref r102), .unset, .unset] [(.ref o103)])
  refine Go.of (fun _ hr => XS.dup X103.here hx rfl (hb hby at_13) rfl rfl hr) ?_
  show Go p e s below _ _ _ _ T103 (mkF m 14 #[.val (.int p1), .val (.int p2), .val (.ref r101), .val (.ref r102), .unset, .unset] [(.ref o103), (.ref o103)])
  refine Go.of (fun _ hr => XS.aloadN X103.here hx rfl (hb hby at_14) rfl rfl hr) ?_
  show Go p e s below _ _ _ _ T103 (mkF m 15 #[.val (.int p1), .val (.int p2), .val (.ref r101), .val (.ref r102), .unset, .unset] [(.ref r101), (.ref o103), (.ref o103)])
  refine Go.of (fun _ hr => XS.aloadN X103.here hx rfl (hb hby at_15) rfl rfl hr) ?_
  show Go p e s below _ _ _ _ T103 (mkF m 16 #[.val (.int p1), .val (.int p2), .val (.ref r101), .val (.ref r102), .unset, .unset] [(.ref r102), (.ref r101), (.ref o103), (.ref o103)])
  have f107 := (f104.ext E103)
  have f108 := ((Fv101.ext Eq102).ext E103)
  have f109 := ((Fc101.ext Eq102).ext E103)
  have f110 := (f105.ext E103)
  have f111 := (Er102.ext E103)
  have f112 := (Fv102.ext E103)
  have f113 := (Fc102.ext E103)
  have f114 := (Vt102.ext E103)
  obtain ⟨_, b106, T106, h106, L106, e106, Cc106, X106, B106, J106, g106, hQ106, st106⟩ := own_callI Cc102 B103 J103 X103 rfl (hw _ (List.mem_of_getElem? (i := 40) rfl)) (hw _ (List.mem_of_getElem? (i := 41) rfl)) (hw _ (List.mem_of_getElem? (i := 39) rfl)) (hw _ (List.mem_of_getElem? (i := 42) rfl)) (by decide) (rm9 l Z a0 hw [] o103 _ _ r101 t101 _ (cs101.map lo8) r102 t102 _ (cs102.map lo8) zc _ h103 n0 O103 h0.size (own_ole O0) K103.1 fr103 (List.mem_cons_self ..) wi wa ka S_I E_I S_A V_A A103 F103_group F103_name f107 f108 f109 f110 (Nat.le_trans (okL_le ok101) (by decide)) f111 f112 f113 f114 (Nat.le_trans (okL_le ok102) (by decide)) (okL_nb ok101) (okL_nb ok102) S_C hzc) e103 (g := (mkF m 16 #[.val (.int p1), .val (.int p2), .val (.ref r101), .val (.ref r102), .unset, .unset] [(.ref r102), (.ref r101), (.ref o103), (.ref o103)])) rfl (by rw [hml]; rfl) (argsL := [(.ref r101), (.ref r102)]) (rest := [(.ref o103)]) (lenOf pd33 rfl) rfl (W := 1) (by show 2 * 0 + _ ≤ _; exact Nat.le_of_eq rfl) (hb hby at_16) (by decide) (by decide) (by decide) (by decide)
  obtain ⟨rfl, Nq106, Kq106, Fg106, Fn106⟩ := hQ106
  have N106 := Fr.app N102 Nq106
  obtain ⟨hx, hZ, hown, hby, hml, hnm, hret, hlk⟩ := id Cc106
  have K106 := K103.trans Kq106 (allS (Or.inr sz103) all0)
  have O106 := O103.keep Kq106 (allS (Nat.le_trans (own_ole O0) fr103) all0)
  refine Go.of st106 ?_
  show Go p e s below _ _ _ _ T106 (mkF m 19 #[.val (.int p1), .val (.int p2), .val (.ref r101), .val (.ref r102), .unset, .unset] [(.ref o103)])
  refine Go.of (fun _ hr => XS.astore X106.here hx rfl (hb hby at_19) rfl rfl (l' := #[.val (.int p1), .val (.int p2), .val (.ref r101), .val (.ref r102), .val (.ref o103), .unset]) rfl hr) ?_
  show Go p e s below _ _ _ _ T106 (mkF m 21 #[.val (.int p1), .val (.int p2), .val (.ref r101), .val (.ref r102), .val (.ref o103), .unset] [])
  refine Go.of (fun _ hr => XS.aload X106.here hx rfl (hb hby at_21) rfl rfl hr) ?_
  show Go p e s below _ _ _ _ T106 (mkF m 23 #[.val (.int p1), .val (.int p2), .val (.ref r101), .val (.ref r102), .val (.ref o103), .unset] [(.ref o103)])
  have f116 := (f107.keep Kq106)
  have f117 := (f108.keep Kq106 (ninS ne_r101_o103 nin0))
  have f118 := (f109.keep Kq106 (ninS ne_r101_o103 nin0))
  have f119 := (f110.keep Kq106 (ninS ne_t101_o103 nin0))
  have f120 := (f111.keep Kq106)
  have f121 := (f112.keep Kq106 (ninS ne_r102_o103 nin0))
  have f122 := (f113.keep Kq106 (ninS ne_r102_o103 nin0))
  have f123 := (f114.keep Kq106 (ninS ne_t102_o103 nin0))
  have f124 := (A103.keep Kq106)
  obtain ⟨_, b115, T115, h115, L115, e115, Cc115, X115, B115, J115, g115, hQ115, st115⟩ := own_callV Cc106 B106 J106 X106 (hw _ (List.mem_of_getElem? (i := 118) rfl)) (hw _ (List.mem_of_getElem? (i := 119) rfl)) (notFace_of_selects (args := #[]) (mvT hZ (hw _ (List.mem_of_getElem? (i := 121) rfl)))) (hw _ (List.mem_of_getElem? (i := 121) rfl)) (hw _ (List.mem_of_getElem? (i := 120) rfl)) (hw _ (List.mem_of_getElem? (i := 39) rfl)) (hw _ (List.mem_of_getElem? (i := 122) rfl)) (by decide) f124 (rm23 l Z a0 hw [] o103 r101 t101 _ (cs101.map lo8) r102 t102 _ (cs102.map lo8) zc _ h106 n0 O106 h0.size (own_ole O0) K106.1 Fg106 Fn106 f116 f117 f118 f119 (Nat.le_trans (okL_le ok101) (by decide)) f120 f121 f122 f123 (Nat.le_trans (okL_le ok102) (by decide)) (Nat.le_trans (Nat.add_le_add (okL_le ok101) (okL_le ok102)) (by decide)) S_C hzc) e106 (g := (mkF m 23 #[.val (.int p1), .val (.int p2), .val (.ref r101), .val (.ref r102), .val (.ref o103), .unset] [(.ref o103)])) rfl (by rw [hml]; rfl) (argsL := []) (rest := []) (lenOf pd27 rfl) rfl (W := 0) (by show 2 * 0 + _ ≤ _; exact Nat.le_of_eq rfl) (hb hby at_23) (by decide) (by decide) (by decide) (by decide)
  obtain ⟨r115, t115, kt115, rfl, Nq115, Eq115, R_r115, R_t115, Er115, Fv115, Fc115, Vt115⟩ := hQ115
  have N115 := Fr.app N106 Nq115
  obtain ⟨hx, hZ, hown, hby, hml, hnm, hret, hlk⟩ := id Cc115
  have sz_r115 : h0.size ≤ r115 := Nat.le_trans K106.1 R_r115
  have fr_r115 : h0.size ≤ r115 := sz_r115
  have ne_r101_r115 : r101 ≠ r115 := Nat.ne_of_lt (Nat.lt_of_lt_of_le f116.lt R_r115)
  have ne_t101_r115 : t101 ≠ r115 := Nat.ne_of_lt (Nat.lt_of_lt_of_le f119.lt R_r115)
  have ne_r102_r115 : r102 ≠ r115 := Nat.ne_of_lt (Nat.lt_of_lt_of_le f120.lt R_r115)
  have ne_t102_r115 : t102 ≠ r115 := Nat.ne_of_lt (Nat.lt_of_lt_of_le f123.lt R_r115)
  have ne_o103_r115 : o103 ≠ r115 := Nat.ne_of_lt (Nat.lt_of_lt_of_le f124.lt R_r115)
  have sz_t115 : h0.size ≤ t115 := Nat.le_trans K106.1 R_t115
  have fr_t115 : h0.size ≤ t115 := sz_t115
  have ne_r101_t115 : r101 ≠ t115 := Nat.ne_of_lt (Nat.lt_of_lt_of_le f116.lt R_t115)
  have ne_t101_t115 : t101 ≠ t115 := Nat.ne_of_lt (Nat.lt_of_lt_of_le f119.lt R_t115)
  have ne_r102_t115 : r102 ≠ t115 := Nat.ne_of_lt (Nat.lt_of_lt_of_le f120.lt R_t115)
  have ne_t102_t115 : t102 ≠ t115 := Nat.ne_of_lt (Nat.lt_of_lt_of_le f123.lt R_t115)
  have ne_o103_t115 : o103 ≠ t115 := Nat.ne_of_lt (Nat.lt_of_lt_of_le f124.lt R_t115)
  have K115 := K106.ext Eq115
  have O115 := O106.ext Eq115
  refine Go.of st115 ?_
  show Go p e s below _ _ _ _ T115 (mkF m 26 #[.val (.int p1), .val (.int p2), .val (.ref r101), .val (.ref r102), .val (.ref o103), .unset] [(.ref r115)])
  have hB3 : ((cs101.map lo8) ++ litI "." ++ (cs102.map lo8)).length ≤ 1000 := by rw [List.length_append, List.length_append, litI_dot]; have := okL_le ok101; have := okL_le ok102; omega
  refine Go.of (fun _ hr => XS.astore X115.here hx rfl (hb hby at_26) rfl rfl (l' := #[.val (.int p1), .val (.int p2), .val (.ref r101), .val (.ref r102), .val (.ref o103), .val (.ref r115)]) rfl hr) ?_
  show Go p e s below _ _ _ _ T115 (mkF m 28 #[.val (.int p1), .val (.int p2), .val (.ref r101), .val (.ref r102), .val (.ref o103), .val (.ref r115)] [])
  refine Go.of (fun _ hr => XS.aload X115.here hx rfl (hb hby at_28) rfl rfl hr) ?_
  show Go p e s below _ _ _ _ T115 (mkF m 30 #[.val (.int p1), .val (.int p2), .val (.ref r101), .val (.ref r102), .val (.ref o103), .val (.ref r115)] [(.ref r115)])
  obtain ⟨_, b125, T125, h125, L125, e125, Cc125, X125, B125, J125, g125, hQ125, st125⟩ := own_callV Cc115 B115 J115 X115 (hw _ (List.mem_of_getElem? (i := 228) rfl)) (hw _ (List.mem_of_getElem? (i := 104) rfl)) (notFace_of_selects (args := #[]) (mvT hZ (hw _ (List.mem_of_getElem? (i := 106) rfl)))) (hw _ (List.mem_of_getElem? (i := 106) rfl)) (hw _ (List.mem_of_getElem? (i := 105) rfl)) (hw _ (List.mem_of_getElem? (i := 10) rfl)) (hw _ (List.mem_of_getElem? (i := 107) rfl)) (by decide) Er115 (rm21 l Z a0 hw [] r115 t115 _ ((cs101.map lo8) ++ litI "." ++ (cs102.map lo8)) zc _ h115 n0 O115 h0.size (own_ole O0) K115.1 Er115 Fv115 Fc115 Vt115 hB3 S_C hzc) e115 (g := (mkF m 30 #[.val (.int p1), .val (.int p2), .val (.ref r101), .val (.ref r102), .val (.ref o103), .val (.ref r115)] [(.ref r115)])) rfl (by rw [hml]; rfl) (argsL := []) (rest := []) (lenOf pd12 rfl) rfl (W := 0) (by show 2 * 0 + _ ≤ _; exact Nat.le_of_eq rfl) (hb hby at_30) (by decide) (by decide) (by decide) (by decide)
  obtain ⟨rfl, Nq125, hh125⟩ := hQ125
  have N125 := Fr.app N115 Nq125
  obtain ⟨hx, hZ, hown, hby, hml, hnm, hret, hlk⟩ := id Cc125
  rw [hh125] at e125 B125 J125
  refine Go.of st125 ?_
  show Go p e s below _ _ _ _ T125 (mkF m 33 #[.val (.int p1), .val (.int p2), .val (.ref r101), .val (.ref r102), .val (.ref o103), .val (.ref r115)] [(.int (Int32.ofNat ((cs101.map lo8) ++ litI "." ++ (cs102.map lo8)).length))])
  refine Go.of (fun _ hr => XS.aloadN X125.here hx rfl (hb hby at_33) rfl rfl hr) ?_
  show Go p e s below _ _ _ _ T125 (mkF m 34 #[.val (.int p1), .val (.int p2), .val (.ref r101), .val (.ref r102), .val (.ref o103), .val (.ref r115)] [(.ref r101), (.int (Int32.ofNat ((cs101.map lo8) ++ litI "." ++ (cs102.map lo8)).length))])
  have f127 := (f116.ext Eq115)
  have f128 := (f117.ext Eq115)
  have f129 := (f118.ext Eq115)
  have f130 := (f119.ext Eq115)
  obtain ⟨_, b126, T126, h126, L126, e126, Cc126, X126, B126, J126, g126, hQ126, st126⟩ := own_callV Cc125 B125 J125 X125 (hw _ (List.mem_of_getElem? (i := 228) rfl)) (hw _ (List.mem_of_getElem? (i := 104) rfl)) (notFace_of_selects (args := #[]) (mvT hZ (hw _ (List.mem_of_getElem? (i := 106) rfl)))) (hw _ (List.mem_of_getElem? (i := 106) rfl)) (hw _ (List.mem_of_getElem? (i := 105) rfl)) (hw _ (List.mem_of_getElem? (i := 10) rfl)) (hw _ (List.mem_of_getElem? (i := 107) rfl)) (by decide) f127 (rm21 l Z a0 hw [] r101 t101 _ (cs101.map lo8) zc _ h115 n0 O115 h0.size (own_ole O0) K115.1 f127 f128 f129 f130 (Nat.le_trans (okL_le ok101) (by decide)) S_C hzc) e125 (g := (mkF m 34 #[.val (.int p1), .val (.int p2), .val (.ref r101), .val (.ref r102), .val (.ref o103), .val (.ref r115)] [(.ref r101), (.int (Int32.ofNat ((cs101.map lo8) ++ litI "." ++ (cs102.map lo8)).length))])) rfl (by rw [hml]; rfl) (argsL := []) (rest := [(.int (Int32.ofNat ((cs101.map lo8) ++ litI "." ++ (cs102.map lo8)).length))]) (lenOf pd12 rfl) rfl (W := 1) (by show 2 * 0 + _ ≤ _; exact Nat.le_of_eq rfl) (hb hby at_34) (by decide) (by decide) (by decide) (by decide)
  obtain ⟨rfl, Nq126, hh126⟩ := hQ126
  have N126 := Fr.app N125 Nq126
  obtain ⟨hx, hZ, hown, hby, hml, hnm, hret, hlk⟩ := id Cc126
  rw [hh126] at e126 B126 J126
  refine Go.of st126 ?_
  show Go p e s below _ _ _ _ T126 (mkF m 37 #[.val (.int p1), .val (.int p2), .val (.ref r101), .val (.ref r102), .val (.ref o103), .val (.ref r115)] [(.int (Int32.ofNat (cs101.map lo8).length)), (.int (Int32.ofNat ((cs101.map lo8) ++ litI "." ++ (cs102.map lo8)).length))])
  refine Go.of (fun _ hr => XS.iconst X126.here hx rfl (hb hby at_37) hr) ?_
  show Go p e s below _ _ _ _ T126 (mkF m 38 #[.val (.int p1), .val (.int p2), .val (.ref r101), .val (.ref r102), .val (.ref o103), .val (.ref r115)] [(.int (1 : Int32)), (.int (Int32.ofNat (cs101.map lo8).length)), (.int (Int32.ofNat ((cs101.map lo8) ++ litI "." ++ (cs102.map lo8)).length))])
  refine Go.of (fun _ hr => XS.iadd X126.here hx rfl (hb hby at_38) rfl hr) ?_
  show Go p e s below _ _ _ _ T126 (mkF m 39 #[.val (.int p1), .val (.int p2), .val (.ref r101), .val (.ref r102), .val (.ref o103), .val (.ref r115)] [(.int ((Int32.ofNat (cs101.map lo8).length) + (1 : Int32))), (.int (Int32.ofNat ((cs101.map lo8) ++ litI "." ++ (cs102.map lo8)).length))])
  refine Go.of (fun _ hr => XS.aloadN X126.here hx rfl (hb hby at_39) rfl rfl hr) ?_
  show Go p e s below _ _ _ _ T126 (mkF m 40 #[.val (.int p1), .val (.int p2), .val (.ref r101), .val (.ref r102), .val (.ref o103), .val (.ref r115)] [(.ref r102), (.int ((Int32.ofNat (cs101.map lo8).length) + (1 : Int32))), (.int (Int32.ofNat ((cs101.map lo8) ++ litI "." ++ (cs102.map lo8)).length))])
  have f132 := (f120.ext Eq115)
  have f133 := (f121.ext Eq115)
  have f134 := (f122.ext Eq115)
  have f135 := (f123.ext Eq115)
  obtain ⟨_, b131, T131, h131, L131, e131, Cc131, X131, B131, J131, g131, hQ131, st131⟩ := own_callV Cc126 B126 J126 X126 (hw _ (List.mem_of_getElem? (i := 228) rfl)) (hw _ (List.mem_of_getElem? (i := 104) rfl)) (notFace_of_selects (args := #[]) (mvT hZ (hw _ (List.mem_of_getElem? (i := 106) rfl)))) (hw _ (List.mem_of_getElem? (i := 106) rfl)) (hw _ (List.mem_of_getElem? (i := 105) rfl)) (hw _ (List.mem_of_getElem? (i := 10) rfl)) (hw _ (List.mem_of_getElem? (i := 107) rfl)) (by decide) f132 (rm21 l Z a0 hw [] r102 t102 _ (cs102.map lo8) zc _ h115 n0 O115 h0.size (own_ole O0) K115.1 f132 f133 f134 f135 (Nat.le_trans (okL_le ok102) (by decide)) S_C hzc) e126 (g := (mkF m 40 #[.val (.int p1), .val (.int p2), .val (.ref r101), .val (.ref r102), .val (.ref o103), .val (.ref r115)] [(.ref r102), (.int ((Int32.ofNat (cs101.map lo8).length) + (1 : Int32))), (.int (Int32.ofNat ((cs101.map lo8) ++ litI "." ++ (cs102.map lo8)).length))])) rfl (by rw [hml]; rfl) (argsL := []) (rest := [(.int ((Int32.ofNat (cs101.map lo8).length) + (1 : Int32))), (.int (Int32.ofNat ((cs101.map lo8) ++ litI "." ++ (cs102.map lo8)).length))]) (lenOf pd12 rfl) rfl (W := 2) (by show 2 * 0 + _ ≤ _; exact Nat.le_of_eq rfl) (hb hby at_40) (by decide) (by decide) (by decide) (by decide)
  obtain ⟨rfl, Nq131, hh131⟩ := hQ131
  have N131 := Fr.app N126 Nq131
  obtain ⟨hx, hZ, hown, hby, hml, hnm, hret, hlk⟩ := id Cc131
  rw [hh131] at e131 B131 J131
  refine Go.of st131 ?_
  show Go p e s below _ _ _ _ T131 (mkF m 43 #[.val (.int p1), .val (.int p2), .val (.ref r101), .val (.ref r102), .val (.ref o103), .val (.ref r115)] [(.int (Int32.ofNat (cs102.map lo8).length)), (.int ((Int32.ofNat (cs101.map lo8).length) + (1 : Int32))), (.int (Int32.ofNat ((cs101.map lo8) ++ litI "." ++ (cs102.map lo8)).length))])
  refine Go.of (fun _ hr => XS.iadd X131.here hx rfl (hb hby at_43) rfl hr) ?_
  show Go p e s below _ _ _ _ T131 (mkF m 44 #[.val (.int p1), .val (.int p2), .val (.ref r101), .val (.ref r102), .val (.ref o103), .val (.ref r115)] [(.int (((Int32.ofNat (cs101.map lo8).length) + (1 : Int32)) + (Int32.ofNat (cs102.map lo8).length))), (.int (Int32.ofNat ((cs101.map lo8) ++ litI "." ++ (cs102.map lo8)).length))])
  refine Go.of (fun _ hr => XS.icmpYes X131.here hx rfl (pc0 := 44) (pc' := 49) rfl (hb hby at_44) rfl (teq (by rw [List.length_append, List.length_append, litI_dot]; have := okL_le ok101; have := okL_le ok102; rw [show (1 : Int32) = Int32.ofNat 1 from rfl, oi_add (by omega), oi_add (by omega)])).1 (by decide) (by decide) hr) ?_
  show Go p e s below _ _ _ _ T131 (mkF m 49 #[.val (.int p1), .val (.int p2), .val (.ref r101), .val (.ref r102), .val (.ref o103), .val (.ref r115)] [])
  refine Go.of (fun _ hr => XS.aload X131.here hx rfl (hb hby at_49) rfl rfl hr) ?_
  show Go p e s below _ _ _ _ T131 (mkF m 51 #[.val (.int p1), .val (.int p2), .val (.ref r101), .val (.ref r102), .val (.ref o103), .val (.ref r115)] [(.ref r115)])
  refine Go.of (fun _ hr => XS.iconst X131.here hx rfl (hb hby at_51) hr) ?_
  show Go p e s below _ _ _ _ T131 (mkF m 52 #[.val (.int p1), .val (.int p2), .val (.ref r101), .val (.ref r102), .val (.ref o103), .val (.ref r115)] [(.int (0 : Int32)), (.ref r115)])
  refine Go.of (fun _ hr => XS.aloadN X131.here hx rfl (hb hby at_52) rfl rfl hr) ?_
  show Go p e s below _ _ _ _ T131 (mkF m 53 #[.val (.int p1), .val (.int p2), .val (.ref r101), .val (.ref r102), .val (.ref o103), .val (.ref r115)] [(.ref r101), (.int (0 : Int32)), (.ref r115)])
  refine Go.of (fun _ hr => XS.aloadN X131.here hx rfl (hb hby at_53) rfl rfl hr) ?_
  show Go p e s below _ _ _ _ T131 (mkF m 54 #[.val (.int p1), .val (.int p2), .val (.ref r101), .val (.ref r102), .val (.ref o103), .val (.ref r115)] [(.ref r102), (.ref r101), (.int (0 : Int32)), (.ref r115)])
  obtain ⟨_, b136, T136, h136, L136, e136, Cc136, X136, B136, J136, g136, hQ136, st136⟩ := own_callS Cc131 B131 J131 X131 (hw _ (List.mem_of_getElem? (i := 229) rfl)) (hw _ (List.mem_of_getElem? (i := 230) rfl)) (hw _ (List.mem_of_getElem? (i := 2) rfl)) (hw _ (List.mem_of_getElem? (i := 231) rfl)) (by decide) (rm44 l Z a0 hw [] r115 t115 _ (0 : Int32) r101 t101 _ (cs101.map lo8) r102 t102 _ (cs102.map lo8) zc _ h115 n0 O115 h0.size (own_ole O0) K115.1 fs hfs S_F Er115 Fv115 Fc115 Vt115 hB3 f127 f128 f129 f130 (Nat.le_trans (okL_le ok101) (by decide)) f132 f133 f134 f135 (Nat.le_trans (okL_le ok102) (by decide)) (by decide) (by decide) S_C hzc) e131 (g := (mkF m 54 #[.val (.int p1), .val (.int p2), .val (.ref r101), .val (.ref r102), .val (.ref o103), .val (.ref r115)] [(.ref r102), (.ref r101), (.int (0 : Int32)), (.ref r115)])) rfl (by rw [hml]; rfl) (argsL := [(.ref r115), (.int (0 : Int32)), (.ref r101), (.ref r102)]) (rest := []) (lenOf pd34 rfl) rfl (W := 0) (by show 2 * 0 + _ ≤ _; exact Nat.le_of_eq rfl) (hb hby at_54) (by decide) (by decide) (by decide) (by decide)
  obtain ⟨rfl, Nq136, hh136⟩ := hQ136
  have N136 := Fr.app N131 Nq136
  obtain ⟨hx, hZ, hown, hby, hml, hnm, hret, hlk⟩ := id Cc136
  rw [hh136] at e136 B136 J136
  refine Go.of st136 ?_
  show Go p e s below _ _ _ _ T136 (mkF m 57 #[.val (.int p1), .val (.int p2), .val (.ref r101), .val (.ref r102), .val (.ref o103), .val (.ref r115)] [(.int (1 : Int32))])
  refine Go.of (fun _ hr => XS.ifNo X136.here hx rfl (hb hby at_57) rfl ((if0 _ _).trans (feq (by decide : ¬ ((1 : Int32) = (0 : Int32)))).1) hr) ?_
  show Go p e s below _ _ _ _ T136 (mkF m 60 #[.val (.int p1), .val (.int p2), .val (.ref r101), .val (.ref r102), .val (.ref o103), .val (.ref r115)] [])
  refine Go.of (fun _ hr => XS.aload X136.here hx rfl (hb hby at_60) rfl rfl hr) ?_
  show Go p e s below _ _ _ _ T136 (mkF m 62 #[.val (.int p1), .val (.int p2), .val (.ref r101), .val (.ref r102), .val (.ref o103), .val (.ref r115)] [(.ref r115)])
  refine Go.of (fun _ hr => XS.iconst X136.here hx rfl (hb hby at_62) hr) ?_
  show Go p e s below _ _ _ _ T136 (mkF m 63 #[.val (.int p1), .val (.int p2), .val (.ref r101), .val (.ref r102), .val (.ref o103), .val (.ref r115)] [(.int (1 : Int32)), (.ref r115)])
  refine Go.of (fun _ hr => XS.aloadN X136.here hx rfl (hb hby at_63) rfl rfl hr) ?_
  show Go p e s below _ _ _ _ T136 (mkF m 64 #[.val (.int p1), .val (.int p2), .val (.ref r101), .val (.ref r102), .val (.ref o103), .val (.ref r115)] [(.ref r101), (.int (1 : Int32)), (.ref r115)])
  refine Go.of (fun _ hr => XS.aloadN X136.here hx rfl (hb hby at_64) rfl rfl hr) ?_
  show Go p e s below _ _ _ _ T136 (mkF m 65 #[.val (.int p1), .val (.int p2), .val (.ref r101), .val (.ref r102), .val (.ref o103), .val (.ref r115)] [(.ref r102), (.ref r101), (.int (1 : Int32)), (.ref r115)])
  obtain ⟨_, b137, T137, h137, L137, e137, Cc137, X137, B137, J137, g137, hQ137, st137⟩ := own_callS Cc136 B136 J136 X136 (hw _ (List.mem_of_getElem? (i := 229) rfl)) (hw _ (List.mem_of_getElem? (i := 230) rfl)) (hw _ (List.mem_of_getElem? (i := 2) rfl)) (hw _ (List.mem_of_getElem? (i := 231) rfl)) (by decide) (rm44 l Z a0 hw [] r115 t115 _ (1 : Int32) r101 t101 _ (cs101.map lo8) r102 t102 _ (cs102.map lo8) zc _ h115 n0 O115 h0.size (own_ole O0) K115.1 fs hfs S_F Er115 Fv115 Fc115 Vt115 hB3 f127 f128 f129 f130 (Nat.le_trans (okL_le ok101) (by decide)) f132 f133 f134 f135 (Nat.le_trans (okL_le ok102) (by decide)) (by decide) (by decide) S_C hzc) e136 (g := (mkF m 65 #[.val (.int p1), .val (.int p2), .val (.ref r101), .val (.ref r102), .val (.ref o103), .val (.ref r115)] [(.ref r102), (.ref r101), (.int (1 : Int32)), (.ref r115)])) rfl (by rw [hml]; rfl) (argsL := [(.ref r115), (.int (1 : Int32)), (.ref r101), (.ref r102)]) (rest := []) (lenOf pd34 rfl) rfl (W := 0) (by show 2 * 0 + _ ≤ _; exact Nat.le_of_eq rfl) (hb hby at_65) (by decide) (by decide) (by decide) (by decide)
  obtain ⟨rfl, Nq137, hh137⟩ := hQ137
  have N137 := Fr.app N136 Nq137
  obtain ⟨hx, hZ, hown, hby, hml, hnm, hret, hlk⟩ := id Cc137
  rw [hh137] at e137 B137 J137
  refine Go.of st137 ?_
  show Go p e s below _ _ _ _ T137 (mkF m 68 #[.val (.int p1), .val (.int p2), .val (.ref r101), .val (.ref r102), .val (.ref o103), .val (.ref r115)] [(.int (1 : Int32))])
  refine Go.of (fun _ hr => XS.ifNo X137.here hx rfl (hb hby at_68) rfl ((if0 _ _).trans (feq (by decide : ¬ ((1 : Int32) = (0 : Int32)))).1) hr) ?_
  show Go p e s below _ _ _ _ T137 (mkF m 71 #[.val (.int p1), .val (.int p2), .val (.ref r101), .val (.ref r102), .val (.ref o103), .val (.ref r115)] [])
  refine Go.of (fun _ hr => XS.aload X137.here hx rfl (hb hby at_71) rfl rfl hr) ?_
  show Go p e s below _ _ _ _ T137 (mkF m 73 #[.val (.int p1), .val (.int p2), .val (.ref r101), .val (.ref r102), .val (.ref o103), .val (.ref r115)] [(.ref r115)])
  refine Go.of (fun _ hr => XS.iconst X137.here hx rfl (hb hby at_73) hr) ?_
  show Go p e s below _ _ _ _ T137 (mkF m 74 #[.val (.int p1), .val (.int p2), .val (.ref r101), .val (.ref r102), .val (.ref o103), .val (.ref r115)] [(.int (2 : Int32)), (.ref r115)])
  refine Go.of (fun _ hr => XS.aloadN X137.here hx rfl (hb hby at_74) rfl rfl hr) ?_
  show Go p e s below _ _ _ _ T137 (mkF m 75 #[.val (.int p1), .val (.int p2), .val (.ref r101), .val (.ref r102), .val (.ref o103), .val (.ref r115)] [(.ref r101), (.int (2 : Int32)), (.ref r115)])
  refine Go.of (fun _ hr => XS.aloadN X137.here hx rfl (hb hby at_75) rfl rfl hr) ?_
  show Go p e s below _ _ _ _ T137 (mkF m 76 #[.val (.int p1), .val (.int p2), .val (.ref r101), .val (.ref r102), .val (.ref o103), .val (.ref r115)] [(.ref r102), (.ref r101), (.int (2 : Int32)), (.ref r115)])
  obtain ⟨_, b138, T138, h138, L138, e138, Cc138, X138, B138, J138, g138, hQ138, st138⟩ := own_callS Cc137 B137 J137 X137 (hw _ (List.mem_of_getElem? (i := 229) rfl)) (hw _ (List.mem_of_getElem? (i := 230) rfl)) (hw _ (List.mem_of_getElem? (i := 2) rfl)) (hw _ (List.mem_of_getElem? (i := 231) rfl)) (by decide) (rm44 l Z a0 hw [] r115 t115 _ (2 : Int32) r101 t101 _ (cs101.map lo8) r102 t102 _ (cs102.map lo8) zc _ h115 n0 O115 h0.size (own_ole O0) K115.1 fs hfs S_F Er115 Fv115 Fc115 Vt115 hB3 f127 f128 f129 f130 (Nat.le_trans (okL_le ok101) (by decide)) f132 f133 f134 f135 (Nat.le_trans (okL_le ok102) (by decide)) (by decide) (by decide) S_C hzc) e137 (g := (mkF m 76 #[.val (.int p1), .val (.int p2), .val (.ref r101), .val (.ref r102), .val (.ref o103), .val (.ref r115)] [(.ref r102), (.ref r101), (.int (2 : Int32)), (.ref r115)])) rfl (by rw [hml]; rfl) (argsL := [(.ref r115), (.int (2 : Int32)), (.ref r101), (.ref r102)]) (rest := []) (lenOf pd34 rfl) rfl (W := 0) (by show 2 * 0 + _ ≤ _; exact Nat.le_of_eq rfl) (hb hby at_76) (by decide) (by decide) (by decide) (by decide)
  obtain ⟨rfl, Nq138, hh138⟩ := hQ138
  have N138 := Fr.app N137 Nq138
  obtain ⟨hx, hZ, hown, hby, hml, hnm, hret, hlk⟩ := id Cc138
  rw [hh138] at e138 B138 J138
  refine Go.of st138 ?_
  show Go p e s below _ _ _ _ T138 (mkF m 79 #[.val (.int p1), .val (.int p2), .val (.ref r101), .val (.ref r102), .val (.ref o103), .val (.ref r115)] [(.int (1 : Int32))])
  refine Go.of (fun _ hr => XS.ifNo X138.here hx rfl (hb hby at_79) rfl ((if0 _ _).trans (feq (by decide : ¬ ((1 : Int32) = (0 : Int32)))).1) hr) ?_
  show Go p e s below _ _ _ _ T138 (mkF m 82 #[.val (.int p1), .val (.int p2), .val (.ref r101), .val (.ref r102), .val (.ref o103), .val (.ref r115)] [])
  refine Go.of (fun _ hr => XS.aload X138.here hx rfl (hb hby at_82) rfl rfl hr) ?_
  show Go p e s below _ _ _ _ T138 (mkF m 84 #[.val (.int p1), .val (.int p2), .val (.ref r101), .val (.ref r102), .val (.ref o103), .val (.ref r115)] [(.ref r115)])
  refine Go.of (fun _ hr => XS.iconst X138.here hx rfl (hb hby at_84) hr) ?_
  show Go p e s below _ _ _ _ T138 (mkF m 85 #[.val (.int p1), .val (.int p2), .val (.ref r101), .val (.ref r102), .val (.ref o103), .val (.ref r115)] [(.int (3 : Int32)), (.ref r115)])
  refine Go.of (fun _ hr => XS.aloadN X138.here hx rfl (hb hby at_85) rfl rfl hr) ?_
  show Go p e s below _ _ _ _ T138 (mkF m 86 #[.val (.int p1), .val (.int p2), .val (.ref r101), .val (.ref r102), .val (.ref o103), .val (.ref r115)] [(.ref r101), (.int (3 : Int32)), (.ref r115)])
  refine Go.of (fun _ hr => XS.aloadN X138.here hx rfl (hb hby at_86) rfl rfl hr) ?_
  show Go p e s below _ _ _ _ T138 (mkF m 87 #[.val (.int p1), .val (.int p2), .val (.ref r101), .val (.ref r102), .val (.ref o103), .val (.ref r115)] [(.ref r102), (.ref r101), (.int (3 : Int32)), (.ref r115)])
  obtain ⟨_, b139, T139, h139, L139, e139, Cc139, X139, B139, J139, g139, hQ139, st139⟩ := own_callS Cc138 B138 J138 X138 (hw _ (List.mem_of_getElem? (i := 229) rfl)) (hw _ (List.mem_of_getElem? (i := 230) rfl)) (hw _ (List.mem_of_getElem? (i := 2) rfl)) (hw _ (List.mem_of_getElem? (i := 231) rfl)) (by decide) (rm44 l Z a0 hw [] r115 t115 _ (3 : Int32) r101 t101 _ (cs101.map lo8) r102 t102 _ (cs102.map lo8) zc _ h115 n0 O115 h0.size (own_ole O0) K115.1 fs hfs S_F Er115 Fv115 Fc115 Vt115 hB3 f127 f128 f129 f130 (Nat.le_trans (okL_le ok101) (by decide)) f132 f133 f134 f135 (Nat.le_trans (okL_le ok102) (by decide)) (by decide) (by decide) S_C hzc) e138 (g := (mkF m 87 #[.val (.int p1), .val (.int p2), .val (.ref r101), .val (.ref r102), .val (.ref o103), .val (.ref r115)] [(.ref r102), (.ref r101), (.int (3 : Int32)), (.ref r115)])) rfl (by rw [hml]; rfl) (argsL := [(.ref r115), (.int (3 : Int32)), (.ref r101), (.ref r102)]) (rest := []) (lenOf pd34 rfl) rfl (W := 0) (by show 2 * 0 + _ ≤ _; exact Nat.le_of_eq rfl) (hb hby at_87) (by decide) (by decide) (by decide) (by decide)
  obtain ⟨rfl, Nq139, hh139⟩ := hQ139
  have N139 := Fr.app N138 Nq139
  obtain ⟨hx, hZ, hown, hby, hml, hnm, hret, hlk⟩ := id Cc139
  rw [hh139] at e139 B139 J139
  refine Go.of st139 ?_
  show Go p e s below _ _ _ _ T139 (mkF m 90 #[.val (.int p1), .val (.int p2), .val (.ref r101), .val (.ref r102), .val (.ref o103), .val (.ref r115)] [(.int (1 : Int32))])
  refine Go.of (fun _ hr => XS.ifNo X139.here hx rfl (hb hby at_90) rfl ((if0 _ _).trans (feq (by decide : ¬ ((1 : Int32) = (0 : Int32)))).1) hr) ?_
  show Go p e s below _ _ _ _ T139 (mkF m 93 #[.val (.int p1), .val (.int p2), .val (.ref r101), .val (.ref r102), .val (.ref o103), .val (.ref r115)] [])
  refine Go.of (fun _ hr => XS.aload X139.here hx rfl (hb hby at_93) rfl rfl hr) ?_
  show Go p e s below _ _ _ _ T139 (mkF m 95 #[.val (.int p1), .val (.int p2), .val (.ref r101), .val (.ref r102), .val (.ref o103), .val (.ref r115)] [(.ref r115)])
  refine Go.of (fun _ hr => XS.iconst X139.here hx rfl (hb hby at_95) hr) ?_
  show Go p e s below _ _ _ _ T139 (mkF m 96 #[.val (.int p1), .val (.int p2), .val (.ref r101), .val (.ref r102), .val (.ref o103), .val (.ref r115)] [(.int (4 : Int32)), (.ref r115)])
  refine Go.of (fun _ hr => XS.aloadN X139.here hx rfl (hb hby at_96) rfl rfl hr) ?_
  show Go p e s below _ _ _ _ T139 (mkF m 97 #[.val (.int p1), .val (.int p2), .val (.ref r101), .val (.ref r102), .val (.ref o103), .val (.ref r115)] [(.ref r101), (.int (4 : Int32)), (.ref r115)])
  refine Go.of (fun _ hr => XS.aloadN X139.here hx rfl (hb hby at_97) rfl rfl hr) ?_
  show Go p e s below _ _ _ _ T139 (mkF m 98 #[.val (.int p1), .val (.int p2), .val (.ref r101), .val (.ref r102), .val (.ref o103), .val (.ref r115)] [(.ref r102), (.ref r101), (.int (4 : Int32)), (.ref r115)])
  obtain ⟨_, b140, T140, h140, L140, e140, Cc140, X140, B140, J140, g140, hQ140, st140⟩ := own_callS Cc139 B139 J139 X139 (hw _ (List.mem_of_getElem? (i := 229) rfl)) (hw _ (List.mem_of_getElem? (i := 230) rfl)) (hw _ (List.mem_of_getElem? (i := 2) rfl)) (hw _ (List.mem_of_getElem? (i := 231) rfl)) (by decide) (rm44 l Z a0 hw [] r115 t115 _ (4 : Int32) r101 t101 _ (cs101.map lo8) r102 t102 _ (cs102.map lo8) zc _ h115 n0 O115 h0.size (own_ole O0) K115.1 fs hfs S_F Er115 Fv115 Fc115 Vt115 hB3 f127 f128 f129 f130 (Nat.le_trans (okL_le ok101) (by decide)) f132 f133 f134 f135 (Nat.le_trans (okL_le ok102) (by decide)) (by decide) (by decide) S_C hzc) e139 (g := (mkF m 98 #[.val (.int p1), .val (.int p2), .val (.ref r101), .val (.ref r102), .val (.ref o103), .val (.ref r115)] [(.ref r102), (.ref r101), (.int (4 : Int32)), (.ref r115)])) rfl (by rw [hml]; rfl) (argsL := [(.ref r115), (.int (4 : Int32)), (.ref r101), (.ref r102)]) (rest := []) (lenOf pd34 rfl) rfl (W := 0) (by show 2 * 0 + _ ≤ _; exact Nat.le_of_eq rfl) (hb hby at_98) (by decide) (by decide) (by decide) (by decide)
  obtain ⟨rfl, Nq140, hh140⟩ := hQ140
  have N140 := Fr.app N139 Nq140
  obtain ⟨hx, hZ, hown, hby, hml, hnm, hret, hlk⟩ := id Cc140
  rw [hh140] at e140 B140 J140
  refine Go.of st140 ?_
  show Go p e s below _ _ _ _ T140 (mkF m 101 #[.val (.int p1), .val (.int p2), .val (.ref r101), .val (.ref r102), .val (.ref o103), .val (.ref r115)] [(.int (1 : Int32))])
  refine Go.of (fun _ hr => XS.ifNo X140.here hx rfl (hb hby at_101) rfl ((if0 _ _).trans (feq (by decide : ¬ ((1 : Int32) = (0 : Int32)))).1) hr) ?_
  show Go p e s below _ _ _ _ T140 (mkF m 104 #[.val (.int p1), .val (.int p2), .val (.ref r101), .val (.ref r102), .val (.ref o103), .val (.ref r115)] [])
  refine Go.of (fun _ hr => XS.aload X140.here hx rfl (hb hby at_104) rfl rfl hr) ?_
  show Go p e s below _ _ _ _ T140 (mkF m 106 #[.val (.int p1), .val (.int p2), .val (.ref r101), .val (.ref r102), .val (.ref o103), .val (.ref r115)] [(.ref r115)])
  refine Go.of (fun _ hr => XS.iconst X140.here hx rfl (hb hby at_106) hr) ?_
  show Go p e s below _ _ _ _ T140 (mkF m 107 #[.val (.int p1), .val (.int p2), .val (.ref r101), .val (.ref r102), .val (.ref o103), .val (.ref r115)] [(.int (5 : Int32)), (.ref r115)])
  refine Go.of (fun _ hr => XS.aloadN X140.here hx rfl (hb hby at_107) rfl rfl hr) ?_
  show Go p e s below _ _ _ _ T140 (mkF m 108 #[.val (.int p1), .val (.int p2), .val (.ref r101), .val (.ref r102), .val (.ref o103), .val (.ref r115)] [(.ref r101), (.int (5 : Int32)), (.ref r115)])
  refine Go.of (fun _ hr => XS.aloadN X140.here hx rfl (hb hby at_108) rfl rfl hr) ?_
  show Go p e s below _ _ _ _ T140 (mkF m 109 #[.val (.int p1), .val (.int p2), .val (.ref r101), .val (.ref r102), .val (.ref o103), .val (.ref r115)] [(.ref r102), (.ref r101), (.int (5 : Int32)), (.ref r115)])
  obtain ⟨_, b141, T141, h141, L141, e141, Cc141, X141, B141, J141, g141, hQ141, st141⟩ := own_callS Cc140 B140 J140 X140 (hw _ (List.mem_of_getElem? (i := 229) rfl)) (hw _ (List.mem_of_getElem? (i := 230) rfl)) (hw _ (List.mem_of_getElem? (i := 2) rfl)) (hw _ (List.mem_of_getElem? (i := 231) rfl)) (by decide) (rm44 l Z a0 hw [] r115 t115 _ (5 : Int32) r101 t101 _ (cs101.map lo8) r102 t102 _ (cs102.map lo8) zc _ h115 n0 O115 h0.size (own_ole O0) K115.1 fs hfs S_F Er115 Fv115 Fc115 Vt115 hB3 f127 f128 f129 f130 (Nat.le_trans (okL_le ok101) (by decide)) f132 f133 f134 f135 (Nat.le_trans (okL_le ok102) (by decide)) (by decide) (by decide) S_C hzc) e140 (g := (mkF m 109 #[.val (.int p1), .val (.int p2), .val (.ref r101), .val (.ref r102), .val (.ref o103), .val (.ref r115)] [(.ref r102), (.ref r101), (.int (5 : Int32)), (.ref r115)])) rfl (by rw [hml]; rfl) (argsL := [(.ref r115), (.int (5 : Int32)), (.ref r101), (.ref r102)]) (rest := []) (lenOf pd34 rfl) rfl (W := 0) (by show 2 * 0 + _ ≤ _; exact Nat.le_of_eq rfl) (hb hby at_109) (by decide) (by decide) (by decide) (by decide)
  obtain ⟨rfl, Nq141, hh141⟩ := hQ141
  have N141 := Fr.app N140 Nq141
  obtain ⟨hx, hZ, hown, hby, hml, hnm, hret, hlk⟩ := id Cc141
  rw [hh141] at e141 B141 J141
  refine Go.of st141 ?_
  show Go p e s below _ _ _ _ T141 (mkF m 112 #[.val (.int p1), .val (.int p2), .val (.ref r101), .val (.ref r102), .val (.ref o103), .val (.ref r115)] [(.int (1 : Int32))])
  refine Go.of (fun _ hr => XS.ifNo X141.here hx rfl (hb hby at_112) rfl ((if0 _ _).trans (feq (by decide : ¬ ((1 : Int32) = (0 : Int32)))).1) hr) ?_
  show Go p e s below _ _ _ _ T141 (mkF m 115 #[.val (.int p1), .val (.int p2), .val (.ref r101), .val (.ref r102), .val (.ref o103), .val (.ref r115)] [])
  refine Go.of (fun _ hr => XS.aload X141.here hx rfl (hb hby at_115) rfl rfl hr) ?_
  show Go p e s below _ _ _ _ T141 (mkF m 117 #[.val (.int p1), .val (.int p2), .val (.ref r101), .val (.ref r102), .val (.ref o103), .val (.ref r115)] [(.ref r115)])
  refine Go.of (fun _ hr => XS.bipush X141.here hx rfl (hb hby at_117) hr) ?_
  show Go p e s below _ _ _ _ T141 (mkF m 119 #[.val (.int p1), .val (.int p2), .val (.ref r101), .val (.ref r102), .val (.ref o103), .val (.ref r115)] [(.int (6 : Int32)), (.ref r115)])
  refine Go.of (fun _ hr => XS.aloadN X141.here hx rfl (hb hby at_119) rfl rfl hr) ?_
  show Go p e s below _ _ _ _ T141 (mkF m 120 #[.val (.int p1), .val (.int p2), .val (.ref r101), .val (.ref r102), .val (.ref o103), .val (.ref r115)] [(.ref r101), (.int (6 : Int32)), (.ref r115)])
  refine Go.of (fun _ hr => XS.aloadN X141.here hx rfl (hb hby at_120) rfl rfl hr) ?_
  show Go p e s below _ _ _ _ T141 (mkF m 121 #[.val (.int p1), .val (.int p2), .val (.ref r101), .val (.ref r102), .val (.ref o103), .val (.ref r115)] [(.ref r102), (.ref r101), (.int (6 : Int32)), (.ref r115)])
  obtain ⟨_, b142, T142, h142, L142, e142, Cc142, X142, B142, J142, g142, hQ142, st142⟩ := own_callS Cc141 B141 J141 X141 (hw _ (List.mem_of_getElem? (i := 229) rfl)) (hw _ (List.mem_of_getElem? (i := 230) rfl)) (hw _ (List.mem_of_getElem? (i := 2) rfl)) (hw _ (List.mem_of_getElem? (i := 231) rfl)) (by decide) (rm44 l Z a0 hw [] r115 t115 _ (6 : Int32) r101 t101 _ (cs101.map lo8) r102 t102 _ (cs102.map lo8) zc _ h115 n0 O115 h0.size (own_ole O0) K115.1 fs hfs S_F Er115 Fv115 Fc115 Vt115 hB3 f127 f128 f129 f130 (Nat.le_trans (okL_le ok101) (by decide)) f132 f133 f134 f135 (Nat.le_trans (okL_le ok102) (by decide)) (by decide) (by decide) S_C hzc) e141 (g := (mkF m 121 #[.val (.int p1), .val (.int p2), .val (.ref r101), .val (.ref r102), .val (.ref o103), .val (.ref r115)] [(.ref r102), (.ref r101), (.int (6 : Int32)), (.ref r115)])) rfl (by rw [hml]; rfl) (argsL := [(.ref r115), (.int (6 : Int32)), (.ref r101), (.ref r102)]) (rest := []) (lenOf pd34 rfl) rfl (W := 0) (by show 2 * 0 + _ ≤ _; exact Nat.le_of_eq rfl) (hb hby at_121) (by decide) (by decide) (by decide) (by decide)
  obtain ⟨rfl, Nq142, hh142⟩ := hQ142
  have N142 := Fr.app N141 Nq142
  obtain ⟨hx, hZ, hown, hby, hml, hnm, hret, hlk⟩ := id Cc142
  rw [hh142] at e142 B142 J142
  refine Go.of st142 ?_
  show Go p e s below _ _ _ _ T142 (mkF m 124 #[.val (.int p1), .val (.int p2), .val (.ref r101), .val (.ref r102), .val (.ref o103), .val (.ref r115)] [(.int (1 : Int32))])
  refine Go.of (fun _ hr => XS.ifNo X142.here hx rfl (hb hby at_124) rfl ((if0 _ _).trans (feq (by decide : ¬ ((1 : Int32) = (0 : Int32)))).1) hr) ?_
  show Go p e s below _ _ _ _ T142 (mkF m 127 #[.val (.int p1), .val (.int p2), .val (.ref r101), .val (.ref r102), .val (.ref o103), .val (.ref r115)] [])
  refine Go.of (fun _ hr => XS.iconst X142.here hx rfl (hb hby at_127) hr) ?_
  show Go p e s below _ _ _ _ T142 (mkF m 128 #[.val (.int p1), .val (.int p2), .val (.ref r101), .val (.ref r102), .val (.ref o103), .val (.ref r115)] [(.int (1 : Int32))])
  refine Go.of (fun _ hr => XS.goto X142.here hx rfl (pc0 := 128) (pc' := 132) rfl (hb hby at_128) (by decide) (by decide) hr) ?_
  show Go p e s below _ _ _ _ T142 (mkF m 132 #[.val (.int p1), .val (.int p2), .val (.ref r101), .val (.ref r102), .val (.ref o103), .val (.ref r115)] [(.int (1 : Int32))])
  exact Go.retN X142 hx hlk B142 (J142.sub fun x hx => (List.mem_cons_of_mem _ hx)) e142 (t := .boolean) (z' := (1 : Int32)) hret (by simp) (hb hby at_132) rfl (by decide) (by decide) (fun vm_ hw_ => ⟨rfl, (fun y hy => Nat.le_trans hnb (N142 y hy))⟩)

set_option maxRecDepth 65536 in
set_option maxHeartbeats 40000000 in
theorem comes_1 {Post : Tables → Env → Array Value → State → Outcome → State → Prop} (hpost : ∀ tb e args s v u, (limb_1_1.after args s (.returned v) u = true ∧ limb_1_2.after args s (.returned v) u = true ∧ True) → ReturnedEndW s (.returned v) u (Jvm.fieldLocs frame_1_writes args s ++ Jvm.arrayLocs frame_1_arrays args s ++ Jvm.staticLocs frame_1_statics s) 48 4352 → Post tb e args s (.returned v) u) :
    ArmFor flags0 classFile x code maxLocals ret World_1 tables_1 room_1 Calls_1 rest_1 Pre_1 Post := by
  intro l hfl _ _ p e ha hc hk s m args below hf hA hF happ hP
  obtain ⟨hcalls, hrest, hpre⟩ := hP
  obtain ⟨-, -, -, hnamed, -, -, -, hat⟩ := (Spec.applies_iff hf).mp happ
  obtain ⟨hg, hn⟩ := and_e (Cond.before_iff.mp (show (Jvm.Cond.and given_1 narrow_1).before args s = true from hpre))
  have hw := fun d (hd : d ∈ tables_1) => atoms_spec (ws := Jvm.Cond.code x code maxLocals ret :: tables_1) hat d (List.mem_cons_of_mem _ hd)
  obtain ⟨hsets, hown0⟩ := atoms_of _ (rest_1_c_eq ▸ (show rest_1_c.before _ s = true from hrest))
  have hfit : Fit s := fun {y c} hc i hi => by
    obtain ⟨ha, rfl⟩ := Array.getElem?_eq_some_iff.mp hc
    have q := List.all_eq_true.mp ((Array.all_eq_true_iff_forall_mem.mp hF) _ (Array.getElem_mem ha)) i (List.mem_range.mpr hi)
    simpa [Array.getElem?_eq_getElem hi] using q
  obtain ⟨hg0, hg⟩ := and_e hg
  obtain ⟨hg1, hg⟩ := and_e hg
  obtain ⟨w0, w1, rfl⟩ : ∃ w0 w1 : Value, args = #[w0, w1] := by
    have hs : args.size = 2 := by simpa [Cond.value] using hg0
    obtain ⟨L⟩ := args
    match L, hs with
    | [w0, w1], _ => exact ⟨w0, w1, rfl⟩
  obtain ⟨i0, ev0⟩ := is_v hg1
  obtain rfl : w0 = (.int i0) := Option.some.inj ev0
  obtain ⟨i1, ev1⟩ := is_v hg
  obtain rfl : w1 = (.int i1) := Option.some.inj ev1
  obtain ⟨zc, evC⟩ := is_v (Cond.before_iff.mp (hsets _ (List.mem_of_getElem? (i := 1) rfl)))
  have S_C : Sta s s.heap "java/lang/String" "COMPACT_STRINGS" "Z" (.int zc) := Sta.start evC (Or.inl (hsets _ (List.mem_of_getElem? (i := 0) rfl)))
  have hzc : ¬ (zc = (0 : Int32)) := gotF (Cond.eq_ints evC (Term.int_eval (0))) (not_v (Cond.before_iff.mp (hsets _ (List.mem_of_getElem? (i := 2) rfl))))
  have hcm : ∀ q ∈ litCs, (q.1, q.2.1) ∈ consts_1 := by decide +kernel
  have hJ : Hd s [] s.vm s.heap := Hd.start ⟨fun q hq => hcalls.1 _ (hcm q hq), fun a0 => own_compact (hsets _ (List.mem_of_getElem? (i := 2) rfl))⟩
  obtain ⟨fs, hfs, evF⟩ := own_isr (Cond.before_iff.mp (hsets _ (List.mem_of_getElem? (i := 8) rfl)))
  have S_F : Sta s s.heap "jdk/internal/util/Preconditions" "SIOOBE_FORMATTER" "Ljava/util/function/BiFunction;" fs := Sta.start evF (Or.inl (hsets _ (List.mem_of_getElem? (i := 7) rfl)))
  obtain ⟨wi, evI⟩ := exa_v (Cond.before_iff.mp (hsets _ (List.mem_of_getElem? (i := 11) rfl)))
  have S_I : Sta s s.heap "java/lang/CharacterDataLatin1" "instance" "Ljava/lang/CharacterDataLatin1;" (.ref wi) := Sta.start evI (Or.inl (hsets _ (List.mem_of_getElem? (i := 10) rfl)))
  have E_I := Exa.start evI (Cond.before_iff.mp (hsets _ (List.mem_of_getElem? (i := 11) rfl)))
  obtain ⟨wa, evA⟩ := exa_v (Cond.before_iff.mp (hsets _ (List.mem_of_getElem? (i := 15) rfl)))
  have S_A : Sta s s.heap "java/lang/CharacterDataLatin1" "A" "[I" (.ref wa) := Sta.start evA (Or.inl (hsets _ (List.mem_of_getElem? (i := 13) rfl)))
  obtain ⟨cc, Acc⟩ := Arr.start evA (Cond.before_iff.mp (hsets _ (List.mem_of_getElem? (i := 14) rfl)))
  have hlen := own_eqI (Cond.before_iff.mp (hsets _ (List.mem_of_getElem? (i := 16) rfl)))
  have haA : s.arrayAt? wa = some cc := Acc.fin (Vm.Alike.refl _)
  have q31 : cc.slots.size < 2 ^ 31 := Jvm.Free.SBG.length_lt evA haA hlen
  have e256 := Value.int.inj (Option.some.inj ((len_f evA haA q31).symm.trans hlen))
  have hsz : cc.slots.size = 256 := own_sz256 q31 e256
  have hTab : ∀ j, j < 256 → cc.slots[j]? = some (.int (tabA.getD j 0)) := fun j hj => own_el evA haA hsz hj (Cond.before_iff.mp (hsets _ (List.mem_of_mem_drop (i := 17) (by rw [own_tabL]; exact List.mem_map.mpr ⟨j, List.mem_range.mpr hj, rfl⟩))))
  have V_A : Arv s s.heap wa cc.cls .int 256 (tabA.map Value.int) (.int 0) := own_tabV Acc hsz hTab
  obtain ⟨n, o, h1, h2, h3, _, L, rfl, ⟨rfl, N⟩, -, hq⟩ := rm0 l s _ hw tables_1 i0 i1 zc [] s.heap s.heap.size (Old.start s) s.heap.size (Nat.le_refl _) (Nat.le_refl _) fs hfs S_F wi wa cc.cls S_I E_I S_A V_A S_C hzc p e ha hc hk s m _ below hf ((Spec.applies_iff_loose hf).mp happ).1 ⟨rfl, State.Warmed39.refl s, rfl, hJ⟩ trivial
  refine ⟨n, _, h1, h2, h3, hpost _ _ _ _ _ _ ⟨Cond.after_iff.mpr rfl, Cond.after_iff.mpr (eq_i res_at (Term.int_eval (1)) rfl), trivial⟩ ⟨hq.1, hq.2.1, hq.2.2.1, (hq.2.2.2.sift fun y hy => Or.inr (N y hy)).mono (by decide) (by decide)⟩⟩
theorem main_1_1 : Claimed_1_1 := comes_1 fun _ _ _ _ _ _ h hF => ⟨h.1, hF⟩
theorem main_1_2 : Claimed_1_2 := comes_1 fun _ _ _ _ _ _ h hF => ⟨h.2.1, hF⟩

end Jvm.Pilot.@@N@@
namespace Jvm.Pilot.@@N@@
open Jvm Jvm.ClassFile Sem Op Lib Jvm.Free Jvm.Stand Jvm.Pilot.@@N@@.Jvm.D
/-! MADE BY PROGRAM (witnessworld.py) out of the Statement's table words and the real class files: 33 classes; the members and pool entries that the words name. The judged class is class 1, her method 4. -/
namespace start1
open Jvm.ClassFile
def u (s : String) : CpInfo := .utf8 (stringToUtf16 s)
/-- a pool by its gaps: so many unusable entries, then the entry; so many at the end -/
def gap : Nat → List CpInfo → List CpInfo
  | 0, r => r
  | n + 1, r => .unusable :: gap n r
def poolList (es : List (Nat × CpInfo)) (last : Nat) : List CpInfo := es.foldr (fun e r => gap e.1 (e.2 :: r)) (gap last [])
def pool (es : List (Nat × CpInfo)) (last : Nat) : Array CpInfo := ⟨poolList es last⟩
def fileOf (pool : Array CpInfo) (this : Nat) (attrs : Array Attribute := #[]) (ms : Array MethodInfo := #[]) (fl : Nat := 33) (sup : Nat := 0) (ifs : Array Nat := #[]) (fds : Array FieldInfo := #[]) : ClassFile where
  minorVersion := 0
  majorVersion := 65
  constantPool := pool
  accessFlags := fl
  thisClass := this
  superClass := sup
  interfaces := ifs
  fields := fds
  methods := ms
  attributes := attrs
def plain (name : String) (sup : Option ClassId) : Class where
  name := name
  kind := .ordinary
  loader := none
  accessFlags := 33
  super := sup
  interfaces := #[]
  cf := none
  fields := #[]
  methods := #[]
  instanceTypes := #[]
  staticTypes := #[]
  resolved := #[]
  callSites := []
  init := .initialized
  statics := none
  mirror := none

def pool0 : Array CpInfo := pool [(5, u "<init>"), (0, u "()V"), (1, .class_ 10), (1, u "java/lang/Object")] 113

def k0c0 : Code := { maxStack := 0, maxLocals := 1, code := object_method_1_code, exceptionTable := #[], attributes := #[] }
def k0m0 : Method := { name := "<init>", desc := "()V", sig := { parameters := [], returnType := none }, accessFlags := 1, code := some k0c0 }
/-- java/lang/Object -/
def k0 : Class := { plain "java/lang/Object" none with
  accessFlags := 33
  interfaces := #[]
  cf := some (fileOf pool0 8 #[] #[{ accessFlags := 1, nameIndex := 5, descriptorIndex := 6, attributes := #[] }] 33 0 #[] #[])
  fields := #[]
  methods := #[k0m0]
  instanceTypes := #[]
  staticTypes := #[]
  resolved := Array.replicate 124 none
  statics := none }

def pool1 : Array CpInfo := pool [(2, .class_ 4), (1, u "java/lang/Object"), (0, u "<init>"), (0, u "()V"), (0, .methodref 8 9), (0, .class_ 10), (0, .nameAndType 11 12), (0, u "com/example/grid_job_scheduler/gridjobscheduler/TriggerKeyToStringPinLaw"), (0, u "ws"), (0, u "(C)Z"), (0, .class_ 14), (0, u "java/lang/String"), (0, .methodref 13 16), (0, .nameAndType 5 17), (0, u "([C)V"), (0, .methodref 13 19), (0, .nameAndType 20 21), (0, u "length"), (0, u "()I"), (0, .methodref 13 23), (0, .nameAndType 24 25), (0, u "charAt"), (0, u "(I)C"), (0, .methodref 8 27), (0, .nameAndType 28 29), (0, u "draw"), (0, u "(I)Ljava/lang/String;"), (0, .class_ 31), (0, u "com/example/grid_job_scheduler/gridjobscheduler/TriggerKey"), (0, .methodref 30 33), (0, .nameAndType 5 34), (0, u "(Ljava/lang/String;Ljava/lang/String;)V"), (0, .methodref 30 36), (0, .nameAndType 37 38), (0, u "toString"), (0, u "()Ljava/lang/String;"), (0, .methodref 8 40), (0, .nameAndType 41 42), (0, u "posOk"), (0, u "(Ljava/lang/String;ILjava/lang/String;Ljava/lang/String;)Z"), (3, u "law"), (0, u "(II)Z")] 2

def k1m0 : Method := { name := "<init>", desc := "()V", sig := { parameters := [], returnType := none }, accessFlags := 1, code := none }
def k1c1 : Code := { maxStack := 2, maxLocals := 1, code := method_2_code, exceptionTable := #[], attributes := #[] }
def k1m1 : Method := { name := "ws", desc := "(C)Z", sig := { parameters := [.char], returnType := some .boolean }, accessFlags := 10, code := some k1c1 }
def k1c2 : Code := { maxStack := 3, maxLocals := 7, code := method_3_code, exceptionTable := #[], attributes := #[] }
def k1m2 : Method := { name := "draw", desc := "(I)Ljava/lang/String;", sig := { parameters := [.int], returnType := some (.object "java/lang/String") }, accessFlags := 10, code := some k1c2 }
def k1c3 : Code := { maxStack := 3, maxLocals := 6, code := method_4_code, exceptionTable := #[], attributes := #[] }
def k1m3 : Method := { name := "posOk", desc := "(Ljava/lang/String;ILjava/lang/String;Ljava/lang/String;)Z", sig := { parameters := [(.object "java/lang/String"), .int, (.object "java/lang/String"), (.object "java/lang/String")], returnType := some .boolean }, accessFlags := 10, code := some k1c3 }
def k1c4 : Code := { maxStack := 4, maxLocals := 6, code := code, exceptionTable := #[], attributes := #[] }
def k1m4 : Method := { name := "law", desc := "(II)Z", sig := { parameters := [.int, .int], returnType := some .boolean }, accessFlags := 9, code := some k1c4 }
/-- com/example/grid_job_scheduler/gridjobscheduler/TriggerKeyToStringPinLaw -/
def k1 : Class := { plain "com/example/grid_job_scheduler/gridjobscheduler/TriggerKeyToStringPinLaw" (some 0) with
  accessFlags := 49
  interfaces := #[]
  cf := some (fileOf pool1 8 #[] #[{ accessFlags := 1, nameIndex := 5, descriptorIndex := 6, attributes := #[] }, { accessFlags := 10, nameIndex := 11, descriptorIndex := 12, attributes := #[] }, { accessFlags := 10, nameIndex := 28, descriptorIndex := 29, attributes := #[] }, { accessFlags := 10, nameIndex := 41, descriptorIndex := 42, attributes := #[] }, { accessFlags := 9, nameIndex := 46, descriptorIndex := 47, attributes := #[] }] 49 2 #[] #[])
  fields := #[]
  methods := #[k1m0, k1m1, k1m2, k1m3, k1m4]
  instanceTypes := #[]
  staticTypes := #[]
  resolved := Array.replicate 50 none
  statics := none }

def pool2 : Array CpInfo := pool [(1, .class_ 2), (0, u "java/io/Serializable"), (0, .class_ 4), (0, u "java/lang/Object")] 2

/-- java/io/Serializable -/
def k2 : Class := { plain "java/io/Serializable" (some 0) with
  accessFlags := 1537
  interfaces := #[]
  cf := some (fileOf pool2 1 #[] #[] 1537 3 #[] #[])
  fields := #[]
  methods := #[]
  instanceTypes := #[]
  staticTypes := #[]
  resolved := Array.replicate 7 none
  statics := none }

def pool3 : Array CpInfo := pool [(1, .class_ 2), (0, u "java/lang/Comparable"), (0, .class_ 4), (0, u "java/lang/Object")] 7

/-- java/lang/Comparable -/
def k3 : Class := { plain "java/lang/Comparable" (some 0) with
  accessFlags := 1537
  interfaces := #[]
  cf := some (fileOf pool3 1 #[] #[] 1537 3 #[] #[])
  fields := #[]
  methods := #[]
  instanceTypes := #[]
  staticTypes := #[]
  resolved := Array.replicate 12 none
  statics := none }

def pool4 : Array CpInfo := pool [(2, .class_ 4), (1, u "java/lang/CharSequence"), (42, .class_ 48), (0, u "java/lang/CharSequence$1CodePointIterator"), (10, .class_ 60), (0, u "java/lang/CharSequence$1CharIterator"), (5, .class_ 67), (0, u "java/lang/Object")] 63

/-- java/lang/CharSequence -/
def k4 : Class := { plain "java/lang/CharSequence" (some 0) with
  accessFlags := 1537
  interfaces := #[]
  cf := some (fileOf pool4 2 #[.nestMembers #[47, 59]] #[] 1537 66 #[] #[])
  fields := #[]
  methods := #[]
  instanceTypes := #[]
  staticTypes := #[]
  resolved := Array.replicate 131 none
  statics := none }

def pool5 : Array CpInfo := pool [(1, .class_ 2), (0, u "java/lang/constant/Constable"), (0, .class_ 4), (0, u "java/lang/Object")] 6

/-- java/lang/constant/Constable -/
def k5 : Class := { plain "java/lang/constant/Constable" (some 0) with
  accessFlags := 1537
  interfaces := #[]
  cf := some (fileOf pool5 1 #[] #[] 1537 3 #[] #[])
  fields := #[]
  methods := #[]
  instanceTypes := #[]
  staticTypes := #[]
  resolved := Array.replicate 11 none
  statics := none }

def pool6 : Array CpInfo := pool [(1, .class_ 2), (0, u "java/lang/constant/ConstantDesc"), (0, .class_ 4), (0, u "java/lang/Object")] 32

/-- java/lang/constant/ConstantDesc -/
def k6 : Class := { plain "java/lang/constant/ConstantDesc" (some 0) with
  accessFlags := 1537
  interfaces := #[]
  cf := some (fileOf pool6 1 #[] #[] 1537 3 #[] #[])
  fields := #[]
  methods := #[]
  instanceTypes := #[]
  staticTypes := #[]
  resolved := Array.replicate 37 none
  statics := none }

def pool7 : Array CpInfo := pool [(1, .methodref 2 3), (0, .class_ 4), (0, .nameAndType 5 6), (0, u "java/lang/Object"), (0, u "<init>"), (0, u "()V"), (2, .fieldref 10 11), (0, .class_ 12), (0, .nameAndType 13 14), (0, u "java/lang/String"), (0, u "value"), (0, u "[B"), (0, .fieldref 10 16), (0, .nameAndType 17 18), (0, u "coder"), (0, u "B"), (2, u "hash"), (0, u "I"), (2, u "hashIsZero"), (0, u "Z"), (0, .methodref 10 28), (0, .nameAndType 5 29), (0, u "([CIILjava/lang/Void;)V"), (8, .fieldref 10 39), (0, .nameAndType 40 26), (0, u "COMPACT_STRINGS"), (1, .class_ 44), (1, u "java/lang/StringUTF16"), (0, u "compress"), (1, .methodref 42 48), (0, .nameAndType 49 50), (0, u "coderFromArrayLen"), (0, u "([BI)B"), (3, .methodref 55 56), (0, .class_ 57), (0, .nameAndType 58 59), (0, u "java/util/Arrays"), (0, u "copyOfRange"), (0, u "([BII)[B"), (47, .class_ 109), (1, u "java/lang/StringLatin1"), (32, u "()Z"), (34, .methodref 42 178), (0, .nameAndType 45 179), (0, u "([CII)[B"), (13, .class_ 195), (1, u "java/lang/System"), (16, .methodref 193 213), (0, .nameAndType 214 215), (0, u "arraycopy"), (0, u "(Ljava/lang/Object;ILjava/lang/Object;II)V"), (118, u "()I"), (0, .methodref 10 336), (0, .nameAndType 17 337), (0, u "()B"), (2, u "()[B"), (22, u "([BI)C"), (27, u "(II)V"), (35, u "(I)C"), (61, .methodref 10 490), (0, .nameAndType 5 491), (0, u "(Ljava/lang/AbstractStringBuilder;Ljava/lang/Void;)V"), (0, .methodref 10 493), (0, .nameAndType 494 142), (0, u "isLatin1"), (0, .methodref 107 496), (0, .nameAndType 497 363), (0, u "charAt"), (3, u "checkIndex"), (3, .methodref 10 506), (0, .nameAndType 507 334), (0, u "length"), (24, u "getBytes"), (16, .methodref 550 506), (0, .class_ 551), (0, u "java/lang/AbstractStringBuilder"), (0, .methodref 550 553), (0, .nameAndType 554 340), (0, u "getValue"), (20, .class_ 576), (0, u "java/lang/CharSequence"), (22, u "CASE_INSENSITIVE_ORDER"), (0, u "Ljava/util/Comparator;"), (30, u "([B)I"), (189, u "([BIB)V"), (54, .methodref 10 877), (0, .nameAndType 878 334), (0, u "indexOfNonWhitespace"), (45, .methodref 107 925), (0, .nameAndType 878 631), (26, u "isBlank"), (57, u "([C)V"), (36, .methodref 550 493), (5, .fieldref 1054 1055), (0, .class_ 1056), (0, .nameAndType 1057 1058), (0, u "jdk/internal/util/Preconditions"), (0, u "SIOOBE_FORMATTER"), (0, u "Ljava/util/function/BiFunction;"), (0, .methodref 1054 1060), (0, .nameAndType 501 1061), (0, u "(IILjava/util/function/BiFunction;)I"), (39, u "serialPersistentFields"), (0, u "[Ljava/io/ObjectStreamField;"), (0, .class_ 1104), (0, u "java/lang/String$CaseInsensitiveComparator"), (1, .class_ 1107), (0, u "java/io/Serializable"), (0, .class_ 1109), (0, u "java/lang/Comparable"), (0, .class_ 1111), (0, u "java/lang/constant/Constable"), (0, .class_ 1113), (0, u "java/lang/constant/ConstantDesc"), (2, u "serialVersionUID"), (0, u "J"), (3, u "REPL"), (0, u "C"), (2, u "LATIN1"), (1, u "UTF16"), (105, u "(Ljava/lang/StringBuilder;)V")] 217

def k7m0 : Method := { name := "<init>", desc := "()V", sig := { parameters := [], returnType := none }, accessFlags := 1, code := none }
def k7c1 : Code := { maxStack := 5, maxLocals := 2, code := jdk_42_method_3_code, exceptionTable := #[], attributes := #[] }
def k7m1 : Method := { name := "<init>", desc := "([C)V", sig := { parameters := [(.array .char)], returnType := none }, accessFlags := 1, code := some k7c1 }
def k7c2 : Code := { maxStack := 3, maxLocals := 2, code := jdk_42_method_53_code, exceptionTable := #[], attributes := #[] }
def k7m2 : Method := { name := "<init>", desc := "(Ljava/lang/StringBuilder;)V", sig := { parameters := [(.object "java/lang/StringBuilder")], returnType := none }, accessFlags := 1, code := some k7c2 }
def k7c3 : Code := { maxStack := 2, maxLocals := 1, code := jdk_42_method_54_code, exceptionTable := #[], attributes := #[] }
def k7m3 : Method := { name := "length", desc := "()I", sig := { parameters := [], returnType := some .int }, accessFlags := 1, code := some k7c3 }
def k7c4 : Code := { maxStack := 2, maxLocals := 2, code := jdk_42_method_56_code, exceptionTable := #[], attributes := #[] }
def k7m4 : Method := { name := "charAt", desc := "(I)C", sig := { parameters := [.int], returnType := some .char }, accessFlags := 1, code := some k7c4 }
def k7c5 : Code := { maxStack := 2, maxLocals := 1, code := jdk_42_method_117_code, exceptionTable := #[], attributes := #[] }
def k7m5 : Method := { name := "isBlank", desc := "()Z", sig := { parameters := [], returnType := some .boolean }, accessFlags := 1, code := some k7c5 }
def k7c6 : Code := { maxStack := 1, maxLocals := 1, code := jdk_42_method_120_code, exceptionTable := #[], attributes := #[] }
def k7m6 : Method := { name := "indexOfNonWhitespace", desc := "()I", sig := { parameters := [], returnType := some .int }, accessFlags := 2, code := some k7c6 }
def k7c7 : Code := { maxStack := 5, maxLocals := 4, code := jdk_42_method_147_code, exceptionTable := #[], attributes := #[] }
def k7m7 : Method := { name := "getBytes", desc := "([BIB)V", sig := { parameters := [(.array .byte), .int, .byte], returnType := none }, accessFlags := 0, code := some k7c7 }
def k7c8 : Code := { maxStack := 4, maxLocals := 6, code := jdk_42_method_149_code, exceptionTable := #[], attributes := #[] }
def k7m8 : Method := { name := "<init>", desc := "([CIILjava/lang/Void;)V", sig := { parameters := [(.array .char), .int, .int, (.object "java/lang/Void")], returnType := none }, accessFlags := 2, code := some k7c8 }
def k7c9 : Code := { maxStack := 5, maxLocals := 5, code := jdk_42_method_150_code, exceptionTable := #[], attributes := #[] }
def k7m9 : Method := { name := "<init>", desc := "(Ljava/lang/AbstractStringBuilder;Ljava/lang/Void;)V", sig := { parameters := [(.object "java/lang/AbstractStringBuilder"), (.object "java/lang/Void")], returnType := none }, accessFlags := 0, code := some k7c9 }
def k7c10 : Code := { maxStack := 1, maxLocals := 1, code := jdk_42_method_152_code, exceptionTable := #[], attributes := #[] }
def k7m10 : Method := { name := "coder", desc := "()B", sig := { parameters := [], returnType := some .byte }, accessFlags := 0, code := some k7c10 }
def k7c11 : Code := { maxStack := 1, maxLocals := 1, code := jdk_42_method_154_code, exceptionTable := #[], attributes := #[] }
def k7m11 : Method := { name := "isLatin1", desc := "()Z", sig := { parameters := [], returnType := some .boolean }, accessFlags := 0, code := some k7c11 }
def k7c12 : Code := { maxStack := 3, maxLocals := 2, code := jdk_42_method_155_code, exceptionTable := #[], attributes := #[] }
def k7m12 : Method := { name := "checkIndex", desc := "(II)V", sig := { parameters := [.int, .int], returnType := none }, accessFlags := 8, code := some k7c12 }
/-- java/lang/String -/
def k7 : Class := { plain "java/lang/String" (some 0) with
  accessFlags := 49
  interfaces := #[2, 3, 4, 5, 6]
  cf := some (fileOf pool7 10 #[.nestMembers #[1103]] #[{ accessFlags := 1, nameIndex := 5, descriptorIndex := 6, attributes := #[] }, { accessFlags := 1, nameIndex := 5, descriptorIndex := 1010, attributes := #[] }, { accessFlags := 1, nameIndex := 5, descriptorIndex := 1233, attributes := #[] }, { accessFlags := 1, nameIndex := 507, descriptorIndex := 334, attributes := #[] }, { accessFlags := 1, nameIndex := 497, descriptorIndex := 427, attributes := #[] }, { accessFlags := 1, nameIndex := 952, descriptorIndex := 142, attributes := #[] }, { accessFlags := 2, nameIndex := 878, descriptorIndex := 334, attributes := #[] }, { accessFlags := 0, nameIndex := 532, descriptorIndex := 821, attributes := #[] }, { accessFlags := 2, nameIndex := 5, descriptorIndex := 29, attributes := #[] }, { accessFlags := 0, nameIndex := 5, descriptorIndex := 491, attributes := #[] }, { accessFlags := 0, nameIndex := 17, descriptorIndex := 337, attributes := #[] }, { accessFlags := 0, nameIndex := 494, descriptorIndex := 142, attributes := #[] }, { accessFlags := 8, nameIndex := 501, descriptorIndex := 391, attributes := #[] }] 49 2 #[1106, 1108, 575, 1110, 1112] #[{ accessFlags := 18, nameIndex := 13, descriptorIndex := 14, attributes := #[] }, { accessFlags := 18, nameIndex := 17, descriptorIndex := 18, attributes := #[] }, { accessFlags := 2, nameIndex := 21, descriptorIndex := 22, attributes := #[] }, { accessFlags := 2, nameIndex := 25, descriptorIndex := 26, attributes := #[] }, { accessFlags := 26, nameIndex := 1116, descriptorIndex := 1117, attributes := #[] }, { accessFlags := 24, nameIndex := 40, descriptorIndex := 26, attributes := #[] }, { accessFlags := 26, nameIndex := 1101, descriptorIndex := 1102, attributes := #[] }, { accessFlags := 26, nameIndex := 1121, descriptorIndex := 1122, attributes := #[] }, { accessFlags := 25, nameIndex := 599, descriptorIndex := 600, attributes := #[] }, { accessFlags := 24, nameIndex := 1125, descriptorIndex := 18, attributes := #[] }, { accessFlags := 24, nameIndex := 1127, descriptorIndex := 18, attributes := #[] }])
  fields := #[{ name := "value", type := (.array .byte), accessFlags := 18, slot := 0, constantValue := 0 }, { name := "coder", type := .byte, accessFlags := 18, slot := 1, constantValue := 0 }, { name := "hash", type := .int, accessFlags := 2, slot := 2, constantValue := 0 }, { name := "hashIsZero", type := .boolean, accessFlags := 2, slot := 3, constantValue := 0 }, { name := "serialVersionUID", type := .long, accessFlags := 26, slot := 0, constantValue := 0 }, { name := "COMPACT_STRINGS", type := .boolean, accessFlags := 24, slot := 1, constantValue := 0 }, { name := "serialPersistentFields", type := (.array (.object "java/io/ObjectStreamField")), accessFlags := 26, slot := 2, constantValue := 0 }, { name := "REPL", type := .char, accessFlags := 26, slot := 3, constantValue := 0 }, { name := "CASE_INSENSITIVE_ORDER", type := (.object "java/util/Comparator"), accessFlags := 25, slot := 4, constantValue := 0 }, { name := "LATIN1", type := .byte, accessFlags := 24, slot := 5, constantValue := 0 }, { name := "UTF16", type := .byte, accessFlags := 24, slot := 6, constantValue := 0 }]
  methods := #[k7m0, k7m1, k7m2, k7m3, k7m4, k7m5, k7m6, k7m7, k7m8, k7m9, k7m10, k7m11, k7m12]
  instanceTypes := #[(.array .byte), .byte, .int, .boolean]
  staticTypes := #[.long, .boolean, (.array (.object "java/io/ObjectStreamField")), .char, (.object "java/util/Comparator"), .byte, .byte]
  resolved := Array.replicate 1451 none
  statics := some 0 }

def pool8 : Array CpInfo := pool [(6, .class_ 8), (1, u "java/lang/Object"), (0, u "<init>"), (0, u "()V"), (1, .class_ 14), (1, u "java/lang/StringUTF16"), (31, u "$assertionsDisabled"), (0, u "Z"), (13, u "HI_BYTE_SHIFT"), (0, u "I"), (2, u "LO_BYTE_SHIFT"), (49, .methodref 12 116), (0, .nameAndType 117 118), (0, u "compress"), (0, u "([CI[BII)I"), (3, u "([CII)[B"), (138, u "coderFromArrayLen"), (0, u "([BI)B"), (106, .class_ 371), (1, u "java/lang/StringUTF16$LinesSpliterator"), (58, u "MAX_LENGTH"), (196, .class_ 628), (0, u "java/lang/StringUTF16$CodePointsSpliterator"), (0, .class_ 630), (0, u "java/lang/StringUTF16$CharsSpliterator")] 4

def k8m0 : Method := { name := "<init>", desc := "()V", sig := { parameters := [], returnType := none }, accessFlags := 0, code := none }
def k8c1 : Code := { maxStack := 2, maxLocals := 2, code := jdk_52_method_15_code, exceptionTable := #[], attributes := #[] }
def k8m1 : Method := { name := "coderFromArrayLen", desc := "([BI)B", sig := { parameters := [(.array .byte), .int], returnType := some .byte }, accessFlags := 8, code := some k8c1 }
def k8c2 : Code := { maxStack := 5, maxLocals := 6, code := jdk_52_method_16_code, exceptionTable := #[], attributes := #[] }
def k8m2 : Method := { name := "compress", desc := "([CII)[B", sig := { parameters := [(.array .char), .int, .int], returnType := some (.array .byte) }, accessFlags := 9, code := some k8c2 }
def k8c3 : Code := { maxStack := 3, maxLocals := 7, code := jdk_52_method_21_code, exceptionTable := #[], attributes := #[] }
def k8m3 : Method := { name := "compress", desc := "([CI[BII)I", sig := { parameters := [(.array .char), .int, (.array .byte), .int, .int], returnType := some .int }, accessFlags := 9, code := some k8c3 }
/-- java/lang/StringUTF16 -/
def k8 : Class := { plain "java/lang/StringUTF16" (some 0) with
  accessFlags := 48
  interfaces := #[]
  cf := some (fileOf pool8 12 #[.nestMembers #[627, 629, 369]] #[{ accessFlags := 0, nameIndex := 9, descriptorIndex := 10, attributes := #[] }, { accessFlags := 8, nameIndex := 261, descriptorIndex := 262, attributes := #[] }, { accessFlags := 9, nameIndex := 117, descriptorIndex := 122, attributes := #[] }, { accessFlags := 9, nameIndex := 117, descriptorIndex := 118, attributes := #[] }] 48 6 #[] #[{ accessFlags := 26, nameIndex := 61, descriptorIndex := 62, attributes := #[] }, { accessFlags := 26, nameIndex := 65, descriptorIndex := 62, attributes := #[] }, { accessFlags := 24, nameIndex := 430, descriptorIndex := 62, attributes := #[] }, { accessFlags := 4120, nameIndex := 46, descriptorIndex := 47, attributes := #[] }])
  fields := #[{ name := "HI_BYTE_SHIFT", type := .int, accessFlags := 26, slot := 0, constantValue := 0 }, { name := "LO_BYTE_SHIFT", type := .int, accessFlags := 26, slot := 1, constantValue := 0 }, { name := "MAX_LENGTH", type := .int, accessFlags := 24, slot := 2, constantValue := 0 }, { name := "$assertionsDisabled", type := .boolean, accessFlags := 4120, slot := 3, constantValue := 0 }]
  methods := #[k8m0, k8m1, k8m2, k8m3]
  instanceTypes := #[]
  staticTypes := #[.int, .int, .int, .boolean]
  resolved := Array.replicate 635 none
  statics := none }

def pool9 : Array CpInfo := pool [(1, .methodref 2 3), (0, .class_ 4), (0, .nameAndType 5 6), (0, u "java/lang/Object"), (0, u "<init>"), (0, u "()V"), (0, .class_ 8), (0, u "java/lang/Record")] 13

def k9c0 : Code := { maxStack := 1, maxLocals := 1, code := jdk_30_method_1_code, exceptionTable := #[], attributes := #[] }
def k9m0 : Method := { name := "<init>", desc := "()V", sig := { parameters := [], returnType := none }, accessFlags := 4, code := some k9c0 }
/-- java/lang/Record -/
def k9 : Class := { plain "java/lang/Record" (some 0) with
  accessFlags := 1057
  interfaces := #[]
  cf := some (fileOf pool9 7 #[] #[{ accessFlags := 4, nameIndex := 5, descriptorIndex := 6, attributes := #[] }] 1057 2 #[] #[])
  fields := #[]
  methods := #[k9m0]
  instanceTypes := #[]
  staticTypes := #[]
  resolved := Array.replicate 22 none
  statics := none }

def pool10 : Array CpInfo := pool [(1, .class_ 2), (0, u "com/example/grid_job_scheduler/gridjobscheduler/Keys"), (0, .methodref 4 5), (0, .class_ 6), (0, .nameAndType 7 8), (0, u "java/lang/Record"), (0, u "<init>"), (0, u "()V"), (0, .string 10), (0, u "trigger key"), (0, .methodref 1 12), (0, .nameAndType 13 14), (0, u "requireGroupAndName"), (0, u "(Ljava/lang/String;Ljava/lang/String;Ljava/lang/String;)V"), (0, .fieldref 16 17), (0, .class_ 18), (0, .nameAndType 19 20), (0, u "com/example/grid_job_scheduler/gridjobscheduler/TriggerKey"), (0, u "group"), (0, u "Ljava/lang/String;"), (0, .fieldref 16 22), (0, .nameAndType 23 20), (0, u "name"), (4, u "(Ljava/lang/String;Ljava/lang/String;)V"), (0, .methodref 1 30), (0, .nameAndType 31 32), (0, u "toString"), (0, u "(Ljava/lang/String;Ljava/lang/String;)Ljava/lang/String;"), (8, u "DEFAULT_GROUP"), (6, u "()Ljava/lang/String;")] 23

def k10c0 : Code := { maxStack := 3, maxLocals := 3, code := prog_39_method_1_code, exceptionTable := #[], attributes := #[] }
def k10m0 : Method := { name := "<init>", desc := "(Ljava/lang/String;Ljava/lang/String;)V", sig := { parameters := [(.object "java/lang/String"), (.object "java/lang/String")], returnType := none }, accessFlags := 1, code := some k10c0 }
def k10c1 : Code := { maxStack := 2, maxLocals := 1, code := prog_39_method_3_code, exceptionTable := #[], attributes := #[] }
def k10m1 : Method := { name := "toString", desc := "()Ljava/lang/String;", sig := { parameters := [], returnType := some (.object "java/lang/String") }, accessFlags := 1, code := some k10c1 }
/-- com/example/grid_job_scheduler/gridjobscheduler/TriggerKey -/
def k10 : Class := { plain "com/example/grid_job_scheduler/gridjobscheduler/TriggerKey" (some 9) with
  accessFlags := 49
  interfaces := #[]
  cf := some (fileOf pool10 16 #[] #[{ accessFlags := 1, nameIndex := 7, descriptorIndex := 28, attributes := #[] }, { accessFlags := 1, nameIndex := 31, descriptorIndex := 48, attributes := #[] }] 49 4 #[] #[{ accessFlags := 18, nameIndex := 19, descriptorIndex := 20, attributes := #[] }, { accessFlags := 18, nameIndex := 23, descriptorIndex := 20, attributes := #[] }, { accessFlags := 25, nameIndex := 41, descriptorIndex := 20, attributes := #[] }])
  fields := #[{ name := "group", type := (.object "java/lang/String"), accessFlags := 18, slot := 0, constantValue := 0 }, { name := "name", type := (.object "java/lang/String"), accessFlags := 18, slot := 1, constantValue := 0 }, { name := "DEFAULT_GROUP", type := (.object "java/lang/String"), accessFlags := 25, slot := 0, constantValue := 0 }]
  methods := #[k10m0, k10m1]
  instanceTypes := #[(.object "java/lang/String"), (.object "java/lang/String")]
  staticTypes := #[(.object "java/lang/String")]
  resolved := Array.replicate 72 none
  statics := none }

def pool11 : Array CpInfo := pool [(2, .class_ 4), (0, .nameAndType 5 6), (0, u "java/lang/Object"), (0, u "<init>"), (0, u "()V"), (0, .string 8), (0, u "group"), (0, .methodref 10 11), (0, .class_ 12), (0, .nameAndType 13 14), (0, u "com/example/grid_job_scheduler/gridjobscheduler/Keys"), (0, u "requireNotBlank"), (0, u "(Ljava/lang/String;Ljava/lang/String;Ljava/lang/String;)V"), (0, .string 16), (0, u "name"), (0, .invokeDynamic 0 18), (0, .nameAndType 19 20), (0, u "get"), (0, u "(Ljava/lang/String;Ljava/lang/String;)Ljava/util/function/Supplier;"), (0, .methodref 22 23), (0, .class_ 24), (0, .nameAndType 25 26), (0, u "java/util/Objects"), (0, u "requireNonNull"), (0, u "(Ljava/lang/Object;Ljava/util/function/Supplier;)Ljava/lang/Object;"), (0, .methodref 28 29), (0, .class_ 30), (0, .nameAndType 31 32), (0, u "java/lang/String"), (0, u "isBlank"), (0, u "()Z"), (2, .class_ 36), (0, u "java/lang/StringBuilder"), (0, .methodref 35 3), (0, .methodref 35 39), (0, .nameAndType 40 41), (0, u "append"), (0, u "(Ljava/lang/String;)Ljava/lang/StringBuilder;"), (4, .methodref 35 47), (0, .nameAndType 48 49), (0, u "toString"), (0, u "()Ljava/lang/String;"), (3, .string 54), (0, u "."), (2, u "DEFAULT_GROUP"), (0, u "Ljava/lang/String;"), (5, u "requireGroupAndName"), (1, u "(Ljava/lang/String;Ljava/lang/String;)Ljava/lang/String;"), (0, u "lambda$requireNotBlank$0"), (3, .methodType 72), (0, u "()Ljava/lang/Object;"), (0, .methodHandle 6 74), (0, .methodref 10 75), (0, .nameAndType 67 66), (0, .methodType 49), (0, .methodHandle 6 78), (0, .methodref 79 80), (0, .class_ 81), (0, .nameAndType 82 83), (0, u "java/lang/invoke/LambdaMetafactory"), (0, u "metafactory"), (0, u "(Ljava/lang/invoke/MethodHandles$Lookup;Ljava/lang/String;Ljava/lang/invoke/MethodType;Ljava/lang/invoke/MethodType;Ljava/lang/invoke/MethodHandle;Ljava/lang/invoke/MethodType;)Ljava/lang/invoke/CallSite;")] 6

def k11m0 : Method := { name := "<init>", desc := "()V", sig := { parameters := [], returnType := none }, accessFlags := 2, code := none }
def k11c1 : Code := { maxStack := 3, maxLocals := 3, code := prog_20_method_2_code, exceptionTable := #[], attributes := #[] }
def k11m1 : Method := { name := "requireGroupAndName", desc := "(Ljava/lang/String;Ljava/lang/String;Ljava/lang/String;)V", sig := { parameters := [(.object "java/lang/String"), (.object "java/lang/String"), (.object "java/lang/String")], returnType := none }, accessFlags := 8, code := some k11c1 }
def k11c2 : Code := { maxStack := 4, maxLocals := 3, code := prog_20_method_3_code, exceptionTable := #[], attributes := #[] }
def k11m2 : Method := { name := "requireNotBlank", desc := "(Ljava/lang/String;Ljava/lang/String;Ljava/lang/String;)V", sig := { parameters := [(.object "java/lang/String"), (.object "java/lang/String"), (.object "java/lang/String")], returnType := none }, accessFlags := 8, code := some k11c2 }
def k11c3 : Code := { maxStack := 2, maxLocals := 2, code := prog_20_method_4_code, exceptionTable := #[], attributes := #[] }
def k11m3 : Method := { name := "toString", desc := "(Ljava/lang/String;Ljava/lang/String;)Ljava/lang/String;", sig := { parameters := [(.object "java/lang/String"), (.object "java/lang/String")], returnType := some (.object "java/lang/String") }, accessFlags := 8, code := some k11c3 }
def k11c4 : Code := { maxStack := 2, maxLocals := 2, code := ⟨#[0xbb, 0x00, 0x23, 0x59, 0xb7, 0x00, 0x25, 0x2a, 0xb6, 0x00, 0x26, 0x12, 0x2a, 0xb6, 0x00, 0x26, 0x2b, 0xb6, 0x00, 0x26, 0x12, 0x37, 0xb6, 0x00, 0x26, 0xb6, 0x00, 0x2e, 0xb0]⟩, exceptionTable := #[], attributes := #[] }
def k11m4 : Method := { name := "lambda$requireNotBlank$0", desc := "(Ljava/lang/String;Ljava/lang/String;)Ljava/lang/String;", sig := { parameters := [(.object "java/lang/String"), (.object "java/lang/String")], returnType := some (.object "java/lang/String") }, accessFlags := 4106, code := some k11c4 }
/-- com/example/grid_job_scheduler/gridjobscheduler/Keys -/
def k11 : Class := { plain "com/example/grid_job_scheduler/gridjobscheduler/Keys" (some 0) with
  accessFlags := 48
  interfaces := #[]
  cf := some (fileOf pool11 10 #[.bootstrapMethods #[⟨77, #[71, 73, 76]⟩]] #[{ accessFlags := 2, nameIndex := 5, descriptorIndex := 6, attributes := #[] }, { accessFlags := 8, nameIndex := 64, descriptorIndex := 14, attributes := #[] }, { accessFlags := 8, nameIndex := 13, descriptorIndex := 14, attributes := #[] }, { accessFlags := 8, nameIndex := 48, descriptorIndex := 66, attributes := #[] }, { accessFlags := 4106, nameIndex := 67, descriptorIndex := 66, attributes := #[] }] 48 2 #[] #[{ accessFlags := 24, nameIndex := 57, descriptorIndex := 58, attributes := #[] }])
  fields := #[{ name := "DEFAULT_GROUP", type := (.object "java/lang/String"), accessFlags := 24, slot := 0, constantValue := 0 }]
  methods := #[k11m0, k11m1, k11m2, k11m3, k11m4]
  instanceTypes := #[]
  staticTypes := #[(.object "java/lang/String")]
  resolved := Array.replicate 90 none
  callSites := [(2, 3, .makes 32)]
  statics := none }

def pool12 : Array CpInfo := pool [(1, .class_ 2), (0, u "java/util/function/Supplier"), (0, .class_ 4), (0, u "java/lang/Object"), (0, u "get"), (0, u "()Ljava/lang/Object;")] 7

def k12m0 : Method := { name := "get", desc := "()Ljava/lang/Object;", sig := { parameters := [], returnType := some (.object "java/lang/Object") }, accessFlags := 1025, code := none }
/-- java/util/function/Supplier -/
def k12 : Class := { plain "java/util/function/Supplier" (some 0) with
  accessFlags := 1537
  interfaces := #[]
  cf := some (fileOf pool12 1 #[] #[{ accessFlags := 1025, nameIndex := 5, descriptorIndex := 6, attributes := #[] }] 1537 3 #[] #[])
  fields := #[]
  methods := #[k12m0]
  instanceTypes := #[]
  staticTypes := #[]
  resolved := Array.replicate 14 none
  statics := none }

def pool13 : Array CpInfo := pool [(2, .class_ 4), (1, u "java/lang/Object"), (0, u "<init>"), (0, u "()V"), (35, .class_ 44), (1, u "java/util/Objects"), (0, u "requireNonNull"), (118, u "(Ljava/lang/Object;Ljava/util/function/Supplier;)Ljava/lang/Object;")] 19

def k13m0 : Method := { name := "<init>", desc := "()V", sig := { parameters := [], returnType := none }, accessFlags := 2, code := none }
def k13c1 : Code := { maxStack := 3, maxLocals := 2, code := jdk_31_method_16_code, exceptionTable := #[], attributes := #[] }
def k13m1 : Method := { name := "requireNonNull", desc := "(Ljava/lang/Object;Ljava/util/function/Supplier;)Ljava/lang/Object;", sig := { parameters := [(.object "java/lang/Object"), (.object "java/util/function/Supplier")], returnType := some (.object "java/lang/Object") }, accessFlags := 9, code := some k13c1 }
/-- java/util/Objects -/
def k13 : Class := { plain "java/util/Objects" (some 0) with
  accessFlags := 49
  interfaces := #[]
  cf := some (fileOf pool13 42 #[] #[{ accessFlags := 2, nameIndex := 5, descriptorIndex := 6, attributes := #[] }, { accessFlags := 9, nameIndex := 45, descriptorIndex := 164, attributes := #[] }] 49 2 #[] #[])
  fields := #[]
  methods := #[k13m0, k13m1]
  instanceTypes := #[]
  staticTypes := #[]
  resolved := Array.replicate 184 none
  statics := none }

def pool14 : Array CpInfo := pool [(1, .class_ 2), (0, u "java/lang/String"), (1, .class_ 6), (1, u "java/lang/Object"), (0, u "<init>"), (0, u "()V"), (0, .methodref 1 10), (0, .nameAndType 11 12), (0, u "checkIndex"), (0, u "(II)V"), (1, .class_ 16), (1, u "java/lang/StringLatin1"), (33, .methodref 14 51), (0, .nameAndType 52 53), (0, u "getChar"), (0, u "([BI)C"), (3, u "([B)I"), (8, .fieldref 67 68), (0, .class_ 69), (0, .nameAndType 70 71), (0, u "java/lang/CharacterDataLatin1"), (0, u "instance"), (0, u "Ljava/lang/CharacterDataLatin1;"), (19, u "(I)Z"), (29, u "$assertionsDisabled"), (0, u "Z"), (88, .methodref 67 212), (0, .nameAndType 213 91), (0, u "isWhitespace"), (2, u "indexOfNonWhitespace"), (4, .class_ 223), (1, u "java/lang/StringLatin1$LinesSpliterator"), (28, u "charAt"), (137, .class_ 391), (0, u "java/lang/StringLatin1$CharsSpliterator")] 3

def k14m0 : Method := { name := "<init>", desc := "()V", sig := { parameters := [], returnType := none }, accessFlags := 0, code := none }
def k14c1 : Code := { maxStack := 2, maxLocals := 2, code := jdk_43_method_2_code, exceptionTable := #[], attributes := #[] }
def k14m1 : Method := { name := "charAt", desc := "([BI)C", sig := { parameters := [(.array .byte), .int], returnType := some .char }, accessFlags := 9, code := some k14c1 }
def k14c2 : Code := { maxStack := 2, maxLocals := 4, code := jdk_43_method_37_code, exceptionTable := #[], attributes := #[] }
def k14m2 : Method := { name := "indexOfNonWhitespace", desc := "([B)I", sig := { parameters := [(.array .byte)], returnType := some .int }, accessFlags := 9, code := some k14c2 }
def k14c3 : Code := { maxStack := 2, maxLocals := 2, code := jdk_43_method_44_code, exceptionTable := #[], attributes := #[] }
def k14m3 : Method := { name := "getChar", desc := "([BI)C", sig := { parameters := [(.array .byte), .int], returnType := some .char }, accessFlags := 9, code := some k14c3 }
/-- java/lang/StringLatin1 -/
def k14 : Class := { plain "java/lang/StringLatin1" (some 0) with
  accessFlags := 48
  interfaces := #[]
  cf := some (fileOf pool14 14 #[.nestMembers #[390, 221]] #[{ accessFlags := 0, nameIndex := 7, descriptorIndex := 8, attributes := #[] }, { accessFlags := 9, nameIndex := 252, descriptorIndex := 53, attributes := #[] }, { accessFlags := 9, nameIndex := 216, descriptorIndex := 57, attributes := #[] }, { accessFlags := 9, nameIndex := 52, descriptorIndex := 53, attributes := #[] }] 48 4 #[] #[{ accessFlags := 4120, nameIndex := 121, descriptorIndex := 122, attributes := #[] }])
  fields := #[{ name := "$assertionsDisabled", type := .boolean, accessFlags := 4120, slot := 0, constantValue := 0 }]
  methods := #[k14m0, k14m1, k14m2, k14m3]
  instanceTypes := #[]
  staticTypes := #[.boolean]
  resolved := Array.replicate 395 none
  statics := none }

def pool15 : Array CpInfo := pool [(2, .class_ 4), (1, u "java/lang/Object"), (0, u "<init>"), (0, u "()V"), (1, .class_ 10), (1, u "java/lang/CharacterData")] 75

def k15m0 : Method := { name := "<init>", desc := "()V", sig := { parameters := [], returnType := none }, accessFlags := 0, code := none }
/-- java/lang/CharacterData -/
def k15 : Class := { plain "java/lang/CharacterData" (some 0) with
  accessFlags := 1056
  interfaces := #[]
  cf := some (fileOf pool15 8 #[] #[{ accessFlags := 0, nameIndex := 5, descriptorIndex := 6, attributes := #[] }] 1056 2 #[] #[])
  fields := #[]
  methods := #[k15m0]
  instanceTypes := #[]
  staticTypes := #[]
  resolved := Array.replicate 86 none
  statics := none }

def pool16 : Array CpInfo := pool [(1, .fieldref 2 3), (0, .class_ 4), (0, .nameAndType 5 6), (0, u "java/lang/CharacterDataLatin1"), (0, u "A"), (0, u "[I"), (2, u "B"), (0, u "[C"), (3, u "(I)I"), (0, .methodref 2 16), (0, .nameAndType 17 14), (0, u "getProperties"), (3, u "(I)Z"), (5, u "DIGITS"), (0, u "[B"), (8, u "sharpsMap"), (1, .class_ 41), (1, u "java/lang/CharacterData"), (0, u "<init>"), (0, u "()V"), (3, u "instance"), (0, u "Ljava/lang/CharacterDataLatin1;"), (78, u "isWhitespace")] 13

def k16c0 : Code := { maxStack := 2, maxLocals := 4, code := jdk_116_method_1_code, exceptionTable := #[], attributes := #[] }
def k16m0 : Method := { name := "getProperties", desc := "(I)I", sig := { parameters := [.int], returnType := some .int }, accessFlags := 0, code := some k16c0 }
def k16c1 : Code := { maxStack := 2, maxLocals := 3, code := jdk_116_method_26_code, exceptionTable := #[], attributes := #[] }
def k16m1 : Method := { name := "isWhitespace", desc := "(I)Z", sig := { parameters := [.int], returnType := some .boolean }, accessFlags := 0, code := some k16c1 }
def k16m2 : Method := { name := "<init>", desc := "()V", sig := { parameters := [], returnType := none }, accessFlags := 2, code := none }
/-- java/lang/CharacterDataLatin1 -/
def k16 : Class := { plain "java/lang/CharacterDataLatin1" (some 15) with
  accessFlags := 32
  interfaces := #[]
  cf := some (fileOf pool16 2 #[] #[{ accessFlags := 0, nameIndex := 17, descriptorIndex := 14, attributes := #[] }, { accessFlags := 0, nameIndex := 127, descriptorIndex := 21, attributes := #[] }, { accessFlags := 2, nameIndex := 42, descriptorIndex := 43, attributes := #[] }] 32 39 #[] #[{ accessFlags := 26, nameIndex := 27, descriptorIndex := 28, attributes := #[] }, { accessFlags := 8, nameIndex := 37, descriptorIndex := 10, attributes := #[] }, { accessFlags := 24, nameIndex := 47, descriptorIndex := 48, attributes := #[] }, { accessFlags := 24, nameIndex := 5, descriptorIndex := 6, attributes := #[] }, { accessFlags := 24, nameIndex := 9, descriptorIndex := 10, attributes := #[] }])
  fields := #[{ name := "DIGITS", type := (.array .byte), accessFlags := 26, slot := 0, constantValue := 0 }, { name := "sharpsMap", type := (.array .char), accessFlags := 8, slot := 1, constantValue := 0 }, { name := "instance", type := (.object "java/lang/CharacterDataLatin1"), accessFlags := 24, slot := 2, constantValue := 0 }, { name := "A", type := (.array .int), accessFlags := 24, slot := 3, constantValue := 0 }, { name := "B", type := (.array .char), accessFlags := 24, slot := 4, constantValue := 0 }]
  methods := #[k16m0, k16m1, k16m2]
  instanceTypes := #[]
  staticTypes := #[(.array .byte), (.array .char), (.object "java/lang/CharacterDataLatin1"), (.array .int), (.array .char)]
  resolved := Array.replicate 141 none
  statics := some 1 }

def pool17 : Array CpInfo := pool [(1, .class_ 2), (0, u "java/lang/Appendable"), (0, .class_ 4), (0, u "java/lang/Object")] 9

/-- java/lang/Appendable -/
def k17 : Class := { plain "java/lang/Appendable" (some 0) with
  accessFlags := 1537
  interfaces := #[]
  cf := some (fileOf pool17 1 #[] #[] 1537 3 #[] #[])
  fields := #[]
  methods := #[]
  instanceTypes := #[]
  staticTypes := #[]
  resolved := Array.replicate 14 none
  statics := none }

def pool18 : Array CpInfo := pool [(1, .class_ 2), (0, u "java/lang/String"), (0, .methodref 4 5), (0, .class_ 6), (0, .nameAndType 7 8), (0, u "java/lang/Object"), (0, u "<init>"), (0, u "()V"), (1, .class_ 12), (1, u "java/lang/AbstractStringBuilder"), (0, u "EMPTYVALUE"), (0, u "[B"), (0, .fieldref 10 16), (0, .nameAndType 17 14), (0, u "value"), (0, .fieldref 1 19), (0, .nameAndType 20 21), (0, u "COMPACT_STRINGS"), (0, u "Z"), (0, .fieldref 10 23), (0, .nameAndType 24 25), (0, u "coder"), (0, u "B"), (6, .methodref 1 33), (0, .nameAndType 34 35), (0, u "length"), (0, u "()I"), (4, .methodref 1 41), (0, .nameAndType 24 42), (0, u "()B"), (2, u "append"), (0, u "(Ljava/lang/String;)Ljava/lang/AbstractStringBuilder;"), (1, .class_ 49), (0, u "java/lang/CharSequence"), (19, u "(Ljava/lang/String;)V"), (5, u "maybeLatin1"), (3, .fieldref 10 80), (0, .nameAndType 81 82), (0, u "count"), (0, u "I"), (2, u "isLatin1"), (0, u "()Z"), (13, .methodref 10 101), (0, .nameAndType 102 103), (0, u "ensureCapacityInternal"), (0, u "(I)V"), (104, .methodref 10 209), (0, .nameAndType 210 211), (0, u "putStringAt"), (0, u "(ILjava/lang/String;)V"), (5, u "inflateIfNeededFor"), (2, .nameAndType 221 222), (0, u "getBytes"), (0, u "([BIB)V"), (174, .methodref 10 398), (0, .nameAndType 217 69), (0, .methodref 1 220), (3, u "()[B"), (40, .class_ 445), (0, u "java/lang/Appendable"), (106, u "getValue")] 56

def k18m0 : Method := { name := "<init>", desc := "()V", sig := { parameters := [], returnType := none }, accessFlags := 0, code := none }
def k18c1 : Code := { maxStack := 2, maxLocals := 2, code := jdk_68_method_2_code, exceptionTable := #[], attributes := #[] }
def k18m1 : Method := { name := "<init>", desc := "(I)V", sig := { parameters := [.int], returnType := none }, accessFlags := 0, code := some k18c1 }
def k18c2 : Code := { maxStack := 1, maxLocals := 1, code := jdk_68_method_6_code, exceptionTable := #[], attributes := #[] }
def k18m2 : Method := { name := "length", desc := "()I", sig := { parameters := [], returnType := some .int }, accessFlags := 1, code := some k18c2 }
def k18c3 : Code := { maxStack := 4, maxLocals := 3, code := jdk_68_method_9_code, exceptionTable := #[], attributes := #[] }
def k18m3 : Method := { name := "ensureCapacityInternal", desc := "(I)V", sig := { parameters := [.int], returnType := none }, accessFlags := 2, code := some k18c3 }
def k18c4 : Code := { maxStack := 3, maxLocals := 3, code := jdk_68_method_22_code, exceptionTable := #[], attributes := #[] }
def k18m4 : Method := { name := "append", desc := "(Ljava/lang/String;)Ljava/lang/AbstractStringBuilder;", sig := { parameters := [(.object "java/lang/String")], returnType := some (.object "java/lang/AbstractStringBuilder") }, accessFlags := 1, code := some k18c4 }
def k18c5 : Code := { maxStack := 1, maxLocals := 1, code := jdk_68_method_64_code, exceptionTable := #[], attributes := #[] }
def k18m5 : Method := { name := "getValue", desc := "()[B", sig := { parameters := [], returnType := some (.array .byte) }, accessFlags := 16, code := some k18c5 }
def k18c6 : Code := { maxStack := 1, maxLocals := 1, code := jdk_68_method_68_code, exceptionTable := #[], attributes := #[] }
def k18m6 : Method := { name := "isLatin1", desc := "()Z", sig := { parameters := [], returnType := some .boolean }, accessFlags := 16, code := some k18c6 }
def k18c7 : Code := { maxStack := 2, maxLocals := 2, code := jdk_68_method_71_code, exceptionTable := #[], attributes := #[] }
def k18m7 : Method := { name := "inflateIfNeededFor", desc := "(Ljava/lang/String;)V", sig := { parameters := [(.object "java/lang/String")], returnType := none }, accessFlags := 2, code := some k18c7 }
def k18c8 : Code := { maxStack := 4, maxLocals := 3, code := jdk_68_method_73_code, exceptionTable := #[], attributes := #[] }
def k18m8 : Method := { name := "putStringAt", desc := "(ILjava/lang/String;)V", sig := { parameters := [.int, (.object "java/lang/String")], returnType := none }, accessFlags := 2, code := some k18c8 }
/-- java/lang/AbstractStringBuilder -/
def k18 : Class := { plain "java/lang/AbstractStringBuilder" (some 0) with
  accessFlags := 1056
  interfaces := #[17, 4]
  cf := some (fileOf pool18 10 #[] #[{ accessFlags := 0, nameIndex := 7, descriptorIndex := 8, attributes := #[] }, { accessFlags := 0, nameIndex := 7, descriptorIndex := 103, attributes := #[] }, { accessFlags := 1, nameIndex := 34, descriptorIndex := 35, attributes := #[] }, { accessFlags := 2, nameIndex := 102, descriptorIndex := 103, attributes := #[] }, { accessFlags := 1, nameIndex := 45, descriptorIndex := 46, attributes := #[] }, { accessFlags := 16, nameIndex := 552, descriptorIndex := 403, attributes := #[] }, { accessFlags := 16, nameIndex := 85, descriptorIndex := 86, attributes := #[] }, { accessFlags := 2, nameIndex := 217, descriptorIndex := 69, attributes := #[] }, { accessFlags := 2, nameIndex := 210, descriptorIndex := 211, attributes := #[] }] 1056 4 #[444, 48] #[{ accessFlags := 0, nameIndex := 17, descriptorIndex := 14, attributes := #[] }, { accessFlags := 0, nameIndex := 24, descriptorIndex := 25, attributes := #[] }, { accessFlags := 0, nameIndex := 75, descriptorIndex := 21, attributes := #[] }, { accessFlags := 0, nameIndex := 81, descriptorIndex := 82, attributes := #[] }, { accessFlags := 26, nameIndex := 13, descriptorIndex := 14, attributes := #[] }])
  fields := #[{ name := "value", type := (.array .byte), accessFlags := 0, slot := 0, constantValue := 0 }, { name := "coder", type := .byte, accessFlags := 0, slot := 1, constantValue := 0 }, { name := "maybeLatin1", type := .boolean, accessFlags := 0, slot := 2, constantValue := 0 }, { name := "count", type := .int, accessFlags := 0, slot := 3, constantValue := 0 }, { name := "EMPTYVALUE", type := (.array .byte), accessFlags := 26, slot := 0, constantValue := 0 }]
  methods := #[k18m0, k18m1, k18m2, k18m3, k18m4, k18m5, k18m6, k18m7, k18m8]
  instanceTypes := #[(.array .byte), .byte, .boolean, .int]
  staticTypes := #[(.array .byte)]
  resolved := Array.replicate 609 none
  statics := none }

def pool19 : Array CpInfo := pool [(1, .methodref 2 3), (0, .class_ 4), (0, .nameAndType 5 6), (0, u "java/lang/AbstractStringBuilder"), (0, u "<init>"), (0, u "(I)V"), (11, .class_ 20), (1, u "java/lang/String"), (3, .class_ 26), (1, u "java/lang/StringBuilder"), (0, u "append"), (0, u "(Ljava/lang/String;)Ljava/lang/StringBuilder;"), (0, .methodref 2 30), (0, .nameAndType 27 31), (0, u "(Ljava/lang/String;)Ljava/lang/AbstractStringBuilder;"), (105, .methodref 18 138), (0, .nameAndType 5 139), (0, u "(Ljava/lang/StringBuilder;)V"), (5, u "()V"), (10, u "()I"), (186, .methodref 2 344), (0, .nameAndType 345 156), (0, u "length"), (3, .class_ 350), (0, u "java/lang/Appendable"), (0, .class_ 352), (0, u "java/io/Serializable"), (0, .class_ 354), (0, u "java/lang/Comparable"), (0, .class_ 356), (0, u "java/lang/CharSequence"), (0, u "serialVersionUID"), (0, u "J"), (40, u "toString"), (0, u "()Ljava/lang/String;")] 21

def k19c0 : Code := { maxStack := 2, maxLocals := 1, code := jdk_67_method_1_code, exceptionTable := #[], attributes := #[] }
def k19m0 : Method := { name := "<init>", desc := "()V", sig := { parameters := [], returnType := none }, accessFlags := 1, code := some k19c0 }
def k19c1 : Code := { maxStack := 2, maxLocals := 2, code := jdk_67_method_7_code, exceptionTable := #[], attributes := #[] }
def k19m1 : Method := { name := "append", desc := "(Ljava/lang/String;)Ljava/lang/StringBuilder;", sig := { parameters := [(.object "java/lang/String")], returnType := some (.object "java/lang/StringBuilder") }, accessFlags := 1, code := some k19c1 }
def k19c2 : Code := { maxStack := 3, maxLocals := 1, code := jdk_67_method_42_code, exceptionTable := #[], attributes := #[] }
def k19m2 : Method := { name := "toString", desc := "()Ljava/lang/String;", sig := { parameters := [], returnType := some (.object "java/lang/String") }, accessFlags := 1, code := some k19c2 }
def k19c3 : Code := { maxStack := 1, maxLocals := 1, code := jdk_67_method_93_code, exceptionTable := #[], attributes := #[] }
def k19m3 : Method := { name := "length", desc := "()I", sig := { parameters := [], returnType := some .int }, accessFlags := 4161, code := some k19c3 }
/-- java/lang/StringBuilder -/
def k19 : Class := { plain "java/lang/StringBuilder" (some 18) with
  accessFlags := 49
  interfaces := #[17, 2, 3, 4]
  cf := some (fileOf pool19 24 #[] #[{ accessFlags := 1, nameIndex := 5, descriptorIndex := 145, attributes := #[] }, { accessFlags := 1, nameIndex := 27, descriptorIndex := 28, attributes := #[] }, { accessFlags := 1, nameIndex := 399, descriptorIndex := 400, attributes := #[] }, { accessFlags := 4161, nameIndex := 345, descriptorIndex := 156, attributes := #[] }] 49 2 #[349, 351, 353, 355] #[{ accessFlags := 24, nameIndex := 357, descriptorIndex := 358, attributes := #[] }])
  fields := #[{ name := "serialVersionUID", type := .long, accessFlags := 24, slot := 0, constantValue := 0 }]
  methods := #[k19m0, k19m1, k19m2, k19m3]
  instanceTypes := #[(.array .byte), .byte, .boolean, .int]
  staticTypes := #[.long]
  resolved := Array.replicate 422 none
  statics := none }

def pool20 : Array CpInfo := pool [(2, .class_ 4), (1, u "java/lang/Object"), (0, u "<init>"), (0, u "()V"), (1, .class_ 10), (1, u "java/lang/System"), (0, u "allowSecurityManager"), (0, u "I"), (16, u "cons"), (0, u "Ljava/io/Console;"), (77, .class_ 110), (1, u "java/lang/System$CallersHolder"), (43, u "initialErrStream"), (0, u "Ljava/io/PrintStream;"), (19, u "security"), (0, u "Ljava/lang/SecurityManager;"), (31, .class_ 209), (0, u "java/lang/System$1"), (7, u "props"), (0, u "Ljava/util/Properties;"), (2, u "lineSeparator"), (0, u "Ljava/lang/String;"), (96, .class_ 321), (1, u "java/lang/System$LoggerFinder"), (5, .class_ 328), (0, u "java/lang/System$Logger"), (67, u "err"), (2, u "out"), (91, u "notSupportedJnuEncoding"), (15, u "in"), (17, u "initialIn"), (0, u "Ljava/io/InputStream;"), (35, u "bootLayer"), (0, u "Ljava/lang/ModuleLayer;"), (99, .class_ 664), (0, u "java/lang/System$2"), (9, u "NEVER"), (2, u "MAYBE"), (49, u "arraycopy"), (0, u "(Ljava/lang/Object;ILjava/lang/Object;II)V"), (72, .class_ 802), (0, u "java/lang/System$Logger$Level")] 31

def k20m0 : Method := { name := "<init>", desc := "()V", sig := { parameters := [], returnType := none }, accessFlags := 2, code := none }
def k20m1 : Method := { name := "arraycopy", desc := "(Ljava/lang/Object;ILjava/lang/Object;II)V", sig := { parameters := [(.object "java/lang/Object"), .int, (.object "java/lang/Object"), .int, .int], returnType := none }, accessFlags := 265, code := none }
/-- java/lang/System -/
def k20 : Class := { plain "java/lang/System" (some 0) with
  accessFlags := 49
  interfaces := #[]
  cf := some (fileOf pool20 8 #[.nestMembers #[319, 327, 801, 108, 663, 208]] #[{ accessFlags := 2, nameIndex := 5, descriptorIndex := 6, attributes := #[] }, { accessFlags := 265, nameIndex := 727, descriptorIndex := 728, attributes := #[] }] 49 2 #[] #[{ accessFlags := 25, nameIndex := 507, descriptorIndex := 526, attributes := #[] }, { accessFlags := 25, nameIndex := 399, descriptorIndex := 155, attributes := #[] }, { accessFlags := 25, nameIndex := 396, descriptorIndex := 155, attributes := #[] }, { accessFlags := 10, nameIndex := 525, descriptorIndex := 526, attributes := #[] }, { accessFlags := 26, nameIndex := 674, descriptorIndex := 12, attributes := #[] }, { accessFlags := 26, nameIndex := 677, descriptorIndex := 12, attributes := #[] }, { accessFlags := 10, nameIndex := 11, descriptorIndex := 12, attributes := #[] }, { accessFlags := 74, nameIndex := 175, descriptorIndex := 176, attributes := #[] }, { accessFlags := 10, nameIndex := 491, descriptorIndex := 222, attributes := #[] }, { accessFlags := 74, nameIndex := 29, descriptorIndex := 30, attributes := #[] }, { accessFlags := 74, nameIndex := 154, descriptorIndex := 155, attributes := #[] }, { accessFlags := 10, nameIndex := 217, descriptorIndex := 218, attributes := #[] }, { accessFlags := 10, nameIndex := 221, descriptorIndex := 222, attributes := #[] }, { accessFlags := 8, nameIndex := 562, descriptorIndex := 563, attributes := #[] }])
  fields := #[{ name := "in", type := (.object "java/io/InputStream"), accessFlags := 25, slot := 0, constantValue := 0 }, { name := "out", type := (.object "java/io/PrintStream"), accessFlags := 25, slot := 1, constantValue := 0 }, { name := "err", type := (.object "java/io/PrintStream"), accessFlags := 25, slot := 2, constantValue := 0 }, { name := "initialIn", type := (.object "java/io/InputStream"), accessFlags := 10, slot := 3, constantValue := 0 }, { name := "NEVER", type := .int, accessFlags := 26, slot := 4, constantValue := 0 }, { name := "MAYBE", type := .int, accessFlags := 26, slot := 5, constantValue := 0 }, { name := "allowSecurityManager", type := .int, accessFlags := 10, slot := 6, constantValue := 0 }, { name := "security", type := (.object "java/lang/SecurityManager"), accessFlags := 74, slot := 7, constantValue := 0 }, { name := "notSupportedJnuEncoding", type := (.object "java/lang/String"), accessFlags := 10, slot := 8, constantValue := 0 }, { name := "cons", type := (.object "java/io/Console"), accessFlags := 74, slot := 9, constantValue := 0 }, { name := "initialErrStream", type := (.object "java/io/PrintStream"), accessFlags := 74, slot := 10, constantValue := 0 }, { name := "props", type := (.object "java/util/Properties"), accessFlags := 10, slot := 11, constantValue := 0 }, { name := "lineSeparator", type := (.object "java/lang/String"), accessFlags := 10, slot := 12, constantValue := 0 }, { name := "bootLayer", type := (.object "java/lang/ModuleLayer"), accessFlags := 8, slot := 13, constantValue := 0 }]
  methods := #[k20m0, k20m1]
  instanceTypes := #[]
  staticTypes := #[(.object "java/io/InputStream"), (.object "java/io/PrintStream"), (.object "java/io/PrintStream"), (.object "java/io/InputStream"), .int, .int, .int, (.object "java/lang/SecurityManager"), (.object "java/lang/String"), (.object "java/io/Console"), (.object "java/io/PrintStream"), (.object "java/util/Properties"), (.object "java/lang/String"), (.object "java/lang/ModuleLayer")]
  resolved := Array.replicate 834 none
  statics := none }

def pool21 : Array CpInfo := pool [(2, .class_ 4), (1, u "java/lang/Object"), (0, u "<init>"), (0, u "()V"), (7, .class_ 16), (1, u "java/util/Arrays"), (57, .class_ 76), (1, u "java/util/Arrays$NaturalOrder"), (36, .class_ 115), (1, u "java/util/Arrays$LegacyMergeSort"), (1, u "Z"), (21, u "copyOfRange"), (10, .methodref 151 152), (0, .class_ 153), (0, .nameAndType 154 155), (0, u "java/lang/System"), (0, u "arraycopy"), (0, u "(Ljava/lang/Object;ILjava/lang/Object;II)V"), (148, .methodref 305 306), (0, .class_ 307), (0, .nameAndType 308 309), (0, u "java/lang/Math"), (0, u "min"), (0, u "(II)I"), (29, .methodref 14 340), (0, .nameAndType 341 342), (0, u "copyOfRangeByte"), (0, u "([BII)[B"), (0, .methodref 14 344), (0, .nameAndType 345 346), (0, u "checkLength"), (0, u "(II)V"), (28, .class_ 376), (0, u "java/util/Arrays$ArrayList"), (68, u "$assertionsDisabled"), (269, u "MIN_ARRAY_SORT_GRAN"), (0, u "I"), (2, u "INSERTIONSORT_THRESHOLD"), (255, .class_ 976), (0, u "java/util/Arrays$ArrayItr")] 52

def k21m0 : Method := { name := "<init>", desc := "()V", sig := { parameters := [], returnType := none }, accessFlags := 2, code := none }
def k21c1 : Code := { maxStack := 4, maxLocals := 2, code := jdk_65_method_131_code, exceptionTable := #[], attributes := #[] }
def k21m1 : Method := { name := "checkLength", desc := "(II)V", sig := { parameters := [.int, .int], returnType := none }, accessFlags := 10, code := some k21c1 }
def k21c2 : Code := { maxStack := 3, maxLocals := 3, code := jdk_65_method_132_code, exceptionTable := #[], attributes := #[] }
def k21m2 : Method := { name := "copyOfRange", desc := "([BII)[B", sig := { parameters := [(.array .byte), .int, .int], returnType := some (.array .byte) }, accessFlags := 9, code := some k21c2 }
def k21c3 : Code := { maxStack := 6, maxLocals := 5, code := jdk_65_method_133_code, exceptionTable := #[], attributes := #[] }
def k21m3 : Method := { name := "copyOfRangeByte", desc := "([BII)[B", sig := { parameters := [(.array .byte), .int, .int], returnType := some (.array .byte) }, accessFlags := 10, code := some k21c3 }
/-- java/util/Arrays -/
def k21 : Class := { plain "java/util/Arrays" (some 0) with
  accessFlags := 49
  interfaces := #[]
  cf := some (fileOf pool21 14 #[.nestMembers #[975, 375, 113, 74]] #[{ accessFlags := 2, nameIndex := 5, descriptorIndex := 6, attributes := #[] }, { accessFlags := 10, nameIndex := 345, descriptorIndex := 346, attributes := #[] }, { accessFlags := 9, nameIndex := 139, descriptorIndex := 342, attributes := #[] }, { accessFlags := 10, nameIndex := 341, descriptorIndex := 342, attributes := #[] }] 49 2 #[] #[{ accessFlags := 26, nameIndex := 715, descriptorIndex := 716, attributes := #[] }, { accessFlags := 26, nameIndex := 719, descriptorIndex := 716, attributes := #[] }, { accessFlags := 4120, nameIndex := 445, descriptorIndex := 117, attributes := #[] }])
  fields := #[{ name := "MIN_ARRAY_SORT_GRAN", type := .int, accessFlags := 26, slot := 0, constantValue := 0 }, { name := "INSERTIONSORT_THRESHOLD", type := .int, accessFlags := 26, slot := 1, constantValue := 0 }, { name := "$assertionsDisabled", type := .boolean, accessFlags := 4120, slot := 2, constantValue := 0 }]
  methods := #[k21m0, k21m1, k21m2, k21m3]
  instanceTypes := #[]
  staticTypes := #[.int, .int, .boolean]
  resolved := Array.replicate 1029 none
  statics := none }

def pool22 : Array CpInfo := pool [(1, .class_ 2), (0, u "java/lang/Math"), (1, .class_ 6), (1, u "java/lang/Object"), (0, u "<init>"), (0, u "()V"), (89, .class_ 100), (1, u "java/lang/Math$RandomNumberGeneratorHolder"), (71, u "negativeZeroFloatBits"), (0, u "J"), (2, u "negativeZeroDoubleBits"), (24, u "min"), (43, u "$assertionsDisabled"), (0, u "Z"), (88, u "(II)I"), (2, u "twoToTheDoubleScaleDown"), (0, u "D"), (4, u "twoToTheDoubleScaleUp"), (9, u "E"), (3, u "PI"), (2, u "TAU"), (2, u "DEGREES_TO_RADIANS"), (0, u "RADIANS_TO_DEGREES")] 94

def k22m0 : Method := { name := "<init>", desc := "()V", sig := { parameters := [], returnType := none }, accessFlags := 2, code := none }
def k22c1 : Code := { maxStack := 2, maxLocals := 2, code := jdk_29_method_69_code, exceptionTable := #[], attributes := #[] }
def k22m1 : Method := { name := "min", desc := "(II)I", sig := { parameters := [.int, .int], returnType := some .int }, accessFlags := 9, code := some k22c1 }
/-- java/lang/Math -/
def k22 : Class := { plain "java/lang/Math" (some 0) with
  accessFlags := 49
  interfaces := #[]
  cf := some (fileOf pool22 1 #[.nestMembers #[98]] #[{ accessFlags := 2, nameIndex := 7, descriptorIndex := 8, attributes := #[] }, { accessFlags := 9, nameIndex := 201, descriptorIndex := 335, attributes := #[] }] 49 4 #[] #[{ accessFlags := 25, nameIndex := 354, descriptorIndex := 339, attributes := #[] }, { accessFlags := 25, nameIndex := 358, descriptorIndex := 339, attributes := #[] }, { accessFlags := 25, nameIndex := 361, descriptorIndex := 339, attributes := #[] }, { accessFlags := 26, nameIndex := 364, descriptorIndex := 339, attributes := #[] }, { accessFlags := 26, nameIndex := 365, descriptorIndex := 339, attributes := #[] }, { accessFlags := 26, nameIndex := 172, descriptorIndex := 173, attributes := #[] }, { accessFlags := 26, nameIndex := 176, descriptorIndex := 173, attributes := #[] }, { accessFlags := 8, nameIndex := 344, descriptorIndex := 339, attributes := #[] }, { accessFlags := 8, nameIndex := 338, descriptorIndex := 339, attributes := #[] }, { accessFlags := 4120, nameIndex := 245, descriptorIndex := 246, attributes := #[] }])
  fields := #[{ name := "E", type := .double, accessFlags := 25, slot := 0, constantValue := 0 }, { name := "PI", type := .double, accessFlags := 25, slot := 1, constantValue := 0 }, { name := "TAU", type := .double, accessFlags := 25, slot := 2, constantValue := 0 }, { name := "DEGREES_TO_RADIANS", type := .double, accessFlags := 26, slot := 3, constantValue := 0 }, { name := "RADIANS_TO_DEGREES", type := .double, accessFlags := 26, slot := 4, constantValue := 0 }, { name := "negativeZeroFloatBits", type := .long, accessFlags := 26, slot := 5, constantValue := 0 }, { name := "negativeZeroDoubleBits", type := .long, accessFlags := 26, slot := 6, constantValue := 0 }, { name := "twoToTheDoubleScaleUp", type := .double, accessFlags := 8, slot := 7, constantValue := 0 }, { name := "twoToTheDoubleScaleDown", type := .double, accessFlags := 8, slot := 8, constantValue := 0 }, { name := "$assertionsDisabled", type := .boolean, accessFlags := 4120, slot := 9, constantValue := 0 }]
  methods := #[k22m0, k22m1]
  instanceTypes := #[]
  staticTypes := #[.double, .double, .double, .double, .double, .long, .long, .double, .double, .boolean]
  resolved := Array.replicate 460 none
  statics := none }

def pool23 : Array CpInfo := pool [(2, .class_ 4), (1, u "java/lang/Object"), (0, u "<init>"), (0, u "()V"), (17, .class_ 26), (1, u "jdk/internal/util/Preconditions"), (6, u "checkIndex"), (21, .class_ 56), (0, u "jdk/internal/util/Preconditions$4"), (57, .class_ 115), (0, u "jdk/internal/util/Preconditions$1"), (7, u "SIOOBE_FORMATTER"), (0, u "Ljava/util/function/BiFunction;"), (0, .class_ 126), (0, u "jdk/internal/util/Preconditions$2"), (3, u "AIOOBE_FORMATTER"), (0, .class_ 132), (0, u "jdk/internal/util/Preconditions$3"), (3, u "IOOBE_FORMATTER"), (41, u "(IILjava/util/function/BiFunction;)I")] 15

def k23m0 : Method := { name := "<init>", desc := "()V", sig := { parameters := [], returnType := none }, accessFlags := 1, code := none }
def k23c1 : Code := { maxStack := 3, maxLocals := 3, code := jdk_41_method_11_code, exceptionTable := #[], attributes := #[] }
def k23m1 : Method := { name := "checkIndex", desc := "(IILjava/util/function/BiFunction;)I", sig := { parameters := [.int, .int, (.object "java/util/function/BiFunction")], returnType := some .int }, accessFlags := 9, code := some k23c1 }
/-- jdk/internal/util/Preconditions -/
def k23 : Class := { plain "jdk/internal/util/Preconditions" (some 0) with
  accessFlags := 33
  interfaces := #[]
  cf := some (fileOf pool23 24 #[.nestMembers #[55, 131, 125, 114]] #[{ accessFlags := 1, nameIndex := 5, descriptorIndex := 6, attributes := #[] }, { accessFlags := 9, nameIndex := 33, descriptorIndex := 178, attributes := #[] }] 33 2 #[] #[{ accessFlags := 25, nameIndex := 123, descriptorIndex := 124, attributes := #[] }, { accessFlags := 25, nameIndex := 130, descriptorIndex := 124, attributes := #[] }, { accessFlags := 25, nameIndex := 136, descriptorIndex := 124, attributes := #[] }])
  fields := #[{ name := "SIOOBE_FORMATTER", type := (.object "java/util/function/BiFunction"), accessFlags := 25, slot := 0, constantValue := 0 }, { name := "AIOOBE_FORMATTER", type := (.object "java/util/function/BiFunction"), accessFlags := 25, slot := 1, constantValue := 0 }, { name := "IOOBE_FORMATTER", type := (.object "java/util/function/BiFunction"), accessFlags := 25, slot := 2, constantValue := 0 }]
  methods := #[k23m0, k23m1]
  instanceTypes := #[]
  staticTypes := #[(.object "java/util/function/BiFunction"), (.object "java/util/function/BiFunction"), (.object "java/util/function/BiFunction")]
  resolved := Array.replicate 194 none
  statics := some 2 }

def pool24 : Array CpInfo := pool [(9, u "<init>"), (6, .class_ 18), (1, u "java/lang/Object"), (0, u "()V"), (1, .class_ 23), (1, u "jdk/internal/util/ArraysSupport"), (0, u "LOG2_ARRAY_LONG_INDEX_SCALE"), (0, u "I"), (2, u "U"), (0, u "Ljdk/internal/misc/Unsafe;"), (8, u "BIG_ENDIAN"), (0, u "Z"), (8, u "LOG2_BYTE_BIT_SIZE"), (4, u "LOG2_ARRAY_INT_INDEX_SCALE"), (54, u "JLA"), (0, u "Ljdk/internal/access/JavaLangAccess;"), (11, u "LOG2_ARRAY_BOOLEAN_INDEX_SCALE"), (9, u "LOG2_ARRAY_BYTE_INDEX_SCALE"), (5, u "LOG2_ARRAY_CHAR_INDEX_SCALE"), (5, u "LOG2_ARRAY_SHORT_INDEX_SCALE"), (18, u "LOG2_ARRAY_FLOAT_INDEX_SCALE"), (24, u "LOG2_ARRAY_DOUBLE_INDEX_SCALE"), (89, u "T_BOOLEAN"), (2, u "T_CHAR"), (1, u "T_FLOAT"), (1, u "T_DOUBLE"), (1, u "T_BYTE"), (1, u "T_SHORT"), (1, u "T_INT"), (1, u "T_LONG"), (1, u "SOFT_MAX_ARRAY_LENGTH")] 83

def k24m0 : Method := { name := "<init>", desc := "()V", sig := { parameters := [], returnType := none }, accessFlags := 2, code := none }
/-- jdk/internal/util/ArraysSupport -/
def k24 : Class := { plain "jdk/internal/util/ArraysSupport" (some 0) with
  accessFlags := 33
  interfaces := #[]
  cf := some (fileOf pool24 21 #[] #[{ accessFlags := 2, nameIndex := 9, descriptorIndex := 19, attributes := #[] }] 33 16 #[] #[{ accessFlags := 24, nameIndex := 28, descriptorIndex := 29, attributes := #[] }, { accessFlags := 26, nameIndex := 38, descriptorIndex := 39, attributes := #[] }, { accessFlags := 25, nameIndex := 121, descriptorIndex := 25, attributes := #[] }, { accessFlags := 25, nameIndex := 131, descriptorIndex := 25, attributes := #[] }, { accessFlags := 25, nameIndex := 137, descriptorIndex := 25, attributes := #[] }, { accessFlags := 25, nameIndex := 143, descriptorIndex := 25, attributes := #[] }, { accessFlags := 25, nameIndex := 53, descriptorIndex := 25, attributes := #[] }, { accessFlags := 25, nameIndex := 24, descriptorIndex := 25, attributes := #[] }, { accessFlags := 25, nameIndex := 162, descriptorIndex := 25, attributes := #[] }, { accessFlags := 25, nameIndex := 187, descriptorIndex := 25, attributes := #[] }, { accessFlags := 26, nameIndex := 48, descriptorIndex := 25, attributes := #[] }, { accessFlags := 25, nameIndex := 277, descriptorIndex := 25, attributes := #[] }, { accessFlags := 25, nameIndex := 280, descriptorIndex := 25, attributes := #[] }, { accessFlags := 25, nameIndex := 282, descriptorIndex := 25, attributes := #[] }, { accessFlags := 25, nameIndex := 284, descriptorIndex := 25, attributes := #[] }, { accessFlags := 25, nameIndex := 286, descriptorIndex := 25, attributes := #[] }, { accessFlags := 25, nameIndex := 288, descriptorIndex := 25, attributes := #[] }, { accessFlags := 25, nameIndex := 290, descriptorIndex := 25, attributes := #[] }, { accessFlags := 25, nameIndex := 292, descriptorIndex := 25, attributes := #[] }, { accessFlags := 26, nameIndex := 108, descriptorIndex := 109, attributes := #[] }, { accessFlags := 25, nameIndex := 294, descriptorIndex := 25, attributes := #[] }])
  fields := #[{ name := "U", type := (.object "jdk/internal/misc/Unsafe"), accessFlags := 24, slot := 0, constantValue := 0 }, { name := "BIG_ENDIAN", type := .boolean, accessFlags := 26, slot := 1, constantValue := 0 }, { name := "LOG2_ARRAY_BOOLEAN_INDEX_SCALE", type := .int, accessFlags := 25, slot := 2, constantValue := 0 }, { name := "LOG2_ARRAY_BYTE_INDEX_SCALE", type := .int, accessFlags := 25, slot := 3, constantValue := 0 }, { name := "LOG2_ARRAY_CHAR_INDEX_SCALE", type := .int, accessFlags := 25, slot := 4, constantValue := 0 }, { name := "LOG2_ARRAY_SHORT_INDEX_SCALE", type := .int, accessFlags := 25, slot := 5, constantValue := 0 }, { name := "LOG2_ARRAY_INT_INDEX_SCALE", type := .int, accessFlags := 25, slot := 6, constantValue := 0 }, { name := "LOG2_ARRAY_LONG_INDEX_SCALE", type := .int, accessFlags := 25, slot := 7, constantValue := 0 }, { name := "LOG2_ARRAY_FLOAT_INDEX_SCALE", type := .int, accessFlags := 25, slot := 8, constantValue := 0 }, { name := "LOG2_ARRAY_DOUBLE_INDEX_SCALE", type := .int, accessFlags := 25, slot := 9, constantValue := 0 }, { name := "LOG2_BYTE_BIT_SIZE", type := .int, accessFlags := 26, slot := 10, constantValue := 0 }, { name := "T_BOOLEAN", type := .int, accessFlags := 25, slot := 11, constantValue := 0 }, { name := "T_CHAR", type := .int, accessFlags := 25, slot := 12, constantValue := 0 }, { name := "T_FLOAT", type := .int, accessFlags := 25, slot := 13, constantValue := 0 }, { name := "T_DOUBLE", type := .int, accessFlags := 25, slot := 14, constantValue := 0 }, { name := "T_BYTE", type := .int, accessFlags := 25, slot := 15, constantValue := 0 }, { name := "T_SHORT", type := .int, accessFlags := 25, slot := 16, constantValue := 0 }, { name := "T_INT", type := .int, accessFlags := 25, slot := 17, constantValue := 0 }, { name := "T_LONG", type := .int, accessFlags := 25, slot := 18, constantValue := 0 }, { name := "JLA", type := (.object "jdk/internal/access/JavaLangAccess"), accessFlags := 26, slot := 19, constantValue := 0 }, { name := "SOFT_MAX_ARRAY_LENGTH", type := .int, accessFlags := 25, slot := 20, constantValue := 0 }]
  methods := #[k24m0]
  instanceTypes := #[]
  staticTypes := #[(.object "jdk/internal/misc/Unsafe"), .boolean, .int, .int, .int, .int, .int, .int, .int, .int, .int, .int, .int, .int, .int, .int, .int, .int, .int, (.object "jdk/internal/access/JavaLangAccess"), .int]
  resolved := Array.replicate 378 none
  statics := none }

def pool25 : Array CpInfo := pool [(1, u "java/lang/Cloneable"), (0, .class_ 1), (0, u "java/lang/Object"), (0, .class_ 3)] 3

/-- java/lang/Cloneable -/
def k25 : Class := { plain "java/lang/Cloneable" (some 0) with
  accessFlags := 1537
  interfaces := #[]
  cf := some (fileOf pool25 2 #[] #[] 1537 4 #[] #[])
  fields := #[]
  methods := #[]
  instanceTypes := #[]
  staticTypes := #[]
  resolved := Array.replicate 8 none
  statics := none }

/-- the primitive byte -/
def k26 : Class := { plain "byte" none with kind := .primitive 'B', accessFlags := 0x411 }
/-- [B -/
def k27 : Class := { plain "[B" (some 0) with kind := .array 26 .byte, interfaces := #[25, 2], accessFlags := 1041 }

/-- the primitive char -/
def k28 : Class := { plain "char" none with kind := .primitive 'C', accessFlags := 0x411 }
/-- [C -/
def k29 : Class := { plain "[C" (some 0) with kind := .array 28 .char, interfaces := #[25, 2], accessFlags := 1041 }

/-- the primitive int -/
def k30 : Class := { plain "int" none with kind := .primitive 'I', accessFlags := 0x411 }
/-- [I -/
def k31 : Class := { plain "[I" (some 0) with kind := .array 30 .int, interfaces := #[25, 2], accessFlags := 1041 }

def classes0 : Array Class := #[k0, k1, k2, k3, k4, k5, k6, k7, k8, k9, k10, k11, k12, k13, k14, k15, k16, k17, k18, k19, k20, k21, k22, k23, k24, k25, k26, k27, k28, k29, k30, k31]
/-- the class that the rule has made for the site at 3 of com/example/grid_job_scheduler/gridjobscheduler/Keys.requireNotBlank -/
def k32 : Class := Jvm.LamKit.madeRec { classes := classes0 } "com/example/grid_job_scheduler/gridjobscheduler/Keys" (Jvm.Lambda.Shape.mk "java/util/function/Supplier" "get" (Jvm.ClassFile.MethodDescriptor.mk ([] : List Jvm.ClassFile.FieldType) (Option.some (Jvm.ClassFile.FieldType.object "java/lang/Object"))) ([(Jvm.ClassFile.FieldType.object "java/lang/String"), (Jvm.ClassFile.FieldType.object "java/lang/String")] : List Jvm.ClassFile.FieldType) (6 : Nat) "com/example/grid_job_scheduler/gridjobscheduler/Keys" "lambda$requireNotBlank$0" (Jvm.ClassFile.MethodDescriptor.mk ([(Jvm.ClassFile.FieldType.object "java/lang/String"), (Jvm.ClassFile.FieldType.object "java/lang/String")] : List Jvm.ClassFile.FieldType) (Option.some (Jvm.ClassFile.FieldType.object "java/lang/String"))) false (Jvm.ClassFile.MethodDescriptor.mk ([] : List Jvm.ClassFile.FieldType) (Option.some (Jvm.ClassFile.FieldType.object "java/lang/String")))) 32

def heap : Heap := #[{ cls := 7, slots := #[.long 0, .int 1, .null, .int 0, .null, .int 0, .int 0], vm := .statics 7 },
  { cls := 16, slots := #[.null, .null, .ref 4, .ref 5, .null], vm := .statics 16 },
  { cls := 23, slots := #[.null, .null, .null], vm := .statics 23 },
  { cls := 24, slots := #[], vm := .none },
  { cls := 16, slots := #[], vm := .none },
  { cls := 31, slots := #[.int 1207963663, .int 1207963663, .int 1207963663, .int 1207963663, .int 1207963663, .int 1207963663, .int 1207963663, .int 1207963663, .int 1207963663, .int 1476411407, .int 1342193679, .int 1476411407, .int 1610629135, .int 1342193679, .int 1207963663, .int 1207963663, .int 1207963663, .int 1207963663, .int 1207963663, .int 1207963663, .int 1207963663, .int 1207963663, .int 1207963663, .int 1207963663, .int 1207963663, .int 1207963663, .int 1207963663, .int 1207963663, .int 1342193679, .int 1342193679, .int 1342193679, .int 1476411407, .int 1610629132, .int 1744830488, .int 1744830488, .int 671088664, .int 671113242, .int 671088664, .int 1744830488, .int 1744830488, .int (-402653163), .int (-402653162), .int 1744830488, .int 536870937, .int 939524120, .int 536870932, .int 939524120, .int 939524120, .int 402667017, .int 402667017, .int 402667017, .int 402667017, .int 402667017, .int 402667017, .int 402667017, .int 402667017, .int 402667017, .int 402667017, .int 939524120, .int 1744830488, .int (-402653159), .int 1744830489, .int (-402653159), .int 1744830488, .int 1744830488, .int 8552417, .int 8552417, .int 8552417, .int 8552417, .int 8552417, .int 8552417, .int 8552417, .int 8552417, .int 8552417, .int 8552417, .int 8552417, .int 8552417, .int 8552417, .int 8552417, .int 8552417, .int 8552417, .int 8552417, .int 8552417, .int 8552417, .int 8552417, .int 8552417, .int 8552417, .int 8552417, .int 8552417, .int 8552417, .int 8552417, .int (-402653163), .int 1744830488, .int (-402653162), .int 1744830491, .int 1744850967, .int 1744830491, .int 8486882, .int 8486882, .int 8486882, .int 8486882, .int 8486882, .int 8486882, .int 8486882, .int 8486882, .int 8486882, .int 8486882, .int 8486882, .int 8486882, .int 8486882, .int 8486882, .int 8486882, .int 8486882, .int 8486882, .int 8486882, .int 8486882, .int 8486882, .int 8486882, .int 8486882, .int 8486882, .int 8486882, .int 8486882, .int 8486882, .int (-402653163), .int 1744830489, .int (-402653162), .int 1744830489, .int 1207963663, .int 1207963663, .int 1207963663, .int 1207963663, .int 1207963663, .int 1207963663, .int 1342181391, .int 1207963663, .int 1207963663, .int 1207963663, .int 1207963663, .int 1207963663, .int 1207963663, .int 1207963663, .int 1207963663, .int 1207963663, .int 1207963663, .int 1207963663, .int 1207963663, .int 1207963663, .int 1207963663, .int 1207963663, .int 1207963663, .int 1207963663, .int 1207963663, .int 1207963663, .int 1207963663, .int 1207963663, .int 1207963663, .int 1207963663, .int 1207963663, .int 1207963663, .int 1207963663, .int 939524108, .int 1744830488, .int 671113242, .int 671113242, .int 671113242, .int 671113242, .int 1744830492, .int 1744830488, .int 1744830491, .int 1744830492, .int 28677, .int (-402653155), .int 1744830489, .int 1207963664, .int 1744830492, .int 1744830491, .int 671088668, .int 671088665, .int 402654731, .int 402654731, .int 1744830491, .int 134049794, .int 1744830488, .int 1744830488, .int 1744830491, .int 402654475, .int 28677, .int (-402653154), .int 1744832523, .int 1744832523, .int 1744832523, .int 1744830488, .int 8548353, .int 8548353, .int 8548353, .int 8548353, .int 8548353, .int 8548353, .int 8548353, .int 8548353, .int 8548353, .int 8548353, .int 8548353, .int 8548353, .int 8548353, .int 8548353, .int 8548353, .int 8548353, .int 8548353, .int 8548353, .int 8548353, .int 8548353, .int 8548353, .int 8548353, .int 8548353, .int 1744830489, .int 8548353, .int 8548353, .int 8548353, .int 8548353, .int 8548353, .int 8548353, .int 8548353, .int 134049794, .int 8482818, .int 8482818, .int 8482818, .int 8482818, .int 8482818, .int 8482818, .int 8482818, .int 8482818, .int 8482818, .int 8482818, .int 8482818, .int 8482818, .int 8482818, .int 8482818, .int 8482818, .int 8482818, .int 8482818, .int 8482818, .int 8482818, .int 8482818, .int 8482818, .int 8482818, .int 8482818, .int 1744830489, .int 8482818, .int 8482818, .int 8482818, .int 8482818, .int 8482818, .int 8482818, .int 8482818, .int 102592514], vm := .none }]
def classes : Array Class := #[k0, k1, k2, k3, k4, k5, k6, k7, k8, k9, k10, k11, k12, k13, k14, k15, k16, k17, k18, k19, k20, k21, k22, k23, k24, k25, k26, k27, k28, k29, k30, k31, k32]
def interned : List (Array UInt16 × Addr) := []
def slotsUsed : Nat := 271
def theMethod : MethodId := ⟨1, 4⟩
def args0 : Array Value := #[.int 5, .int 6]
def aboutOver (below : List Frame) : State where
  vm := { classes := classes, interned := interned.toArray }
  heap := heap
  slotsUsed := slotsUsed
  threads := #[{ frames := .invoking theMethod args0 :: below }]
def below0 : List Frame := [.native { method := ⟨0, 0⟩, args := #[] }]
def about1 : State := aboutOver below0
def p0 : Program := .bare "" "" ""
def e0 : Env := launch0.env 0 0 0
theorem w_frames : about1.frames = Frame.invoking theMethod args0 :: below0 := rfl
set_option maxRecDepth 65536 in
theorem w_args : argsFit about1.vm theMethod args0 = true := by decide +kernel
set_option maxRecDepth 65536 in
theorem w_heap : heapFits about1 = true := by decide +kernel
set_option maxRecDepth 65536 in
theorem w_runnable : about1.curStatus? = some .runnable := by decide +kernel
set_option maxRecDepth 65536 in
theorem w_alone : about1.alone = true := by decide +kernel
set_option maxRecDepth 65536 in
theorem w_named : about1.methodNamed? x = some theMethod := by decide +kernel
set_option maxRecDepth 65536 in
theorem w_hears : about1.hears theMethod below0 = true := by decide +kernel
set_option maxRecDepth 65536 in
theorem w_ripe : about1.ripe theMethod args0 below0 = true := by decide +kernel
theorem w_running : about1.status = .running := rfl
set_option maxRecDepth 65536 in
theorem w_room : about1.hasRoom e0.platform room_1 = true :=
  launch0.hasRoom_least _ room_1 (by decide +kernel) (by decide +kernel) (by decide +kernel) (by decide +kernel) (by decide +kernel) (by decide +kernel)
theorem allAtoms_all (ts : List Jvm.Cond) (a : Array Jvm.Value) (st : Jvm.State) : (allAtoms ts).before a st = ts.all (fun c => c.before a st) := by
  induction ts with
  | nil => rfl
  | cons c t ih =>
    show (Jvm.Cond.and c (allAtoms t)).before a st = _
    rw [Jvm.Cond.before_and, ih, List.all_cons]
def words1 : List Jvm.Cond := Jvm.Cond.code x code maxLocals ret :: tables_1
/-- a 'code' word, met by the world's own term for the bytes: nothing is compared byte by byte -/
theorem code_word {y : MethodName} {bytes : ByteArray} {mx : Nat} {rt : Option FieldType} {a : Array Value} {s : State} {m : MethodId} {meth : Method} {c : Code} (h1 : s.methodNamed? y = some m) (h2 : s.vm.method? m = some meth) (h3 : meth.code = some c) (h4 : c.code = bytes)
    (h5 : (c.maxLocals == mx && c.exceptionTable.isEmpty && decide (c.maxStack ≤ mostOperands) && decide (meth.sig.returnType = rt) && !meth.locks && decide (parseMethodDescriptor y.desc = some meth.sig)) = true) : (Jvm.Cond.code y bytes mx rt).before a s = true := by
  simp only [Bool.and_eq_true, beq_iff_eq, Bool.not_eq_true', decide_eq_true_eq] at h5
  obtain ⟨⟨⟨⟨⟨g1, g2⟩, g3⟩, g4⟩, g5⟩, g6⟩ := h5
  simp [Cond.before, Cond.holds, Cond.value, h1, h2, h3, h4, g1, g2, g3, g4, g5, g6]
def isCode : Jvm.Cond → Bool
  | .code _ _ _ _ => true
  | _ => false
theorem all_split {L : List Jvm.Cond} {P : Jvm.Cond → Bool} (h1 : L.all (fun c => isCode c || P c) = true) (h2 : ∀ c ∈ L.filter isCode, P c = true) : L.all P = true := by
  refine List.all_eq_true.mpr fun c hc => ?_
  have h := List.all_eq_true.mp h1 c hc
  rcases Bool.eq_false_or_eq_true (isCode c) with hi | hi
  · exact h2 c (List.mem_filter.mpr ⟨hc, hi⟩)
  · simpa [hi] using h
set_option maxRecDepth 65536 in
theorem w_c0 : (Jvm.Cond.code x code maxLocals ret).before args0 about1 = true := code_word (m := ⟨1, 4⟩) (meth := k1m4) (c := k1c4) (by decide +kernel) rfl rfl rfl (by decide +kernel)
set_option maxRecDepth 65536 in
theorem w_c1 : (Jvm.Cond.code ({ cls := "com/example/grid_job_scheduler/gridjobscheduler/TriggerKeyToStringPinLaw", name := "draw", desc := "(I)Ljava/lang/String;" } : Jvm.MethodName) method_3_code (7 : Nat) (Option.some (Jvm.ClassFile.FieldType.object "java/lang/String"))).before args0 about1 = true := code_word (m := ⟨1, 2⟩) (meth := k1m2) (c := k1c2) (by decide +kernel) rfl rfl rfl (by decide +kernel)
set_option maxRecDepth 65536 in
theorem w_c2 : (Jvm.Cond.code ({ cls := "com/example/grid_job_scheduler/gridjobscheduler/TriggerKeyToStringPinLaw", name := "ws", desc := "(C)Z" } : Jvm.MethodName) method_2_code (1 : Nat) (Option.some Jvm.ClassFile.FieldType.boolean)).before args0 about1 = true := code_word (m := ⟨1, 1⟩) (meth := k1m1) (c := k1c1) (by decide +kernel) rfl rfl rfl (by decide +kernel)
set_option maxRecDepth 65536 in
theorem w_c3 : (Jvm.Cond.code ({ cls := "java/lang/String", name := "<init>", desc := "([C)V" } : Jvm.MethodName) jdk_42_method_3_code (2 : Nat) (Option.none : Option Jvm.ClassFile.FieldType)).before args0 about1 = true := code_word (m := ⟨7, 1⟩) (meth := k7m1) (c := k7c1) (by decide +kernel) rfl rfl rfl (by decide +kernel)
set_option maxRecDepth 65536 in
theorem w_c4 : (Jvm.Cond.code ({ cls := "java/lang/String", name := "<init>", desc := "([CIILjava/lang/Void;)V" } : Jvm.MethodName) jdk_42_method_149_code (6 : Nat) (Option.none : Option Jvm.ClassFile.FieldType)).before args0 about1 = true := code_word (m := ⟨7, 8⟩) (meth := k7m8) (c := k7c8) (by decide +kernel) rfl rfl rfl (by decide +kernel)
set_option maxRecDepth 65536 in
theorem w_c5 : (Jvm.Cond.code ({ cls := "java/lang/Object", name := "<init>", desc := "()V" } : Jvm.MethodName) object_method_1_code (1 : Nat) (Option.none : Option Jvm.ClassFile.FieldType)).before args0 about1 = true := code_word (m := ⟨0, 0⟩) (meth := k0m0) (c := k0c0) (by decide +kernel) rfl rfl rfl (by decide +kernel)
set_option maxRecDepth 65536 in
theorem w_c6 : (Jvm.Cond.code ({ cls := "java/lang/StringUTF16", name := "compress", desc := "([CII)[B" } : Jvm.MethodName) jdk_52_method_16_code (6 : Nat) (Option.some (Jvm.ClassFile.FieldType.array Jvm.ClassFile.FieldType.byte))).before args0 about1 = true := code_word (m := ⟨8, 2⟩) (meth := k8m2) (c := k8c2) (by decide +kernel) rfl rfl rfl (by decide +kernel)
set_option maxRecDepth 65536 in
theorem w_c7 : (Jvm.Cond.code ({ cls := "java/lang/StringUTF16", name := "compress", desc := "([CI[BII)I" } : Jvm.MethodName) jdk_52_method_21_code (7 : Nat) (Option.some Jvm.ClassFile.FieldType.int)).before args0 about1 = true := code_word (m := ⟨8, 3⟩) (meth := k8m3) (c := k8c3) (by decide +kernel) rfl rfl rfl (by decide +kernel)
set_option maxRecDepth 65536 in
theorem w_c8 : (Jvm.Cond.code ({ cls := "java/lang/StringUTF16", name := "coderFromArrayLen", desc := "([BI)B" } : Jvm.MethodName) jdk_52_method_15_code (2 : Nat) (Option.some Jvm.ClassFile.FieldType.byte)).before args0 about1 = true := code_word (m := ⟨8, 1⟩) (meth := k8m1) (c := k8c1) (by decide +kernel) rfl rfl rfl (by decide +kernel)
set_option maxRecDepth 65536 in
theorem w_c9 : (Jvm.Cond.code ({ cls := "com/example/grid_job_scheduler/gridjobscheduler/TriggerKey", name := "<init>", desc := "(Ljava/lang/String;Ljava/lang/String;)V" } : Jvm.MethodName) prog_39_method_1_code (3 : Nat) (Option.none : Option Jvm.ClassFile.FieldType)).before args0 about1 = true := code_word (m := ⟨10, 0⟩) (meth := k10m0) (c := k10c0) (by decide +kernel) rfl rfl rfl (by decide +kernel)
set_option maxRecDepth 65536 in
theorem w_c10 : (Jvm.Cond.code ({ cls := "java/lang/Record", name := "<init>", desc := "()V" } : Jvm.MethodName) jdk_30_method_1_code (1 : Nat) (Option.none : Option Jvm.ClassFile.FieldType)).before args0 about1 = true := code_word (m := ⟨9, 0⟩) (meth := k9m0) (c := k9c0) (by decide +kernel) rfl rfl rfl (by decide +kernel)
set_option maxRecDepth 65536 in
theorem w_c11 : (Jvm.Cond.code ({ cls := "com/example/grid_job_scheduler/gridjobscheduler/Keys", name := "requireGroupAndName", desc := "(Ljava/lang/String;Ljava/lang/String;Ljava/lang/String;)V" } : Jvm.MethodName) prog_20_method_2_code (3 : Nat) (Option.none : Option Jvm.ClassFile.FieldType)).before args0 about1 = true := code_word (m := ⟨11, 1⟩) (meth := k11m1) (c := k11c1) (by decide +kernel) rfl rfl rfl (by decide +kernel)
set_option maxRecDepth 65536 in
theorem w_c12 : (Jvm.Cond.code ({ cls := "com/example/grid_job_scheduler/gridjobscheduler/Keys", name := "requireNotBlank", desc := "(Ljava/lang/String;Ljava/lang/String;Ljava/lang/String;)V" } : Jvm.MethodName) prog_20_method_3_code (3 : Nat) (Option.none : Option Jvm.ClassFile.FieldType)).before args0 about1 = true := code_word (m := ⟨11, 2⟩) (meth := k11m2) (c := k11c2) (by decide +kernel) rfl rfl rfl (by decide +kernel)
set_option maxRecDepth 65536 in
theorem w_c13 : (Jvm.Cond.code ({ cls := "java/util/Objects", name := "requireNonNull", desc := "(Ljava/lang/Object;Ljava/util/function/Supplier;)Ljava/lang/Object;" } : Jvm.MethodName) jdk_31_method_16_code (2 : Nat) (Option.some (Jvm.ClassFile.FieldType.object "java/lang/Object"))).before args0 about1 = true := code_word (m := ⟨13, 1⟩) (meth := k13m1) (c := k13c1) (by decide +kernel) rfl rfl rfl (by decide +kernel)
set_option maxRecDepth 65536 in
theorem w_c14 : (Jvm.Cond.code ({ cls := "java/lang/String", name := "isBlank", desc := "()Z" } : Jvm.MethodName) jdk_42_method_117_code (1 : Nat) (Option.some Jvm.ClassFile.FieldType.boolean)).before args0 about1 = true := code_word (m := ⟨7, 5⟩) (meth := k7m5) (c := k7c5) (by decide +kernel) rfl rfl rfl (by decide +kernel)
set_option maxRecDepth 65536 in
theorem w_c15 : (Jvm.Cond.code ({ cls := "java/lang/String", name := "indexOfNonWhitespace", desc := "()I" } : Jvm.MethodName) jdk_42_method_120_code (1 : Nat) (Option.some Jvm.ClassFile.FieldType.int)).before args0 about1 = true := code_word (m := ⟨7, 6⟩) (meth := k7m6) (c := k7c6) (by decide +kernel) rfl rfl rfl (by decide +kernel)
set_option maxRecDepth 65536 in
theorem w_c16 : (Jvm.Cond.code ({ cls := "java/lang/String", name := "isLatin1", desc := "()Z" } : Jvm.MethodName) jdk_42_method_154_code (1 : Nat) (Option.some Jvm.ClassFile.FieldType.boolean)).before args0 about1 = true := code_word (m := ⟨7, 11⟩) (meth := k7m11) (c := k7c11) (by decide +kernel) rfl rfl rfl (by decide +kernel)
set_option maxRecDepth 65536 in
theorem w_c17 : (Jvm.Cond.code ({ cls := "java/lang/StringLatin1", name := "indexOfNonWhitespace", desc := "([B)I" } : Jvm.MethodName) jdk_43_method_37_code (4 : Nat) (Option.some Jvm.ClassFile.FieldType.int)).before args0 about1 = true := code_word (m := ⟨14, 2⟩) (meth := k14m2) (c := k14c2) (by decide +kernel) rfl rfl rfl (by decide +kernel)
set_option maxRecDepth 65536 in
theorem w_c18 : (Jvm.Cond.code ({ cls := "java/lang/StringLatin1", name := "getChar", desc := "([BI)C" } : Jvm.MethodName) jdk_43_method_44_code (2 : Nat) (Option.some Jvm.ClassFile.FieldType.char)).before args0 about1 = true := code_word (m := ⟨14, 3⟩) (meth := k14m3) (c := k14c3) (by decide +kernel) rfl rfl rfl (by decide +kernel)
set_option maxRecDepth 65536 in
theorem w_c19 : (Jvm.Cond.code ({ cls := "java/lang/CharacterDataLatin1", name := "isWhitespace", desc := "(I)Z" } : Jvm.MethodName) jdk_116_method_26_code (3 : Nat) (Option.some Jvm.ClassFile.FieldType.boolean)).before args0 about1 = true := code_word (m := ⟨16, 1⟩) (meth := k16m1) (c := k16c1) (by decide +kernel) rfl rfl rfl (by decide +kernel)
set_option maxRecDepth 65536 in
theorem w_c20 : (Jvm.Cond.code ({ cls := "java/lang/CharacterDataLatin1", name := "getProperties", desc := "(I)I" } : Jvm.MethodName) jdk_116_method_1_code (4 : Nat) (Option.some Jvm.ClassFile.FieldType.int)).before args0 about1 = true := code_word (m := ⟨16, 0⟩) (meth := k16m0) (c := k16c0) (by decide +kernel) rfl rfl rfl (by decide +kernel)
set_option maxRecDepth 65536 in
theorem w_c21 : (Jvm.Cond.code ({ cls := "java/lang/String", name := "length", desc := "()I" } : Jvm.MethodName) jdk_42_method_54_code (1 : Nat) (Option.some Jvm.ClassFile.FieldType.int)).before args0 about1 = true := code_word (m := ⟨7, 3⟩) (meth := k7m3) (c := k7c3) (by decide +kernel) rfl rfl rfl (by decide +kernel)
set_option maxRecDepth 65536 in
theorem w_c22 : (Jvm.Cond.code ({ cls := "java/lang/String", name := "coder", desc := "()B" } : Jvm.MethodName) jdk_42_method_152_code (1 : Nat) (Option.some Jvm.ClassFile.FieldType.byte)).before args0 about1 = true := code_word (m := ⟨7, 10⟩) (meth := k7m10) (c := k7c10) (by decide +kernel) rfl rfl rfl (by decide +kernel)
set_option maxRecDepth 65536 in
theorem w_c23 : (Jvm.Cond.code ({ cls := "com/example/grid_job_scheduler/gridjobscheduler/TriggerKey", name := "toString", desc := "()Ljava/lang/String;" } : Jvm.MethodName) prog_39_method_3_code (1 : Nat) (Option.some (Jvm.ClassFile.FieldType.object "java/lang/String"))).before args0 about1 = true := code_word (m := ⟨10, 1⟩) (meth := k10m1) (c := k10c1) (by decide +kernel) rfl rfl rfl (by decide +kernel)
set_option maxRecDepth 65536 in
theorem w_c24 : (Jvm.Cond.code ({ cls := "com/example/grid_job_scheduler/gridjobscheduler/Keys", name := "toString", desc := "(Ljava/lang/String;Ljava/lang/String;)Ljava/lang/String;" } : Jvm.MethodName) prog_20_method_4_code (2 : Nat) (Option.some (Jvm.ClassFile.FieldType.object "java/lang/String"))).before args0 about1 = true := code_word (m := ⟨11, 3⟩) (meth := k11m3) (c := k11c3) (by decide +kernel) rfl rfl rfl (by decide +kernel)
set_option maxRecDepth 65536 in
theorem w_c25 : (Jvm.Cond.code ({ cls := "java/lang/StringBuilder", name := "<init>", desc := "()V" } : Jvm.MethodName) jdk_67_method_1_code (1 : Nat) (Option.none : Option Jvm.ClassFile.FieldType)).before args0 about1 = true := code_word (m := ⟨19, 0⟩) (meth := k19m0) (c := k19c0) (by decide +kernel) rfl rfl rfl (by decide +kernel)
set_option maxRecDepth 65536 in
theorem w_c26 : (Jvm.Cond.code ({ cls := "java/lang/AbstractStringBuilder", name := "<init>", desc := "(I)V" } : Jvm.MethodName) jdk_68_method_2_code (2 : Nat) (Option.none : Option Jvm.ClassFile.FieldType)).before args0 about1 = true := code_word (m := ⟨18, 1⟩) (meth := k18m1) (c := k18c1) (by decide +kernel) rfl rfl rfl (by decide +kernel)
set_option maxRecDepth 65536 in
theorem w_c27 : (Jvm.Cond.code ({ cls := "java/lang/StringBuilder", name := "append", desc := "(Ljava/lang/String;)Ljava/lang/StringBuilder;" } : Jvm.MethodName) jdk_67_method_7_code (2 : Nat) (Option.some (Jvm.ClassFile.FieldType.object "java/lang/StringBuilder"))).before args0 about1 = true := code_word (m := ⟨19, 1⟩) (meth := k19m1) (c := k19c1) (by decide +kernel) rfl rfl rfl (by decide +kernel)
set_option maxRecDepth 65536 in
theorem w_c28 : (Jvm.Cond.code ({ cls := "java/lang/AbstractStringBuilder", name := "append", desc := "(Ljava/lang/String;)Ljava/lang/AbstractStringBuilder;" } : Jvm.MethodName) jdk_68_method_22_code (3 : Nat) (Option.some (Jvm.ClassFile.FieldType.object "java/lang/AbstractStringBuilder"))).before args0 about1 = true := code_word (m := ⟨18, 4⟩) (meth := k18m4) (c := k18c4) (by decide +kernel) rfl rfl rfl (by decide +kernel)
set_option maxRecDepth 65536 in
theorem w_c29 : (Jvm.Cond.code ({ cls := "java/lang/AbstractStringBuilder", name := "ensureCapacityInternal", desc := "(I)V" } : Jvm.MethodName) jdk_68_method_9_code (3 : Nat) (Option.none : Option Jvm.ClassFile.FieldType)).before args0 about1 = true := code_word (m := ⟨18, 3⟩) (meth := k18m3) (c := k18c3) (by decide +kernel) rfl rfl rfl (by decide +kernel)
set_option maxRecDepth 65536 in
theorem w_c30 : (Jvm.Cond.code ({ cls := "java/lang/AbstractStringBuilder", name := "putStringAt", desc := "(ILjava/lang/String;)V" } : Jvm.MethodName) jdk_68_method_73_code (3 : Nat) (Option.none : Option Jvm.ClassFile.FieldType)).before args0 about1 = true := code_word (m := ⟨18, 8⟩) (meth := k18m8) (c := k18c8) (by decide +kernel) rfl rfl rfl (by decide +kernel)
set_option maxRecDepth 65536 in
theorem w_c31 : (Jvm.Cond.code ({ cls := "java/lang/AbstractStringBuilder", name := "inflateIfNeededFor", desc := "(Ljava/lang/String;)V" } : Jvm.MethodName) jdk_68_method_71_code (2 : Nat) (Option.none : Option Jvm.ClassFile.FieldType)).before args0 about1 = true := code_word (m := ⟨18, 7⟩) (meth := k18m7) (c := k18c7) (by decide +kernel) rfl rfl rfl (by decide +kernel)
set_option maxRecDepth 65536 in
theorem w_c32 : (Jvm.Cond.code ({ cls := "java/lang/String", name := "getBytes", desc := "([BIB)V" } : Jvm.MethodName) jdk_42_method_147_code (4 : Nat) (Option.none : Option Jvm.ClassFile.FieldType)).before args0 about1 = true := code_word (m := ⟨7, 7⟩) (meth := k7m7) (c := k7c7) (by decide +kernel) rfl rfl rfl (by decide +kernel)
set_option maxRecDepth 65536 in
theorem w_c33 : (Jvm.Cond.code ({ cls := "java/lang/StringBuilder", name := "toString", desc := "()Ljava/lang/String;" } : Jvm.MethodName) jdk_67_method_42_code (1 : Nat) (Option.some (Jvm.ClassFile.FieldType.object "java/lang/String"))).before args0 about1 = true := code_word (m := ⟨19, 2⟩) (meth := k19m2) (c := k19c2) (by decide +kernel) rfl rfl rfl (by decide +kernel)
set_option maxRecDepth 65536 in
theorem w_c34 : (Jvm.Cond.code ({ cls := "java/lang/String", name := "<init>", desc := "(Ljava/lang/StringBuilder;)V" } : Jvm.MethodName) jdk_42_method_53_code (2 : Nat) (Option.none : Option Jvm.ClassFile.FieldType)).before args0 about1 = true := code_word (m := ⟨7, 2⟩) (meth := k7m2) (c := k7c2) (by decide +kernel) rfl rfl rfl (by decide +kernel)
set_option maxRecDepth 65536 in
theorem w_c35 : (Jvm.Cond.code ({ cls := "java/lang/String", name := "<init>", desc := "(Ljava/lang/AbstractStringBuilder;Ljava/lang/Void;)V" } : Jvm.MethodName) jdk_42_method_150_code (5 : Nat) (Option.none : Option Jvm.ClassFile.FieldType)).before args0 about1 = true := code_word (m := ⟨7, 9⟩) (meth := k7m9) (c := k7c9) (by decide +kernel) rfl rfl rfl (by decide +kernel)
set_option maxRecDepth 65536 in
theorem w_c36 : (Jvm.Cond.code ({ cls := "java/lang/AbstractStringBuilder", name := "getValue", desc := "()[B" } : Jvm.MethodName) jdk_68_method_64_code (1 : Nat) (Option.some (Jvm.ClassFile.FieldType.array Jvm.ClassFile.FieldType.byte))).before args0 about1 = true := code_word (m := ⟨18, 5⟩) (meth := k18m5) (c := k18c5) (by decide +kernel) rfl rfl rfl (by decide +kernel)
set_option maxRecDepth 65536 in
theorem w_c37 : (Jvm.Cond.code ({ cls := "java/lang/StringBuilder", name := "length", desc := "()I" } : Jvm.MethodName) jdk_67_method_93_code (1 : Nat) (Option.some Jvm.ClassFile.FieldType.int)).before args0 about1 = true := code_word (m := ⟨19, 3⟩) (meth := k19m3) (c := k19c3) (by decide +kernel) rfl rfl rfl (by decide +kernel)
set_option maxRecDepth 65536 in
theorem w_c38 : (Jvm.Cond.code ({ cls := "java/lang/AbstractStringBuilder", name := "length", desc := "()I" } : Jvm.MethodName) jdk_68_method_6_code (1 : Nat) (Option.some Jvm.ClassFile.FieldType.int)).before args0 about1 = true := code_word (m := ⟨18, 2⟩) (meth := k18m2) (c := k18c2) (by decide +kernel) rfl rfl rfl (by decide +kernel)
set_option maxRecDepth 65536 in
theorem w_c39 : (Jvm.Cond.code ({ cls := "java/lang/AbstractStringBuilder", name := "isLatin1", desc := "()Z" } : Jvm.MethodName) jdk_68_method_68_code (1 : Nat) (Option.some Jvm.ClassFile.FieldType.boolean)).before args0 about1 = true := code_word (m := ⟨18, 6⟩) (meth := k18m6) (c := k18c6) (by decide +kernel) rfl rfl rfl (by decide +kernel)
set_option maxRecDepth 65536 in
theorem w_c40 : (Jvm.Cond.code ({ cls := "java/util/Arrays", name := "copyOfRange", desc := "([BII)[B" } : Jvm.MethodName) jdk_65_method_132_code (3 : Nat) (Option.some (Jvm.ClassFile.FieldType.array Jvm.ClassFile.FieldType.byte))).before args0 about1 = true := code_word (m := ⟨21, 2⟩) (meth := k21m2) (c := k21c2) (by decide +kernel) rfl rfl rfl (by decide +kernel)
set_option maxRecDepth 65536 in
theorem w_c41 : (Jvm.Cond.code ({ cls := "java/util/Arrays", name := "copyOfRangeByte", desc := "([BII)[B" } : Jvm.MethodName) jdk_65_method_133_code (5 : Nat) (Option.some (Jvm.ClassFile.FieldType.array Jvm.ClassFile.FieldType.byte))).before args0 about1 = true := code_word (m := ⟨21, 3⟩) (meth := k21m3) (c := k21c3) (by decide +kernel) rfl rfl rfl (by decide +kernel)
set_option maxRecDepth 65536 in
theorem w_c42 : (Jvm.Cond.code ({ cls := "java/util/Arrays", name := "checkLength", desc := "(II)V" } : Jvm.MethodName) jdk_65_method_131_code (2 : Nat) (Option.none : Option Jvm.ClassFile.FieldType)).before args0 about1 = true := code_word (m := ⟨21, 1⟩) (meth := k21m1) (c := k21c1) (by decide +kernel) rfl rfl rfl (by decide +kernel)
set_option maxRecDepth 65536 in
theorem w_c43 : (Jvm.Cond.code ({ cls := "java/lang/Math", name := "min", desc := "(II)I" } : Jvm.MethodName) jdk_29_method_69_code (2 : Nat) (Option.some Jvm.ClassFile.FieldType.int)).before args0 about1 = true := code_word (m := ⟨22, 1⟩) (meth := k22m1) (c := k22c1) (by decide +kernel) rfl rfl rfl (by decide +kernel)
set_option maxRecDepth 65536 in
theorem w_c44 : (Jvm.Cond.code ({ cls := "com/example/grid_job_scheduler/gridjobscheduler/TriggerKeyToStringPinLaw", name := "posOk", desc := "(Ljava/lang/String;ILjava/lang/String;Ljava/lang/String;)Z" } : Jvm.MethodName) method_4_code (6 : Nat) (Option.some Jvm.ClassFile.FieldType.boolean)).before args0 about1 = true := code_word (m := ⟨1, 3⟩) (meth := k1m3) (c := k1c3) (by decide +kernel) rfl rfl rfl (by decide +kernel)
set_option maxRecDepth 65536 in
theorem w_c45 : (Jvm.Cond.code ({ cls := "java/lang/String", name := "charAt", desc := "(I)C" } : Jvm.MethodName) jdk_42_method_56_code (2 : Nat) (Option.some Jvm.ClassFile.FieldType.char)).before args0 about1 = true := code_word (m := ⟨7, 4⟩) (meth := k7m4) (c := k7c4) (by decide +kernel) rfl rfl rfl (by decide +kernel)
set_option maxRecDepth 65536 in
theorem w_c46 : (Jvm.Cond.code ({ cls := "java/lang/StringLatin1", name := "charAt", desc := "([BI)C" } : Jvm.MethodName) jdk_43_method_2_code (2 : Nat) (Option.some Jvm.ClassFile.FieldType.char)).before args0 about1 = true := code_word (m := ⟨14, 1⟩) (meth := k14m1) (c := k14c1) (by decide +kernel) rfl rfl rfl (by decide +kernel)
set_option maxRecDepth 65536 in
theorem w_c47 : (Jvm.Cond.code ({ cls := "java/lang/String", name := "checkIndex", desc := "(II)V" } : Jvm.MethodName) jdk_42_method_155_code (2 : Nat) (Option.none : Option Jvm.ClassFile.FieldType)).before args0 about1 = true := code_word (m := ⟨7, 12⟩) (meth := k7m12) (c := k7c12) (by decide +kernel) rfl rfl rfl (by decide +kernel)
set_option maxRecDepth 65536 in
theorem w_c48 : (Jvm.Cond.code ({ cls := "jdk/internal/util/Preconditions", name := "checkIndex", desc := "(IILjava/util/function/BiFunction;)I" } : Jvm.MethodName) jdk_41_method_11_code (3 : Nat) (Option.some Jvm.ClassFile.FieldType.int)).before args0 about1 = true := code_word (m := ⟨23, 1⟩) (meth := k23m1) (c := k23c1) (by decide +kernel) rfl rfl rfl (by decide +kernel)
def codes1 : List Jvm.Cond := [Jvm.Cond.code x code maxLocals ret, Jvm.Cond.code ({ cls := "com/example/grid_job_scheduler/gridjobscheduler/TriggerKeyToStringPinLaw", name := "draw", desc := "(I)Ljava/lang/String;" } : Jvm.MethodName) method_3_code (7 : Nat) (Option.some (Jvm.ClassFile.FieldType.object "java/lang/String")), Jvm.Cond.code ({ cls := "com/example/grid_job_scheduler/gridjobscheduler/TriggerKeyToStringPinLaw", name := "ws", desc := "(C)Z" } : Jvm.MethodName) method_2_code (1 : Nat) (Option.some Jvm.ClassFile.FieldType.boolean), Jvm.Cond.code ({ cls := "java/lang/String", name := "<init>", desc := "([C)V" } : Jvm.MethodName) jdk_42_method_3_code (2 : Nat) (Option.none : Option Jvm.ClassFile.FieldType), Jvm.Cond.code ({ cls := "java/lang/String", name := "<init>", desc := "([CIILjava/lang/Void;)V" } : Jvm.MethodName) jdk_42_method_149_code (6 : Nat) (Option.none : Option Jvm.ClassFile.FieldType), Jvm.Cond.code ({ cls := "java/lang/Object", name := "<init>", desc := "()V" } : Jvm.MethodName) object_method_1_code (1 : Nat) (Option.none : Option Jvm.ClassFile.FieldType), Jvm.Cond.code ({ cls := "java/lang/StringUTF16", name := "compress", desc := "([CII)[B" } : Jvm.MethodName) jdk_52_method_16_code (6 : Nat) (Option.some (Jvm.ClassFile.FieldType.array Jvm.ClassFile.FieldType.byte)), Jvm.Cond.code ({ cls := "java/lang/StringUTF16", name := "compress", desc := "([CI[BII)I" } : Jvm.MethodName) jdk_52_method_21_code (7 : Nat) (Option.some Jvm.ClassFile.FieldType.int), Jvm.Cond.code ({ cls := "java/lang/StringUTF16", name := "coderFromArrayLen", desc := "([BI)B" } : Jvm.MethodName) jdk_52_method_15_code (2 : Nat) (Option.some Jvm.ClassFile.FieldType.byte), Jvm.Cond.code ({ cls := "com/example/grid_job_scheduler/gridjobscheduler/TriggerKey", name := "<init>", desc := "(Ljava/lang/String;Ljava/lang/String;)V" } : Jvm.MethodName) prog_39_method_1_code (3 : Nat) (Option.none : Option Jvm.ClassFile.FieldType), Jvm.Cond.code ({ cls := "java/lang/Record", name := "<init>", desc := "()V" } : Jvm.MethodName) jdk_30_method_1_code (1 : Nat) (Option.none : Option Jvm.ClassFile.FieldType), Jvm.Cond.code ({ cls := "com/example/grid_job_scheduler/gridjobscheduler/Keys", name := "requireGroupAndName", desc := "(Ljava/lang/String;Ljava/lang/String;Ljava/lang/String;)V" } : Jvm.MethodName) prog_20_method_2_code (3 : Nat) (Option.none : Option Jvm.ClassFile.FieldType), Jvm.Cond.code ({ cls := "com/example/grid_job_scheduler/gridjobscheduler/Keys", name := "requireNotBlank", desc := "(Ljava/lang/String;Ljava/lang/String;Ljava/lang/String;)V" } : Jvm.MethodName) prog_20_method_3_code (3 : Nat) (Option.none : Option Jvm.ClassFile.FieldType), Jvm.Cond.code ({ cls := "java/util/Objects", name := "requireNonNull", desc := "(Ljava/lang/Object;Ljava/util/function/Supplier;)Ljava/lang/Object;" } : Jvm.MethodName) jdk_31_method_16_code (2 : Nat) (Option.some (Jvm.ClassFile.FieldType.object "java/lang/Object")), Jvm.Cond.code ({ cls := "java/lang/String", name := "isBlank", desc := "()Z" } : Jvm.MethodName) jdk_42_method_117_code (1 : Nat) (Option.some Jvm.ClassFile.FieldType.boolean), Jvm.Cond.code ({ cls := "java/lang/String", name := "indexOfNonWhitespace", desc := "()I" } : Jvm.MethodName) jdk_42_method_120_code (1 : Nat) (Option.some Jvm.ClassFile.FieldType.int), Jvm.Cond.code ({ cls := "java/lang/String", name := "isLatin1", desc := "()Z" } : Jvm.MethodName) jdk_42_method_154_code (1 : Nat) (Option.some Jvm.ClassFile.FieldType.boolean), Jvm.Cond.code ({ cls := "java/lang/StringLatin1", name := "indexOfNonWhitespace", desc := "([B)I" } : Jvm.MethodName) jdk_43_method_37_code (4 : Nat) (Option.some Jvm.ClassFile.FieldType.int), Jvm.Cond.code ({ cls := "java/lang/StringLatin1", name := "getChar", desc := "([BI)C" } : Jvm.MethodName) jdk_43_method_44_code (2 : Nat) (Option.some Jvm.ClassFile.FieldType.char), Jvm.Cond.code ({ cls := "java/lang/CharacterDataLatin1", name := "isWhitespace", desc := "(I)Z" } : Jvm.MethodName) jdk_116_method_26_code (3 : Nat) (Option.some Jvm.ClassFile.FieldType.boolean), Jvm.Cond.code ({ cls := "java/lang/CharacterDataLatin1", name := "getProperties", desc := "(I)I" } : Jvm.MethodName) jdk_116_method_1_code (4 : Nat) (Option.some Jvm.ClassFile.FieldType.int), Jvm.Cond.code ({ cls := "java/lang/String", name := "length", desc := "()I" } : Jvm.MethodName) jdk_42_method_54_code (1 : Nat) (Option.some Jvm.ClassFile.FieldType.int), Jvm.Cond.code ({ cls := "java/lang/String", name := "coder", desc := "()B" } : Jvm.MethodName) jdk_42_method_152_code (1 : Nat) (Option.some Jvm.ClassFile.FieldType.byte), Jvm.Cond.code ({ cls := "com/example/grid_job_scheduler/gridjobscheduler/TriggerKey", name := "toString", desc := "()Ljava/lang/String;" } : Jvm.MethodName) prog_39_method_3_code (1 : Nat) (Option.some (Jvm.ClassFile.FieldType.object "java/lang/String")), Jvm.Cond.code ({ cls := "com/example/grid_job_scheduler/gridjobscheduler/Keys", name := "toString", desc := "(Ljava/lang/String;Ljava/lang/String;)Ljava/lang/String;" } : Jvm.MethodName) prog_20_method_4_code (2 : Nat) (Option.some (Jvm.ClassFile.FieldType.object "java/lang/String")), Jvm.Cond.code ({ cls := "java/lang/StringBuilder", name := "<init>", desc := "()V" } : Jvm.MethodName) jdk_67_method_1_code (1 : Nat) (Option.none : Option Jvm.ClassFile.FieldType), Jvm.Cond.code ({ cls := "java/lang/AbstractStringBuilder", name := "<init>", desc := "(I)V" } : Jvm.MethodName) jdk_68_method_2_code (2 : Nat) (Option.none : Option Jvm.ClassFile.FieldType), Jvm.Cond.code ({ cls := "java/lang/StringBuilder", name := "append", desc := "(Ljava/lang/String;)Ljava/lang/StringBuilder;" } : Jvm.MethodName) jdk_67_method_7_code (2 : Nat) (Option.some (Jvm.ClassFile.FieldType.object "java/lang/StringBuilder")), Jvm.Cond.code ({ cls := "java/lang/AbstractStringBuilder", name := "append", desc := "(Ljava/lang/String;)Ljava/lang/AbstractStringBuilder;" } : Jvm.MethodName) jdk_68_method_22_code (3 : Nat) (Option.some (Jvm.ClassFile.FieldType.object "java/lang/AbstractStringBuilder")), Jvm.Cond.code ({ cls := "java/lang/AbstractStringBuilder", name := "ensureCapacityInternal", desc := "(I)V" } : Jvm.MethodName) jdk_68_method_9_code (3 : Nat) (Option.none : Option Jvm.ClassFile.FieldType), Jvm.Cond.code ({ cls := "java/lang/AbstractStringBuilder", name := "putStringAt", desc := "(ILjava/lang/String;)V" } : Jvm.MethodName) jdk_68_method_73_code (3 : Nat) (Option.none : Option Jvm.ClassFile.FieldType), Jvm.Cond.code ({ cls := "java/lang/AbstractStringBuilder", name := "inflateIfNeededFor", desc := "(Ljava/lang/String;)V" } : Jvm.MethodName) jdk_68_method_71_code (2 : Nat) (Option.none : Option Jvm.ClassFile.FieldType), Jvm.Cond.code ({ cls := "java/lang/String", name := "getBytes", desc := "([BIB)V" } : Jvm.MethodName) jdk_42_method_147_code (4 : Nat) (Option.none : Option Jvm.ClassFile.FieldType), Jvm.Cond.code ({ cls := "java/lang/StringBuilder", name := "toString", desc := "()Ljava/lang/String;" } : Jvm.MethodName) jdk_67_method_42_code (1 : Nat) (Option.some (Jvm.ClassFile.FieldType.object "java/lang/String")), Jvm.Cond.code ({ cls := "java/lang/String", name := "<init>", desc := "(Ljava/lang/StringBuilder;)V" } : Jvm.MethodName) jdk_42_method_53_code (2 : Nat) (Option.none : Option Jvm.ClassFile.FieldType), Jvm.Cond.code ({ cls := "java/lang/String", name := "<init>", desc := "(Ljava/lang/AbstractStringBuilder;Ljava/lang/Void;)V" } : Jvm.MethodName) jdk_42_method_150_code (5 : Nat) (Option.none : Option Jvm.ClassFile.FieldType), Jvm.Cond.code ({ cls := "java/lang/AbstractStringBuilder", name := "getValue", desc := "()[B" } : Jvm.MethodName) jdk_68_method_64_code (1 : Nat) (Option.some (Jvm.ClassFile.FieldType.array Jvm.ClassFile.FieldType.byte)), Jvm.Cond.code ({ cls := "java/lang/StringBuilder", name := "length", desc := "()I" } : Jvm.MethodName) jdk_67_method_93_code (1 : Nat) (Option.some Jvm.ClassFile.FieldType.int), Jvm.Cond.code ({ cls := "java/lang/AbstractStringBuilder", name := "length", desc := "()I" } : Jvm.MethodName) jdk_68_method_6_code (1 : Nat) (Option.some Jvm.ClassFile.FieldType.int), Jvm.Cond.code ({ cls := "java/lang/AbstractStringBuilder", name := "isLatin1", desc := "()Z" } : Jvm.MethodName) jdk_68_method_68_code (1 : Nat) (Option.some Jvm.ClassFile.FieldType.boolean), Jvm.Cond.code ({ cls := "java/util/Arrays", name := "copyOfRange", desc := "([BII)[B" } : Jvm.MethodName) jdk_65_method_132_code (3 : Nat) (Option.some (Jvm.ClassFile.FieldType.array Jvm.ClassFile.FieldType.byte)), Jvm.Cond.code ({ cls := "java/util/Arrays", name := "copyOfRangeByte", desc := "([BII)[B" } : Jvm.MethodName) jdk_65_method_133_code (5 : Nat) (Option.some (Jvm.ClassFile.FieldType.array Jvm.ClassFile.FieldType.byte)), Jvm.Cond.code ({ cls := "java/util/Arrays", name := "checkLength", desc := "(II)V" } : Jvm.MethodName) jdk_65_method_131_code (2 : Nat) (Option.none : Option Jvm.ClassFile.FieldType), Jvm.Cond.code ({ cls := "java/lang/Math", name := "min", desc := "(II)I" } : Jvm.MethodName) jdk_29_method_69_code (2 : Nat) (Option.some Jvm.ClassFile.FieldType.int), Jvm.Cond.code ({ cls := "com/example/grid_job_scheduler/gridjobscheduler/TriggerKeyToStringPinLaw", name := "posOk", desc := "(Ljava/lang/String;ILjava/lang/String;Ljava/lang/String;)Z" } : Jvm.MethodName) method_4_code (6 : Nat) (Option.some Jvm.ClassFile.FieldType.boolean), Jvm.Cond.code ({ cls := "java/lang/String", name := "charAt", desc := "(I)C" } : Jvm.MethodName) jdk_42_method_56_code (2 : Nat) (Option.some Jvm.ClassFile.FieldType.char), Jvm.Cond.code ({ cls := "java/lang/StringLatin1", name := "charAt", desc := "([BI)C" } : Jvm.MethodName) jdk_43_method_2_code (2 : Nat) (Option.some Jvm.ClassFile.FieldType.char), Jvm.Cond.code ({ cls := "java/lang/String", name := "checkIndex", desc := "(II)V" } : Jvm.MethodName) jdk_42_method_155_code (2 : Nat) (Option.none : Option Jvm.ClassFile.FieldType), Jvm.Cond.code ({ cls := "jdk/internal/util/Preconditions", name := "checkIndex", desc := "(IILjava/util/function/BiFunction;)I" } : Jvm.MethodName) jdk_41_method_11_code (3 : Nat) (Option.some Jvm.ClassFile.FieldType.int)]
set_option maxRecDepth 65536 in
theorem codes_eq : words1.filter isCode = codes1 := rfl
theorem w_codes : ∀ c ∈ words1.filter isCode, c.before args0 about1 = true := by
  rw [codes_eq]
  intro c hc
  simp only [codes1, List.mem_cons, List.not_mem_nil, or_false] at hc
  rcases hc with rfl | rfl | rfl | rfl | rfl | rfl | rfl | rfl | rfl | rfl | rfl | rfl | rfl | rfl | rfl | rfl | rfl | rfl | rfl | rfl | rfl | rfl | rfl | rfl | rfl | rfl | rfl | rfl | rfl | rfl | rfl | rfl | rfl | rfl | rfl | rfl | rfl | rfl | rfl | rfl | rfl | rfl | rfl | rfl | rfl | rfl | rfl | rfl | rfl
  · exact w_c0
  · exact w_c1
  · exact w_c2
  · exact w_c3
  · exact w_c4
  · exact w_c5
  · exact w_c6
  · exact w_c7
  · exact w_c8
  · exact w_c9
  · exact w_c10
  · exact w_c11
  · exact w_c12
  · exact w_c13
  · exact w_c14
  · exact w_c15
  · exact w_c16
  · exact w_c17
  · exact w_c18
  · exact w_c19
  · exact w_c20
  · exact w_c21
  · exact w_c22
  · exact w_c23
  · exact w_c24
  · exact w_c25
  · exact w_c26
  · exact w_c27
  · exact w_c28
  · exact w_c29
  · exact w_c30
  · exact w_c31
  · exact w_c32
  · exact w_c33
  · exact w_c34
  · exact w_c35
  · exact w_c36
  · exact w_c37
  · exact w_c38
  · exact w_c39
  · exact w_c40
  · exact w_c41
  · exact w_c42
  · exact w_c43
  · exact w_c44
  · exact w_c45
  · exact w_c46
  · exact w_c47
  · exact w_c48
set_option maxRecDepth 65536 in
theorem w_t1 : (words1.take 24).all (fun c => isCode c || c.before args0 about1) = true := by decide +kernel
set_option maxRecDepth 65536 in
theorem w_t2 : ((words1.drop 24).take 24).all (fun c => isCode c || c.before args0 about1) = true := by decide +kernel
set_option maxRecDepth 65536 in
theorem w_t3 : (((words1.drop 24).drop 24).take 24).all (fun c => isCode c || c.before args0 about1) = true := by decide +kernel
set_option maxRecDepth 65536 in
theorem w_t4 : ((((words1.drop 24).drop 24).drop 24).take 24).all (fun c => isCode c || c.before args0 about1) = true := by decide +kernel
set_option maxRecDepth 65536 in
theorem w_t5 : (((((words1.drop 24).drop 24).drop 24).drop 24).take 24).all (fun c => isCode c || c.before args0 about1) = true := by decide +kernel
set_option maxRecDepth 65536 in
theorem w_t6 : ((((((words1.drop 24).drop 24).drop 24).drop 24).drop 24).take 24).all (fun c => isCode c || c.before args0 about1) = true := by decide +kernel
set_option maxRecDepth 65536 in
theorem w_t7 : (((((((words1.drop 24).drop 24).drop 24).drop 24).drop 24).drop 24).take 24).all (fun c => isCode c || c.before args0 about1) = true := by decide +kernel
set_option maxRecDepth 65536 in
theorem w_t8 : ((((((((words1.drop 24).drop 24).drop 24).drop 24).drop 24).drop 24).drop 24).take 24).all (fun c => isCode c || c.before args0 about1) = true := by decide +kernel
set_option maxRecDepth 65536 in
theorem w_t9 : (((((((((words1.drop 24).drop 24).drop 24).drop 24).drop 24).drop 24).drop 24).drop 24).take 24).all (fun c => isCode c || c.before args0 about1) = true := by decide +kernel
set_option maxRecDepth 65536 in
theorem w_t10 : ((((((((((words1.drop 24).drop 24).drop 24).drop 24).drop 24).drop 24).drop 24).drop 24).drop 24).take 24).all (fun c => isCode c || c.before args0 about1) = true := by decide +kernel
set_option maxRecDepth 65536 in
theorem w_t11 : ((((((((((words1.drop 24).drop 24).drop 24).drop 24).drop 24).drop 24).drop 24).drop 24).drop 24).drop 24).all (fun c => isCode c || c.before args0 about1) = true := by decide +kernel
theorem w_tables : (allAtoms (Jvm.Cond.code x code maxLocals ret :: tables_1)).before args0 about1 = true := by
  rw [allAtoms_all]
  show words1.all (fun c => c.before args0 about1) = true
  refine all_split ?_ w_codes
  rw [← List.take_append_drop 24 words1, List.all_append, w_t1, ← List.take_append_drop 24 (words1.drop 24), List.all_append, w_t2, ← List.take_append_drop 24 ((words1.drop 24).drop 24), List.all_append, w_t3, ← List.take_append_drop 24 (((words1.drop 24).drop 24).drop 24), List.all_append, w_t4, ← List.take_append_drop 24 ((((words1.drop 24).drop 24).drop 24).drop 24), List.all_append, w_t5, ← List.take_append_drop 24 (((((words1.drop 24).drop 24).drop 24).drop 24).drop 24), List.all_append, w_t6, ← List.take_append_drop 24 ((((((words1.drop 24).drop 24).drop 24).drop 24).drop 24).drop 24), List.all_append, w_t7, ← List.take_append_drop 24 (((((((words1.drop 24).drop 24).drop 24).drop 24).drop 24).drop 24).drop 24), List.all_append, w_t8, ← List.take_append_drop 24 ((((((((words1.drop 24).drop 24).drop 24).drop 24).drop 24).drop 24).drop 24).drop 24), List.all_append, w_t9, ← List.take_append_drop 24 (((((((((words1.drop 24).drop 24).drop 24).drop 24).drop 24).drop 24).drop 24).drop 24).drop 24), List.all_append, w_t10, w_t11]
  rfl
set_option maxRecDepth 65536 in
theorem w_rest : rest_1_c.before args0 about1 = true := by decide +kernel
set_option maxRecDepth 65536 in
theorem w_case : (Jvm.Cond.and given_1 narrow_1).before args0 about1 = true := by decide +kernel
set_option maxRecDepth 65536 in
theorem w_consts : constsHeld consts_1 about1 := Jvm.Lit.constsHeldB_iff.mp (by decide +kernel)
theorem w_applies : (headSpec (Jvm.Cond.code x code maxLocals ret :: tables_1) room_1).applies x e0.platform about1 = true :=
  (Spec.applies_iff w_frames).mpr ⟨w_running, w_runnable, w_alone, w_named, w_hears, w_ripe, w_room, w_tables⟩
theorem atStart : AtStart classFile x code maxLocals ret World_1 tables_1 room_1 Calls_1 rest_1 Pre_1 launch0 p0 e0 about1 theMethod args0 below0 :=
  ⟨lists_1, trivial, launch0.admits_env _ _ _, launch0.least_env, fairChoices_fair.cas, fairChoices_fair.clock, w_frames, w_args, w_heap, w_applies, ⟨w_consts, trivial⟩, w_rest, w_case⟩
end start1
theorem witness_1 : WitnessClaimed_1 := ⟨start1.p0, start1.e0, start1.about1, start1.theMethod, start1.args0, start1.below0, start1.atStart⟩
end Jvm.Pilot.@@N@@
