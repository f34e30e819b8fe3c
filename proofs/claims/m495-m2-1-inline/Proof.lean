import JvmDerived
import JvmDerived.Pilot.@@N@@Statement
import JvmDerived.Pilot.@@N@@Code
set_option linter.unusedVariables false
set_option linter.unusedSimpArgs false
@@BLOCK:LamKit.lean.txt@@

namespace Jvm.Pilot.@@N@@
open Jvm Jvm.ClassFile Sem Op Lib Jvm.Free Jvm.Stand Jvm.LawKit Jvm.RoadKit Bundle Jvm.Pilot.@@N@@.Jvm.D

theorem own_onn {i : Nat} (h : i < 2147483648) : ¬ Int32.ofNat i < 0 := by
  rw [Int32.lt_iff_toInt_lt, Int32.toInt_ofNat_small h, Int32.toInt_zero]; omega
theorem own_oi {i : Nat} (h : i < 2147483648) : (Int32.ofNat i).toNatClampNeg = i := by
  have q := nat_of (own_onn h)
  rw [Int32.toInt_ofNat_small h] at q; omega

def litCs : List (String × Nat × String) := [("com/example/grid_job_scheduler/gridjobscheduler/JobKey", 9, "job key"), ("com/example/grid_job_scheduler/gridjobscheduler/Keys", 7, "group"), ("com/example/grid_job_scheduler/gridjobscheduler/Keys", 15, "name"), ("com/example/grid_job_scheduler/gridjobscheduler/Keys", 53, ".")]
theorem lit0_in : ("com/example/grid_job_scheduler/gridjobscheduler/JobKey", 9, "job key") ∈ litCs := List.mem_of_getElem? (i := 0) rfl
theorem lit0_one : ∀ q ∈ litCs, q.2.2 = "job key" → q = ("com/example/grid_job_scheduler/gridjobscheduler/JobKey", 9, "job key") := by decide +kernel
theorem lit0_lat : ∀ c ∈ "job key".toList, c.toNat < 256 := by decide +kernel
theorem lit0_len : "job key".toList.length < 2147483648 := by decide +kernel
theorem lit0_sz : 4 * "job key".toList.length ≤ 28 := by decide +kernel
theorem lit1_in : ("com/example/grid_job_scheduler/gridjobscheduler/Keys", 7, "group") ∈ litCs := List.mem_of_getElem? (i := 1) rfl
theorem lit1_one : ∀ q ∈ litCs, q.2.2 = "group" → q = ("com/example/grid_job_scheduler/gridjobscheduler/Keys", 7, "group") := by decide +kernel
theorem lit1_lat : ∀ c ∈ "group".toList, c.toNat < 256 := by decide +kernel
theorem lit1_len : "group".toList.length < 2147483648 := by decide +kernel
theorem lit1_sz : 4 * "group".toList.length ≤ 20 := by decide +kernel
theorem lit2_in : ("com/example/grid_job_scheduler/gridjobscheduler/Keys", 15, "name") ∈ litCs := List.mem_of_getElem? (i := 2) rfl
theorem lit2_one : ∀ q ∈ litCs, q.2.2 = "name" → q = ("com/example/grid_job_scheduler/gridjobscheduler/Keys", 15, "name") := by decide +kernel
theorem lit2_lat : ∀ c ∈ "name".toList, c.toNat < 256 := by decide +kernel
theorem lit2_len : "name".toList.length < 2147483648 := by decide +kernel
theorem lit2_sz : 4 * "name".toList.length ≤ 16 := by decide +kernel
theorem lit3_in : ("com/example/grid_job_scheduler/gridjobscheduler/Keys", 53, ".") ∈ litCs := List.mem_of_getElem? (i := 3) rfl
theorem lit3_one : ∀ q ∈ litCs, q.2.2 = "." → q = ("com/example/grid_job_scheduler/gridjobscheduler/Keys", 53, ".") := by decide +kernel
theorem lit3_lat : ∀ c ∈ ".".toList, c.toNat < 256 := by decide +kernel
theorem lit3_len : ".".toList.length < 2147483648 := by decide +kernel
theorem lit3_sz : 4 * ".".toList.length ≤ 4 := by decide +kernel

section OwnLit
/-- the bytes of a literal's text -/
def litI (text : String) : List Int32 := text.toList.map fun c => Jvm.Lit.byteI c.toNat.toUInt16
def litB (text : String) : List Value := (litI text).map Value.int
theorem litI_len (text : String) : (litI text).length = text.toList.length := List.length_map ..
theorem litB_eq (text : String) : litB text = text.toList.map fun c => Value.int (Jvm.Lit.byteI c.toNat.toUInt16) := List.map_map ..
/-- the String at a says the text, her bytes lie at t -/
def Says (Z : State) (h : Heap) (a t : Addr) (k : ClassId) (text : String) : Prop :=
  Exa Z h a "java/lang/String" ∧ Fld Z h a "java/lang/String" "coder" "B" (.int 0) ∧ Fld Z h a "java/lang/String" "value" "[B" (.ref t) ∧ Arv Z h t k .byte (Int32.ofNat (litI text).length) ((litI text).map Value.int) (.int 0)
theorem Says.ext {Z : State} {h h' : Heap} {a t : Addr} {k : ClassId} {text : String} (S : Says Z h a t k text) (E : Ext h h') : Says Z h' a t k text := ⟨S.1.ext E, S.2.1.ext E, S.2.2.1.ext E, S.2.2.2.ext E⟩
theorem Says.other {Z : State} {h h' : Heap} {a t x : Addr} {k : ClassId} {text : String} {sl : Nat} {v : Value} (S : Says Z h a t k text) (W : Wr h h' x sl v) (q1 : a ≠ x) (q2 : t ≠ x) : Says Z h' a t k text := ⟨S.1.wr W, S.2.1.other W (Or.inl q1), S.2.2.1.other W (Or.inl q1), S.2.2.2.other W q2⟩
theorem Says.keep {Z : State} {h h' : Heap} {a t : Addr} {ws : List Addr} {k : ClassId} {text : String} (S : Says Z h a t k text) (K : Keep h h' ws) (q1 : a ∉ ws) (q2 : t ∉ ws) : Says Z h' a t k text := ⟨S.1.keep K, S.2.1.keep K q1, S.2.2.1.keep K q1, S.2.2.2.keep K q2⟩
/-- what the case assumes of the literals: whatever the JVM holds already says its text; compact strings are on -/
def LH (Z : State) : Prop := (∀ q ∈ litCs, Jvm.Lit.constHeld Z q.1 q.2.1) ∧ ∀ a0, Jvm.Lit.compactW.before a0 Z = true
/-- what holds of the literals all along: those loaded since the start are booked, say their texts, and lie apart from ms, the objects that are still written -/
def Hd (Z : State) (ms : List Addr) (vm : Vm) (h : Heap) : Prop :=
  LH Z ∧ Ext Z.heap h ∧ (∀ x ∈ ms, Z.heap.size ≤ x ∧ x < h.size) ∧ ∃ Ts, IB Z vm Ts ∧ ∀ q ∈ litCs, q.2.2 ∉ Ts ∨ ∃ a t k, Lit (Z.setVm vm) q.1 q.2.1 a ∧ Says Z h a t k q.2.2 ∧ a ∉ ms ∧ t ∉ ms
theorem Hd.start {Z : State} (A : LH Z) : Hd Z [] Z.vm Z.heap := ⟨A, ⟨Nat.le_refl _, fun _ _ q => q⟩, fun x hx => (nomatch hx), [], IB.start, fun q hq => Or.inl (fun z => (nomatch z))⟩
variable {Z b : State} {ms ms' ws : List Addr} {h h' : Heap} {vm vm' : Vm} {x : Addr} {sl : Nat} {v : Value}
theorem Hd.warm (J : Hd Z ms b.vm h) (q : b.WarmedH vm') : Hd Z ms vm' h := by
  obtain ⟨A, E, M, Ts, ⟨more, e, hm⟩, L⟩ := J
  refine ⟨A, E, M, Ts, ⟨more, q.interned_eq.trans e, hm⟩, fun c hc => (L c hc).imp id fun ⟨a, t, k, l, r⟩ => ⟨a, t, k, ?_, r⟩⟩
  exact State.resolvedAt?_warmed39 (s := b) q.wide l
theorem Hd.ext (J : Hd Z ms vm h) (E' : Ext h h') : Hd Z ms vm h' := by
  obtain ⟨A, E, M, Ts, I, L⟩ := J
  exact ⟨A, ⟨Nat.le_trans E.1 E'.1, fun a c q => E'.2 a c (E.2 a c q)⟩, fun y hy => ⟨(M y hy).1, Nat.lt_of_lt_of_le (M y hy).2 E'.1⟩, Ts, I, fun c hc => (L c hc).imp id fun ⟨a, t, k, l, s, r⟩ => ⟨a, t, k, l, s.ext E', r⟩⟩
theorem Hd.add (J : Hd Z ms vm h) (E' : Ext h h') (q : x = h.size) (q' : x < h'.size) : Hd Z (x :: ms) vm h' := by
  obtain ⟨A, E, M, Ts, I, L⟩ := J
  refine ⟨A, ⟨Nat.le_trans E.1 E'.1, fun a c r => E'.2 a c (E.2 a c r)⟩, fun y hy => ?_, Ts, I, fun c hc => (L c hc).imp id fun ⟨a, t, k, l, s, r1, r2⟩ => ⟨a, t, k, l, s.ext E', ?_, ?_⟩⟩
  · rcases List.mem_cons.mp hy with rfl | hy
    · exact ⟨q ▸ E.1, q'⟩
    · exact ⟨(M y hy).1, Nat.lt_of_lt_of_le (M y hy).2 E'.1⟩
  · exact ninS (fun z => absurd s.1.lt (by rw [z, q]; exact Nat.lt_irrefl _)) r1
  · exact ninS (fun z => absurd s.2.2.2.lt (by rw [z, q]; exact Nat.lt_irrefl _)) r2
theorem Hd.keep (J : Hd Z ms vm h) (K : Keep h h' ws) (q : ∀ x ∈ ws, x ∈ ms) : Hd Z ms vm h' := by
  obtain ⟨A, E, M, Ts, I, L⟩ := J
  refine ⟨A, ⟨Nat.le_trans E.1 K.1, fun a c r => K.2.1 a c (E.2 a c r) fun z => ?_⟩, fun y hy => ⟨(M y hy).1, Nat.lt_of_lt_of_le (M y hy).2 K.1⟩, Ts, I, fun c hc => (L c hc).imp id fun ⟨a, t, k, l, s, r1, r2⟩ => ⟨a, t, k, l, s.keep K (fun z => r1 (q _ z)) (fun z => r2 (q _ z)), r1, r2⟩⟩
  exact absurd (Array.getElem?_eq_some_iff.mp r).1 (Nat.not_lt.mpr (M _ (q _ z)).1)
theorem Hd.wr (J : Hd Z ms vm h) (W : Wr h h' x sl v) (q : x ∈ ms) : Hd Z ms vm h' := J.keep (Keep.of_wr W) (fun y hy => by cases List.mem_singleton.mp hy; exact q)
theorem Hd.sub (J : Hd Z ms vm h) (q : ∀ x ∈ ms', x ∈ ms) : Hd Z ms' vm h := by
  obtain ⟨A, E, M, Ts, I, L⟩ := J
  exact ⟨A, E, fun y hy => M y (q y hy), Ts, I, fun c hc => (L c hc).imp id fun ⟨a, t, k, l, s, r1, r2⟩ => ⟨a, t, k, l, s, fun z => r1 (q _ z), fun z => r2 (q _ z)⟩⟩
theorem Hd.nms {t : Addr} (J : Hd Z ms vm h) (q : h.size ≤ t) : t ∉ ms := fun z => absurd (J.2.2.1 t z).2 (Nat.not_lt.mpr q)
/-- what the law of the cold load hands out, said of the start's tables -/
theorem slin_says {T' : State} {lo hi : Nat} {a : Addr} {units : Array UInt16} {text : String} (hal : Z.vm.Alike T'.vm) (hin : SlIn lo hi T' a units) (htext : utf16ToString? units = some text) (hl : ∀ c ∈ text.toList, c.toNat < 256) (hsz : text.toList.length < 2147483648) :
    ∃ t k, Says Z T'.heap a t k text ∧ ((a < lo ∧ t < lo) ∨ (hi ≤ a ∧ hi ≤ t)) := by
  obtain ⟨q, cS, rfl, ⟨⟨s1, s2, s3, ⟨cv, kv, iv, s4, s4'⟩, ⟨cc, kc, ic, s5, s5'⟩, s6, s7, s8, s9, s10, ⟨t1, t2, t3, t4, t5⟩, s12, s13, s14, s15, s16⟩, fS, eS⟩, ⟨kS, k1, k2, k3⟩, fB, hby, hloc⟩ := hin
  obtain ⟨kv', z4⟩ := ff_back hal s4
  obtain ⟨kc', z5⟩ := ff_back hal s5
  have fZ : Z.vm.findClass "java/lang/String" = some q.sC.cls := by rw [← hal.findClass, eS]; exact fS
  obtain ⟨kz, hz, -⟩ := Vm.findClass_spec fZ
  obtain ⟨kz', hz', ez⟩ := hal.2.2 _ _ hz
  have e1 : kz' = kS := Option.some.inj (hz'.symm.trans (eS ▸ k1))
  have bZ : Z.vm.findClass "[B" = some q.SA.cls := by rw [← hal.findClass]; exact fB
  obtain ⟨kb, hb, -⟩ := Vm.findClass_spec bZ
  obtain ⟨kb', hb', eb⟩ := hal.2.2 _ _ hb
  have e2 : t2 = kb' := Option.some.inj (t3.symm.trans hb')
  have hA : Z.isArrayOf q.SA .byte := ⟨t1, kb, hb, t4, by rw [e2, eb] at t5; exact t5⟩
  have hu := Jvm.ClassFile.units_of_text htext hl
  have hlat := Jvm.ClassFile.lat_of_text htext hl
  have hsl : q.SA.slots = units.map fun u => Value.int (Jvm.Lit.byteI u) := by rw [hby, Jvm.Free.SBG.stringBytes_lat hlat]; rfl
  have hlb : litB text = units.toList.map fun u => Value.int (Jvm.Lit.byteI u) := by rw [hu, litB_eq, List.map_map]; rfl
  have hn : q.SA.slots.size = text.toList.length := by
    have r := congrArg List.length hu
    rw [hsl, Array.size_map]; simpa using r
  have H : Has q.SA (litB text) (.int 0) := fun j hj => by
    have hj' : j < units.size := by rw [hsl, Array.size_map] at hj; exact hj
    rw [hsl, hlb]; simp [hj']
  refine ⟨q.sd, q.SA.cls, ⟨⟨q.sC, kz, s1, fZ, hz, s3, fun _ => by rw [k3, ← e1, ez]⟩, ⟨q.sC, cc, kc', ic, q.fSC, s1, z5, s7, s2, s3, by rw [← hal.assignable]; exact s5', s9⟩, ⟨q.sC, cv, kv', iv, q.fSV, s1, z4, s6, s2, s3, by rw [← hal.assignable]; exact s4', s8⟩,
    ⟨q.SA, ⟨s10, hA, s12⟩, rfl, by rw [hn, litI_len, own_oi hsz], by rw [litI_len]; exact own_onn hsz, H, fun j hj => ?_⟩⟩, hloc⟩
  have r1 := s16 j hj
  rw [Jvm.Free.SBG.getD_of (H j hj)] at r1
  exact r1
end OwnLit

section OwnKit
variable {p : Program} {l : Launch} {e : Env} {R : Room} {s b : State} {m : MethodId} {args : Array Value} {below : List Frame} {meth : Method} {c : Code} {T T' : State} {locs : List Loc} {cells slots : Nat} {Z : State} {a0 : Array Value} {h h' : Heap} {K N : Nat} {Q : Option Value → Vm → Heap → List Loc → Prop} {g g' : JFrame} {ms : List Addr}
/-- from the frame g over T the body comes to its end, and there Q holds (the end in the wide sense: literals may have been loaded) -/
def Go (p : Program) (e : Env) (s : State) (below : List Frame) (K N : Nat) (J : Vm → Heap → Prop) (Q : Option Value → Vm → Heap → List Loc → Prop) (T : State) (g : JFrame) : Prop :=
  ∃ s₂ o, Steps p.tables e below (T.setTop g) s₂ ∧ s₂.status = .running ∧ Ended s₂ below o ∧ ∃ v L, o = .returned v ∧ Q v s₂.vm s₂.heap L ∧ J s₂.vm s₂.heap ∧ ReturnedEndW s o s₂ L K N
theorem Go.of {J : Vm → Heap → Prop} (st : ∀ t, Steps p.tables e below (T'.setTop g') t → Steps p.tables e below (T.setTop g) t) (q : Go p e s below K N J Q T' g') : Go p e s below K N J Q T g := by
  obtain ⟨s2, o, h1, r⟩ := q
  exact ⟨s2, o, st _ h1, r⟩
theorem own_go0 {J : Vm → Heap → Prop} {as' : Array Value} {n : Nat} {ls : Array Slot} (q : argsToLocals as' n = ls) (r : Go p e s below K N J Q T (mkF m 0 ls [])) : Go p e s below K N J Q T (entryFrame m as' n) := by subst q; exact r
/-- two roads meet again: what comes behind is proved once -/
theorem Go.join {J : Vm → Heap → Prop} {α : Type} (P : α → Prop) (f : α → JFrame) (A : ∀ x, P x → Go p e s below K N J Q T (f x)) (C : (∀ x, P x → Go p e s below K N J Q T (f x)) → Go p e s below K N J Q T g) : Go p e s below K N J Q T g := C A
/-- the tables at hand: b is the start s with warmer tables, their new pairs booked below the heap's size -/
def Bs (s b : State) (h : Heap) : Prop := ∃ vm k, b = s.setVm vm ∧ s.Since vm k ∧ k ≤ h.size
theorem Bs.start (s : State) (h : Heap) : Bs s s h := ⟨s.vm, 0, rfl, (State.WarmedH.refl s).since 0, Nat.zero_le _⟩
theorem Bs.mono (B : Bs s b h) (q : h.size ≤ h'.size) : Bs s b h' := by
  obtain ⟨vm, k, e, hS, hk⟩ := B
  exact ⟨vm, k, e, hS, Nat.le_trans hk q⟩
theorem rend_mono {t : State} {o : Outcome} {L : List Loc} {k n k' n' : Nat} (q : ReturnedEndW s o t L k n) (hk : k ≤ k') (hn : n ≤ n') : ReturnedEndW s o t L k' n' := ⟨q.1, q.2.1, q.2.2.1, q.2.2.2.mono hk hn⟩
theorem own_retI (X : Stand p l e R s m args below meth c T locs cells slots) (hx : p.tables.exec = Jvm.exec) {pc : Nat} {Ls : Array Slot} {z : Int32} {rest : List Value} (hret : meth.sig.returnType = some .int) (hd : decode c.code pc = .ok (.ireturn, 1)) {fs : List Frame}
    (hl : ∀ (f : JFrame) (acts : List Action), f.method = m → f.locked = none → f.entered = [] → (doReturn e (T.setTop f) acts (some (.int z))).1 = T.setFrames fs) : Steps p.tables e below (T.setTop (mkF m pc Ls (.int z :: rest))) (T.setFrames fs) := by
  have hm' : T.vm.method? m = some meth := X.method'
  have hn : narrow .int (.int z) = .int z := rfl
  show Steps p.tables e below (T.setTop { method := m, pc := pc, locals := Ls, stack := _ :: rest, locked := none }) _
  jvm_step X.here [X.here.top, hx, hd, hm', hret, hn]
  first | (intro acts; rw [hl _ acts rfl rfl rfl]) | rw [hl _ _ rfl rfl rfl]
  exact Steps.refl _
theorem Go.retI (X : Stand p l e R b m args below meth c T locs cells slots) (hx : p.tables.exec = Jvm.exec) (hlk : meth.locks = false) (B : Bs s b h) (J : Hd Z ms b.vm h) (eT : T.heap = h) {pc : Nat} {Ls : Array Slot} {z : Int32} {rest : List Value} (hret : meth.sig.returnType = some .int) (hd : decode c.code pc = .ok (.ireturn, 1)) (hK : cells ≤ K) (hN : slots ≤ N)
    (hQ : ∀ vm, b.WarmedH vm → Q (some (.int z)) vm h locs) : Go p e s below K N (Hd Z ms) Q T (mkF m pc Ls (.int z :: rest)) := by
  obtain ⟨vm, k, rfl, hS, hk⟩ := B
  subst eT
  obtain ⟨fs, hr, hrun, hended, hW⟩ := X.leaveW hS hk (v := some (.int z)) (fun q => by rw [hret] at q; cases q) hlk
  exact ⟨_, _, own_retI X hx hret hd hr, hrun, hended, _, _, rfl, hQ _ X.warmed, J.warm X.warmed, rend_mono hW hK hN⟩
theorem Go.retN (X : Stand p l e R b m args below meth c T locs cells slots) (hx : p.tables.exec = Jvm.exec) (hlk : meth.locks = false) (B : Bs s b h) (J : Hd Z ms b.vm h) (eT : T.heap = h) {pc : Nat} {Ls : Array Slot} {z z' : Int32} {t : FieldType} {rest : List Value} (hret : meth.sig.returnType = some t) (ht : t = .boolean ∨ t = .byte ∨ t = .char ∨ t = .short) (hd : decode c.code pc = .ok (.ireturn, 1)) (hz : nar t z = z') (hK : cells ≤ K) (hN : slots ≤ N)
    (hQ : ∀ vm, b.WarmedH vm → Q (some (.int z')) vm h locs) : Go p e s below K N (Hd Z ms) Q T (mkF m pc Ls (.int z :: rest)) := by
  obtain ⟨vm, k, rfl, hS, hk⟩ := B
  subst eT hz
  obtain ⟨fs, hr, hrun, hended, hW⟩ := X.leaveW hS hk (v := some (.int (nar t z))) (fun q => by rw [hret] at q; cases q) hlk
  exact ⟨_, _, Jvm.RoadKit.retN X hx hret ht hd hr, hrun, hended, _, _, rfl, hQ _ X.warmed, J.warm X.warmed, rend_mono hW hK hN⟩
theorem Go.retA (X : Stand p l e R b m args below meth c T locs cells slots) (hx : p.tables.exec = Jvm.exec) (hlk : meth.locks = false) (B : Bs s b h) (J : Hd Z ms b.vm h) (eT : T.heap = h) {pc : Nat} {Ls : Array Slot} {w : Value} {t : FieldType} {rest : List Value} (hret : meth.sig.returnType = some t) (ht : t.isReference = true) (hw : w.isRef = true) (hd : decode c.code pc = .ok (.areturn, 1)) (hK : cells ≤ K) (hN : slots ≤ N)
    (hQ : ∀ vm, b.WarmedH vm → Q (some w) vm h locs) : Go p e s below K N (Hd Z ms) Q T (mkF m pc Ls (w :: rest)) := by
  obtain ⟨vm, k, rfl, hS, hk⟩ := B
  subst eT
  obtain ⟨fs, hr, hrun, hended, hW⟩ := X.leaveW hS hk (v := some w) (fun q => by rw [hret] at q; cases q) hlk
  have hn : narrow t w = w := by
    cases t <;> first | (cases ht; done) | (cases w <;> first | rfl | (cases hw; done))
  exact ⟨_, _, retOut X hx hret hn (Or.inr (Or.inr (Or.inr (Or.inr ⟨rfl, ht, hw⟩)))) hd hr, hrun, hended, _, _, rfl, hQ _ X.warmed, J.warm X.warmed, rend_mono hW hK hN⟩
theorem Go.retV (X : Stand p l e R b m args below meth c T locs cells slots) (hx : p.tables.exec = Jvm.exec) (hlk : meth.locks = false) (B : Bs s b h) (J : Hd Z ms b.vm h) (eT : T.heap = h) {pc : Nat} {Ls : Array Slot} (hret : meth.sig.returnType = none) (hd : decode c.code pc = .ok (.return_, 1)) (hK : cells ≤ K) (hN : slots ≤ N)
    (hQ : ∀ vm, b.WarmedH vm → Q none vm h locs) : Go p e s below K N (Hd Z ms) Q T (mkF m pc Ls []) := by
  obtain ⟨vm, k, rfl, hS, hk⟩ := B
  subst eT
  obtain ⟨fs, hr, hrun, hended, hW⟩ := X.leaveW hS hk (v := none) (fun _ => rfl) hlk
  exact ⟨_, _, X.returnOut hx hret hd hr, hrun, hended, _, _, rfl, hQ _ X.warmed, J.warm X.warmed, rend_mono hW hK hN⟩
/-- a body's contract in this family -/
def Con (l : Launch) (Z : State) (ms : List Addr) (y : MethodName) (bytes : ByteArray) (maxL : Nat) (ret : Option FieldType) (ws : List Jvm.Cond) (rm : Room) (as' : Array Value) (h : Heap) (Q : Option Value → Vm → Heap → List Loc → Prop) : Prop :=
  MetFree l y (head1 (Jvm.Cond.code y bytes maxL ret :: ws) rm) (fun a U => a = as' ∧ Z.Warmed39 U.vm ∧ U.heap = h ∧ Hd Z ms U.vm U.heap) (fun _ _ _ _ _ => True) (fun _ U o U' => ∃ v L, o = .returned v ∧ Q v U'.vm U'.heap L ∧ Hd Z ms U'.vm U'.heap ∧ ReturnedEndW U o U' L rm.cells rm.slots)
/-- what a walk knows of the body that it walks -/
def Cx (Z : State) (p : Program) (b : State) (m : MethodId) (meth : Method) (c : Code) (own : String) (bytes : ByteArray) (ml : Nat) (nm : String) (rt : Option FieldType) : Prop :=
  p.tables.exec = Jvm.exec ∧ Z.Warmed39 b.vm ∧ b.vm.findClass own = some m.cls ∧ c.code = bytes ∧ c.maxLocals = ml ∧ meth.name = nm ∧ meth.sig.returnType = rt ∧ meth.locks = false
theorem Con.mk {y : MethodName} {bytes : ByteArray} {maxL : Nat} {ret : Option FieldType} {ws : List Jvm.Cond} {rm : Room} {as' : Array Value} (hp : plainFor y = true)
    (body : ∀ p e s m below meth c s₁, Cx Z p s m meth c y.cls bytes maxL y.name ret → Stand p l e rm s m as' below meth c s₁ [] 0 0 → s₁.heap = h → s.heap = h → Hd Z ms s.vm h → Bs s s h → s.methodNamed? y = some m → Go p e s below rm.cells rm.slots (Hd Z ms) Q s₁ (entryFrame m as' maxL)) : Con l Z ms y bytes maxL ret ws rm as' h Q := by
  refine MetFree.of_bodySF hp hisR ?_
  intro p e s m args below meth c s₁ Bd hml0 hP hK
  obtain ⟨rfl, hZ, hh, hJ⟩ := hP
  exact body p e s m below meth c s₁ ⟨Bd.exec, hZ, findClass_of_methodNamed Bd.named, Bd.bytes, hml0, (name_of_methodNamed Bd.named Bd.method).1, Bd.returns, Bd.notSynchronized⟩ (Stand.of_body Bd) (by rw [← hh, Bd.state]; rfl) hh (hh ▸ hJ) (Bs.start s h) Bd.named
section Calls
variable {y : MethodName} {bytes mybytes : ByteArray} {maxL ml : Nat} {ret rt : Option FieldType} {rm : Room} {own nm : String} {index W : Nat} {argsL rest : List Value} {Q' : Option Value → Vm → Heap → List Loc → Prop}
/-- two roads meet again behind calls that leave the heap as it was -/
theorem Go.joinC {Jq : Vm → Heap → Prop} {α : Type} {n : Nat} (Cc : Cx Z p b m meth c own mybytes ml nm rt) (X : Stand p l e R b m args below meth c T locs cells slots) (hJ : Hd Z ms b.vm h) (hN : Fr n locs) (P : α → Prop) (f : α → JFrame)
    (A : ∀ x b' T' locs', Cx Z p b' m meth c own mybytes ml nm rt → Stand p l e R b' m args below meth c T' locs' cells slots → T'.heap = h → Bs s b' h → Hd Z ms b'.vm h → Fr n locs' → P x → Go p e s below K N Jq Q T' (f x))
    (C : (∀ x b' T' locs', Cx Z p b' m meth c own mybytes ml nm rt → Stand p l e R b' m args below meth c T' locs' cells slots → T'.heap = h → Bs s b' h → Hd Z ms b'.vm h → Fr n locs' → P x → Go p e s below K N Jq Q T' (f x)) → Go p e s below K N Jq Q T g) : Go p e s below K N Jq Q T g := C A
/-- what a call leaves: the tables at hand may be others -/
def Called (Z : State) (ms : List Addr) (p : Program) (l : Launch) (e : Env) (R : Room) (s : State) (m : MethodId) (args : Array Value) (below : List Frame) (meth : Method) (c : Code) (own : String) (mybytes : ByteArray) (ml : Nat) (nm : String) (rt : Option FieldType) (locs : List Loc) (cells slots : Nat) (h : Heap) (Q' : Option Value → Vm → Heap → List Loc → Prop) (T : State) (g : JFrame) (len : Nat) (rest : List Value) : Prop :=
  ∃ v b' T' h' L, T'.heap = h' ∧ Cx Z p b' m meth c own mybytes ml nm rt ∧ Stand p l e R b' m args below meth c T' (locs ++ L) cells slots ∧ Bs s b' h' ∧ Hd Z ms b'.vm h' ∧ h.size ≤ h'.size ∧ Q' v b'.vm h' L ∧ ∀ t, Steps p.tables e below (T'.setTop { g with pc := g.pc + len, stack := v.toList ++ rest }) t → Steps p.tables e below (T.setTop g) t
theorem own_back {as' : Array Value} {len : Nat} (hM : Con l Z ms y bytes maxL ret [] rm as' h Q') (hZ : Z.Warmed39 b.vm) (J : Hd Z ms b.vm h) (wc : (Jvm.Cond.code y bytes maxL ret).before a0 Z = true) (wz : (Jvm.Cond.initialized y.cls).before a0 Z = true) (hf : rm.frames + 1 ≤ R.frames) (hl : W + (maxL + 11) + rm.locals ≤ R.locals) :
    BackS l R p e below b args y len W (fun A a => a = as' ∧ A.U.heap = h ∧ A.cells + rm.cells ≤ R.cells ∧ A.slots + rm.slots ≤ R.slots)
      (fun A _ v B => ∃ L, (Q' v B.U.vm B.U.heap L ∧ Hd Z ms B.U.vm B.U.heap) ∧ B.locs = A.locs ++ L ∧ B.cells = A.cells + rm.cells ∧ B.slots = A.slots + rm.slots) :=
  BackS.of_freeW (bytes := bytes) (maxL := maxL) (ret := ret) (E := fun _ _ o t L k n => k = rm.cells ∧ n = rm.slots ∧ ∃ v, o = .returned v ∧ Q' v t.vm t.heap L ∧ Hd Z ms t.vm t.heap) hM hf hl
    (fun m meth c A a Y hp => have hU : Z.Warmed39 A.U.vm := wtrans hZ Y.warmed
      ⟨by show (Jvm.Cond.and _ .tt).before a A.U = true; rw [Cond.before_and, mv hU wc]; rfl, mv hU wc, mv hU wz, hp.2.2.1, hp.2.2.2⟩)
    (fun m meth c A a g mk Y hp => ⟨hp.1, wtrans hZ Y.warmed, hp.2.1, by show Hd Z ms A.U.vm A.U.heap; rw [hp.2.1]; exact J.warm Y.warmed⟩) (fun _ _ _ _ _ _ _ _ _ => trivial)
    (fun _ _ _ _ ⟨v, L, h1, h2, h3, h4⟩ => ⟨L, _, _, h4, rfl, rfl, v, h1, h2, h3⟩)
    (fun m meth c A a g mk v t L k n Y hp _ _ ⟨e1, e2, v', e3, e4, e5⟩ => by cases e3; subst e1 e2; exact ⟨L, ⟨e4, e5⟩, rfl, rfl, rfl⟩)
theorem own_done {len : Nat} {v : Option Value} {B : Pt} (Cc : Cx Z p b m meth c own mybytes ml nm rt) (hB : Bs s b h) (eT : T.heap = h) (X1 : Stand p l e R (b.setVm B.U.vm) m args below meth c B.U B.locs B.cells B.slots) (hS : b.Since B.U.vm B.U.heap.size) (hg : T.heap.size ≤ B.U.heap.size)
    (hq : ∃ L, (Q' v B.U.vm B.U.heap L ∧ Hd Z ms B.U.vm B.U.heap) ∧ B.locs = locs ++ L ∧ B.cells = cells + rm.cells ∧ B.slots = slots + rm.slots) (st : ∀ t, Steps p.tables e below (B.U.setTop { g with pc := g.pc + len, stack := v.toList ++ rest }) t → Steps p.tables e below (T.setTop g) t) :
    Called Z ms p l e R s m args below meth c own mybytes ml nm rt locs (cells + rm.cells) (slots + rm.slots) h Q' T g len rest := by
  obtain ⟨T1, L1, k1, n1⟩ := B
  obtain ⟨Lc, ⟨hQ, hJ⟩, l1, y1, z1⟩ := hq
  dsimp only [Pt.U, Pt.locs, Pt.cells, Pt.slots] at X1 l1 y1 z1 st hQ hJ hS hg
  subst l1 y1 z1
  obtain ⟨vm, k, rfl, hS0, hk⟩ := hB
  obtain ⟨hx, hZ, hown, r⟩ := Cc
  exact ⟨v, (s.setVm vm).setVm T1.vm, T1, _, Lc, rfl, ⟨hx, State.Warmed39.trans hZ hS.1, (hS.1.alike.findClass _ _).trans hown, r⟩, X1, ⟨T1.vm, T1.heap.size, rfl, hS0.trans hS (Nat.le_trans hk (eT ▸ hg)), Nat.le_refl _⟩, hJ, eT ▸ hg, hQ, st⟩
theorem own_callS (Cc : Cx Z p b m meth c own mybytes ml nm rt) (hB : Bs s b h) (J : Hd Z ms b.vm h) (X : Stand p l e R b m args below meth c T locs cells slots)
    (wl : (Jvm.Cond.methodLink own index y).before a0 Z = true) (wst : (Jvm.Cond.static y).before a0 Z = true) (wi : (Jvm.Cond.initialized y.cls).before a0 Z = true) (wc : (Jvm.Cond.code y bytes maxL ret).before a0 Z = true) (hy : y.cls ≠ "java/lang/invoke/MethodHandle" ∧ y.cls ≠ "java/lang/invoke/VarHandle")
    (hM : Con l Z ms y bytes maxL ret [] rm argsL.toArray h Q') (eT : T.heap = h) (hg : g.method = m) (hsize : g.locals.size = c.maxLocals) (hlen : ∀ sig, parseMethodDescriptor y.desc = some sig → argsL.length = sig.parameters.length) (hstack : g.stack = argsL.reverse ++ rest)
    (hW : 2 * g.monitorRoom + (rest.map fun v => v.category).sum ≤ W) (hdg : decode c.code g.pc = .ok (.invokestatic index, 3)) (hf : rm.frames + 1 ≤ R.frames) (hl : W + (maxL + 11) + rm.locals ≤ R.locals) (hc : cells + rm.cells ≤ R.cells) (hs : slots + rm.slots ≤ R.slots) :
    Called Z ms p l e R s m args below meth c own mybytes ml nm rt locs (cells + rm.cells) (slots + rm.slots) h Q' T g 3 rest := by
  obtain ⟨hx, hZ, hown, -⟩ := id Cc
  obtain ⟨v, _, B, -, X1, hS, hgr, hq, st⟩ := callSS X hx (y := y) hown (mvT hZ wl) (mvT hZ wst) (mvT hZ wi) (mvT hZ wc) hy (own_back (W := W) hM hZ J wc wi hf hl) hg hsize (argsL := argsL) (rest := rest) hlen hstack hW hdg (fun _ _ => ⟨rfl, eT, hc, hs⟩)
  exact own_done Cc hB eT X1 hS hgr hq (fun _ hr => st.trans hr)
theorem own_callI (Cc : Cx Z p b m meth c own mybytes ml nm rt) (hB : Bs s b h) (J : Hd Z ms b.vm h) (X : Stand p l e R b m args below meth c T locs cells slots) (hin : y.name = "<init>")
    (wl : (Jvm.Cond.methodLink own index y).before a0 Z = true) (wim : (Jvm.Cond.instanceMethod y).before a0 Z = true) (wi : (Jvm.Cond.initialized y.cls).before a0 Z = true) (wc : (Jvm.Cond.code y bytes maxL none).before a0 Z = true) (hy : y.cls ≠ "java/lang/invoke/MethodHandle" ∧ y.cls ≠ "java/lang/invoke/VarHandle")
    {a : Addr} (hM : Con l Z ms y bytes maxL none [] rm (Value.ref a :: argsL).toArray h Q') (eT : T.heap = h) (hg : g.method = m) (hsize : g.locals.size = c.maxLocals) (hlen : ∀ sig, parseMethodDescriptor y.desc = some sig → argsL.length = sig.parameters.length) (hstack : g.stack = argsL.reverse ++ .ref a :: rest)
    (hW : 2 * g.monitorRoom + (rest.map fun v => v.category).sum ≤ W) (hdg : decode c.code g.pc = .ok (.invokespecial index, 3)) (hf : rm.frames + 1 ≤ R.frames) (hl : W + (maxL + 11) + rm.locals ≤ R.locals) (hc : cells + rm.cells ≤ R.cells) (hs : slots + rm.slots ≤ R.slots) :
    Called Z ms p l e R s m args below meth c own mybytes ml nm rt locs (cells + rm.cells) (slots + rm.slots) h Q' T g 3 rest := by
  obtain ⟨hx, hZ, hown, -⟩ := id Cc
  obtain ⟨v, _, B, -, X1, hS, hgr, hq, st⟩ := X.specialBackS hx (y := y) hin hown (mvT hZ wl) (mvT hZ wim) (mvT hZ wc) hy (own_back (W := W) hM hZ J wc wi hf hl) hg hsize (Steps.refl _) (a := a) (argsL := argsL) (rest := rest) hlen hstack hW hdg (fun _ _ => ⟨rfl, eT, hc, hs⟩)
  exact own_done Cc hB eT X1 hS hgr hq (fun _ hr => st.trans hr)
theorem own_callV (Cc : Cx Z p b m meth c own mybytes ml nm rt) (hB : Bs s b h) (J : Hd Z ms b.vm h) (X : Stand p l e R b m args below meth c T locs cells slots) {z : MethodName} {C : String}
    (wl : (Jvm.Cond.methodLink own index y).before a0 Z = true) (wd : (Jvm.Cond.declares y).before a0 Z = true) (nf : NotFace b y) (wsel : (Jvm.Cond.selects C y z).before a0 Z = true) (wim : (Jvm.Cond.instanceMethod z).before a0 Z = true) (wi : (Jvm.Cond.initialized z.cls).before a0 Z = true) (wc : (Jvm.Cond.code z bytes maxL ret).before a0 Z = true) (hy : y.cls ≠ "java/lang/invoke/MethodHandle" ∧ y.cls ≠ "java/lang/invoke/VarHandle")
    {a : Addr} (E : Exa Z h a C) (hM : Con l Z ms z bytes maxL ret [] rm (Value.ref a :: argsL).toArray h Q') (eT : T.heap = h) (hg : g.method = m) (hsize : g.locals.size = c.maxLocals) (hlen : ∀ sig, parseMethodDescriptor y.desc = some sig → argsL.length = sig.parameters.length) (hstack : g.stack = argsL.reverse ++ .ref a :: rest)
    (hW : 2 * g.monitorRoom + (rest.map fun v => v.category).sum ≤ W) (hdg : decode c.code g.pc = .ok (.invokevirtual index, 3)) (hf : rm.frames + 1 ≤ R.frames) (hl : W + (maxL + 11) + rm.locals ≤ R.locals) (hc : cells + rm.cells ≤ R.cells) (hs : slots + rm.slots ≤ R.slots) :
    Called Z ms p l e R s m args below meth c own mybytes ml nm rt locs (cells + rm.cells) (slots + rm.slots) h Q' T g 3 rest := by
  obtain ⟨hx, hZ, hown, -⟩ := id Cc
  obtain ⟨cq, kq, qa, qb, qc⟩ := isOf hZ eT E
  obtain ⟨v, _, B, -, X1, hS, hgr, hq, st⟩ := X.virtualBackS hx (y := y) (z := z) hown (mvT hZ wl) (mvT hZ wd) nf (mvT hZ wsel) (mvT hZ wim) hy (own_back (W := W) hM hZ J wc wi hf hl) qa qc hg hsize (Steps.refl _) (argsL := argsL) (rest := rest) hlen hstack hW hdg (fun _ _ => ⟨rfl, eT, hc, hs⟩)
  exact own_done Cc hB eT X1 hS hgr hq (fun _ hr => st.trans hr)
/-- an inherited method, by the class that the entry names -/
theorem own_callU (Cc : Cx Z p b m meth c own mybytes ml nm rt) (hB : Bs s b h) (J : Hd Z ms b.vm h) (X : Stand p l e R b m args below meth c T locs cells slots) {z : MethodName} {C owner : String}
    (wl : (Jvm.Cond.methodLink own index y).before a0 Z = true) (wsm : (Jvm.Cond.sameMethod y.cls owner y.name y.desc).before a0 Z = true) (wd : (Jvm.Cond.declares ⟨owner, y.name, y.desc⟩).before a0 Z = true) (wsel : (Jvm.Cond.selects C y z).before a0 Z = true) (wim : (Jvm.Cond.instanceMethod z).before a0 Z = true) (wi : (Jvm.Cond.initialized z.cls).before a0 Z = true) (wc : (Jvm.Cond.code z bytes maxL ret).before a0 Z = true) (ho : owner ≠ "java/lang/invoke/MethodHandle" ∧ owner ≠ "java/lang/invoke/VarHandle")
    {a : Addr} (E : Exa Z h a C) (hM : Con l Z ms z bytes maxL ret [] rm (Value.ref a :: argsL).toArray h Q') (eT : T.heap = h) (hg : g.method = m) (hsize : g.locals.size = c.maxLocals) (hlen : ∀ sig, parseMethodDescriptor y.desc = some sig → argsL.length = sig.parameters.length) (hstack : g.stack = argsL.reverse ++ .ref a :: rest)
    (hW : 2 * g.monitorRoom + (rest.map fun v => v.category).sum ≤ W) (hdg : decode c.code g.pc = .ok (.invokevirtual index, 3)) (hf : rm.frames + 1 ≤ R.frames) (hl : W + (maxL + 11) + rm.locals ≤ R.locals) (hc : cells + rm.cells ≤ R.cells) (hs : slots + rm.slots ≤ R.slots) :
    Called Z ms p l e R s m args below meth c own mybytes ml nm rt locs (cells + rm.cells) (slots + rm.slots) h Q' T g 3 rest := by
  obtain ⟨hx, hZ, hown, -⟩ := id Cc
  obtain ⟨cq, kq, qa, qb, qc⟩ := isOf hZ eT E
  obtain ⟨v, _, B, -, X1, hS, hgr, hq, st⟩ := X.virtualBackUpS hx (x := y) (y := z) hown (mvT hZ wl) (mvT hZ wsm) (mvT hZ wd) ho (mvT hZ wsel) (mvT hZ wim) (own_back (W := W) hM hZ J wc wi hf hl) qa qc hg hsize (Steps.refl _) (argsL := argsL) (rest := rest) hlen hstack hW hdg (fun _ _ => ⟨rfl, eT, hc, hs⟩)
  exact own_done Cc hB eT X1 hS hgr hq (fun _ hr => st.trans hr)
/-- through an interface -/
theorem own_callF (Cc : Cx Z p b m meth c own mybytes ml nm rt) (hB : Bs s b h) (J : Hd Z ms b.vm h) (X : Stand p l e R b m args below meth c T locs cells slots) {z : MethodName} {C : String} {count : Nat}
    (wl : (Jvm.Cond.methodLink own index y).before a0 Z = true) (wd : (Jvm.Cond.declares y).before a0 Z = true) (wfc : (Jvm.Cond.interfaceMethod y.cls y.cls y.name y.desc).before a0 Z = true) (hfc : ((Jvm.Cond.interfaceMethod y.cls y.cls y.name y.desc).onTables && (Jvm.Cond.interfaceMethod y.cls y.cls y.name y.desc).keepsFace) = true) (wsel : (Jvm.Cond.selects C y z).before a0 Z = true) (wim : (Jvm.Cond.instanceMethod z).before a0 Z = true) (wpb : (Jvm.Cond.publicMethod z).before a0 Z = true) (wun : (Jvm.Cond.unhidden C y.name y.desc).before a0 Z = true) (wca : (Jvm.Cond.castable C y.cls).before a0 Z = true)
    (wi : (Jvm.Cond.initialized z.cls).before a0 Z = true) (wc : (Jvm.Cond.code z bytes maxL ret).before a0 Z = true) (hy : y.cls ≠ "java/lang/invoke/MethodHandle" ∧ y.cls ≠ "java/lang/invoke/VarHandle")
    {a : Addr} (E : Exa Z h a C) (hM : Con l Z ms z bytes maxL ret [] rm (Value.ref a :: argsL).toArray h Q') (eT : T.heap = h) (hg : g.method = m) (hsize : g.locals.size = c.maxLocals) (hlen : ∀ sig, parseMethodDescriptor y.desc = some sig → argsL.length = sig.parameters.length) (hstack : g.stack = argsL.reverse ++ .ref a :: rest)
    (hW : 2 * g.monitorRoom + (rest.map fun v => v.category).sum ≤ W) (hdg : decode c.code g.pc = .ok (.invokeinterface index count, 5)) (hf : rm.frames + 1 ≤ R.frames) (hl : W + (maxL + 11) + rm.locals ≤ R.locals) (hc : cells + rm.cells ≤ R.cells) (hs : slots + rm.slots ≤ R.slots) :
    Called Z ms p l e R s m args below meth c own mybytes ml nm rt locs (cells + rm.cells) (slots + rm.slots) h Q' T g 5 rest := by
  obtain ⟨hx, hZ, hown, -⟩ := id Cc
  obtain ⟨cq, kq, qa, qb, qc⟩ := isOf hZ eT E
  obtain ⟨v, _, B, -, X1, hS, hgr, hq, st⟩ := X.interfaceBackS hx (xi := y) (y := z) hown (mvT hZ wl) (mvT hZ wd) (mvT hZ wfc hfc) (mvT hZ wsel) (mvT hZ wim) (mvT hZ wpb) (mvT hZ wun) (mvT hZ wca) hy (own_back (W := W) hM hZ J wc wi hf hl) qa qb qc hg hsize (Steps.refl _) (argsL := argsL) (rest := rest) hlen hstack hW hdg (fun _ _ => ⟨rfl, eT, hc, hs⟩)
  exact own_done Cc hB eT X1 hS hgr hq (fun _ hr => st.trans hr)
/-- super.m() -/
theorem own_callP (Cc : Cx Z p b m meth c own mybytes ml nm rt) (hB : Bs s b h) (J : Hd Z ms b.vm h) (X : Stand p l e R b m args below meth c T locs cells slots) {C : String}
    (wl : (Jvm.Cond.methodLink own index y).before a0 Z = true) (wsm : (Jvm.Cond.sameMethod y.cls y.cls y.name y.desc).before a0 Z = true) (wim : (Jvm.Cond.instanceMethod y).before a0 Z = true) (wsu : (Jvm.Cond.superclass own y.cls).before a0 Z = true) (hn : y.name ≠ "<init>") (wi : (Jvm.Cond.initialized y.cls).before a0 Z = true) (wc : (Jvm.Cond.code y bytes maxL ret).before a0 Z = true)
    {a : Addr} (E : Exa Z h a C) (hM : Con l Z ms y bytes maxL ret [] rm (Value.ref a :: argsL).toArray h Q') (eT : T.heap = h) (hg : g.method = m) (hsize : g.locals.size = c.maxLocals) (hlen : ∀ sig, parseMethodDescriptor y.desc = some sig → argsL.length = sig.parameters.length) (hstack : g.stack = argsL.reverse ++ .ref a :: rest)
    (hW : 2 * g.monitorRoom + (rest.map fun v => v.category).sum ≤ W) (hdg : decode c.code g.pc = .ok (.invokespecial index, 3)) (hf : rm.frames + 1 ≤ R.frames) (hl : W + (maxL + 11) + rm.locals ≤ R.locals) (hc : cells + rm.cells ≤ R.cells) (hs : slots + rm.slots ≤ R.slots) :
    Called Z ms p l e R s m args below meth c own mybytes ml nm rt locs (cells + rm.cells) (slots + rm.slots) h Q' T g 3 rest := by
  obtain ⟨hx, hZ, hown, -⟩ := id Cc
  obtain ⟨v, _, B, -, X1, hS, hgr, hq, st⟩ := superBackS X hx hZ (y := y) hown wl wsm wim wsu hn (own_back (W := W) hM hZ J wc wi hf hl) eT (Ins.self E) hg hsize wc (argsL := argsL) (rest := rest) hlen hstack hW hdg (fun _ _ => ⟨rfl, eT, hc, hs⟩)
  exact own_done Cc hB eT X1 hS hgr hq (fun _ hr => st.trans hr)
/-- a private method -/
theorem own_callR (Cc : Cx Z p b m meth c own mybytes ml nm rt) (hB : Bs s b h) (J : Hd Z ms b.vm h) (X : Stand p l e R b m args below meth c T locs cells slots) {C : String}
    (wl : (Jvm.Cond.methodLink own index y).before a0 Z = true) (wim : (Jvm.Cond.instanceMethod y).before a0 Z = true) (wsel : (Jvm.Cond.selects y.cls y y).before a0 Z = true) (wpr : (Jvm.Cond.privateMethod y).before a0 Z = true) (wi : (Jvm.Cond.initialized y.cls).before a0 Z = true) (wc : (Jvm.Cond.code y bytes maxL ret).before a0 Z = true) (hy : y.cls ≠ "java/lang/invoke/MethodHandle" ∧ y.cls ≠ "java/lang/invoke/VarHandle")
    {a : Addr} (E : Exa Z h a C) (hM : Con l Z ms y bytes maxL ret [] rm (Value.ref a :: argsL).toArray h Q') (eT : T.heap = h) (hg : g.method = m) (hsize : g.locals.size = c.maxLocals) (hlen : ∀ sig, parseMethodDescriptor y.desc = some sig → argsL.length = sig.parameters.length) (hstack : g.stack = argsL.reverse ++ .ref a :: rest)
    (hW : 2 * g.monitorRoom + (rest.map fun v => v.category).sum ≤ W) (hdg : decode c.code g.pc = .ok (.invokevirtual index, 3)) (hf : rm.frames + 1 ≤ R.frames) (hl : W + (maxL + 11) + rm.locals ≤ R.locals) (hc : cells + rm.cells ≤ R.cells) (hs : slots + rm.slots ≤ R.slots) :
    Called Z ms p l e R s m args below meth c own mybytes ml nm rt locs (cells + rm.cells) (slots + rm.slots) h Q' T g 3 rest := by
  obtain ⟨hx, hZ, hown, -⟩ := id Cc
  obtain ⟨cl, q1, q2⟩ := E.cell
  obtain ⟨v, _, B, -, X1, hS, hgr, hq, st⟩ := X.privateBackS hx (y := y) hown (mvT hZ wl) (mvT hZ wim) (mvT hZ wsel) (Cond.privateMethod_at (mvP hZ wpr (args := #[]))) (mvT hZ wc) hy (own_back (W := W) hM hZ J wc wi hf hl) hg hsize (Steps.refl _) (a := a) (by rw [eT]; exact q1) q2 (argsL := argsL) (rest := rest) hlen hstack hW hdg (fun _ _ => ⟨rfl, eT, hc, hs⟩)
  exact own_done Cc hB eT X1 hS hgr hq (fun _ hr => st.trans hr)
/-- a nest-mate's constructor -/
theorem own_callN (Cc : Cx Z p b m meth c own mybytes ml nm rt) (hB : Bs s b h) (J : Hd Z ms b.vm h) (X : Stand p l e R b m args below meth c T locs cells slots) (hin : y.name = "<init>") {host : String}
    (wl : (Jvm.Cond.methodLinkNest own index y host).before a0 Z = true) (wim : (Jvm.Cond.instanceMethod y).before a0 Z = true) (wi : (Jvm.Cond.initialized y.cls).before a0 Z = true) (wc : (Jvm.Cond.code y bytes maxL none).before a0 Z = true) (hy : y.cls ≠ "java/lang/invoke/MethodHandle" ∧ y.cls ≠ "java/lang/invoke/VarHandle")
    {a : Addr} (hM : Con l Z ms y bytes maxL none [] rm (Value.ref a :: argsL).toArray h Q') (eT : T.heap = h) (hg : g.method = m) (hsize : g.locals.size = c.maxLocals) (hlen : ∀ sig, parseMethodDescriptor y.desc = some sig → argsL.length = sig.parameters.length) (hstack : g.stack = argsL.reverse ++ .ref a :: rest)
    (hW : 2 * g.monitorRoom + (rest.map fun v => v.category).sum ≤ W) (hdg : decode c.code g.pc = .ok (.invokespecial index, 3)) (hf : rm.frames + 1 ≤ R.frames) (hl : W + (maxL + 11) + rm.locals ≤ R.locals) (hc : cells + rm.cells ≤ R.cells) (hs : slots + rm.slots ≤ R.slots) :
    Called Z ms p l e R s m args below meth c own mybytes ml nm rt locs (cells + rm.cells) (slots + rm.slots) h Q' T g 3 rest := by
  obtain ⟨hx, hZ, hown, -⟩ := id Cc
  have wl' : (Jvm.Cond.methodLinkNest own index y host).before args b = true := (Cond.methodLinkNest_wide hZ wl :)
  obtain ⟨v, _, B, -, X1, hS, hgr, hq, st⟩ := X.specialBackNestS hx (y := y) hin hown wl' (mvT hZ wim) (mvT hZ wc) hy (own_back (W := W) hM hZ J wc wi hf hl) hg hsize (Steps.refl _) (a := a) (argsL := argsL) (rest := rest) hlen hstack hW hdg (fun _ _ => ⟨rfl, eT, hc, hs⟩)
  exact own_done Cc hB eT X1 hS hgr hq (fun _ hr => st.trans hr)
end Calls
theorem own_nf {s : State} {args : Array Value} {C : String} {y z : MethodName} (hsel : (Jvm.Cond.selects C z z).before args s = true) (hc : z.cls = y.cls) : NotFace s y := fun r0 h0 => by
  obtain ⟨c2, r2, m2, -, -, q3, -⟩ := Cond.selects_spec hsel
  obtain ⟨kr, k1, k2⟩ := notFace_of_selects hsel m2 q3
  have a := findClass_of_methodNamed h0
  have b := findClass_of_methodNamed q3
  rw [hc] at b
  have e : r0.cls = m2.cls := Option.some.inj (a.symm.trans b)
  exact ⟨kr, by rw [e]; exact k1, k2⟩
theorem own_sm {y : MethodName} (wim : (Jvm.Cond.instanceMethod y).before a0 Z = true) (nf : NotFace Z y) (hy : y.cls ≠ "java/lang/invoke/MethodHandle" ∧ y.cls ≠ "java/lang/invoke/VarHandle") : (Jvm.Cond.sameMethod y.cls y.cls y.name y.desc).before a0 Z = true := by
  obtain ⟨mk, methM, hnamed, -⟩ := Cond.instanceMethod_spec wim
  obtain ⟨kr, k1, k2⟩ := nf _ hnamed
  have hf := State.methodFound?_of_named hnamed hy
  have hc := findClass_of_methodNamed hnamed
  have hn' : Z.methodNamed? ⟨y.cls, y.name, y.desc⟩ = some mk := hnamed
  simp [Cond.before, Cond.holds, Cond.value, hc, hf, hn', k1, k2]
theorem own_decl {y : MethodName} {bytes : ByteArray} {maxL : Nat} {ret : Option FieldType} (wim : (Jvm.Cond.instanceMethod y).before a0 Z = true) (wc : (Jvm.Cond.code y bytes maxL ret).before a0 Z = true) : (Jvm.Cond.declares y).before a0 Z = true := by
  obtain ⟨mk, methM, hnamed, hmethM, hst, -⟩ := Cond.instanceMethod_spec wim
  obtain ⟨m2, cM, q1, -, -, -, -, -, -, hsig⟩ := Cond.code_spec hnamed wc
  cases hmethM.symm.trans q1
  simp [Cond.before, Cond.holds, Cond.value, hnamed, hmethM, hst, hsig]
theorem keep_ext (q : Keep h h' []) : Ext h h' := ⟨q.1, fun a c r => q.2.1 a c r (fun z => nomatch z)⟩
theorem ext_keep (q : Ext h h') : Keep h h' [] := (Keep.refl h []).ext q
theorem own_ole {n0 : Nat} (O : Old Z n0 h) : n0 ≤ h.size := O.1 ▸ O.2.1
/-- an equation of the case's words -/
theorem own_eqI {t : Term} {n : Int32} (q : (Jvm.Cond.eq t (.int n)).value args s none s [] = some true) : t.eval args s none [] s = some (.int n) := by
  cases ha : t.eval args s none [] s with
  | none => simp [Cond.value, ha] at q
  | some x => cases x <;> simp [Cond.value, Term.eval, ha] at q ⊢; exact q
theorem own_sub1 {z : Addr} {ms L : List Addr} (q : z ∈ L) (r : ∀ x ∈ ms, x ∈ L) : ∀ x ∈ z :: ms, x ∈ L := fun x hx => (List.mem_cons.mp hx).elim (fun e => by rw [e]; exact q) (r x)
end OwnKit

section OwnLdc
variable {p : Program} {l : Launch} {e : Env} {R : Room} {s b : State} {m : MethodId} {args : Array Value} {below : List Frame} {meth : Method} {c : Code} {T : State} {locs : List Loc} {cells slots : Nat} {Z : State} {a0 : Array Value} {h : Heap} {ms : List Addr} {own nm text : String} {mybytes : ByteArray} {ml index n : Nat} {rt : Option FieldType} {g : JFrame}
/-- a constant that is booked at T', and whose address is older than this load, was held at the start -/
theorem own_heldZ {T' : State} {vm0 : Vm} {Ts : List String} {a : Addr} (hW : Z.Warmed39 T'.vm) (w : (Jvm.Cond.stringLink own index text).before a0 Z = true) (I : IB Z vm0 Ts) (hnot : text ∉ Ts) (lit : Lit T' own index a) (hHZ : ConstHeldL Z own index) {cO : ClassId} (hcO : Z.vm.findClass own = some cO)
    (hint : T'.vm.interned = vm0.interned ∨ ∃ (u : Array UInt16) (a' : Addr), T'.vm.interned = vm0.interned.push (u, a') ∧ a ≠ a') : ∃ units, SlOf Z a units := by
  obtain ⟨k, cf, i, units, hk, hcf, hp, hu, hnm, htext, -⟩ := Cond.stringLink_spec hcO w
  obtain ⟨k', hk', hke, -, ee, -⟩ := hW.2.2.2 cO k hk
  have hl : k'.resolved[index]? = some (some (.string a)) := by
    have q : T'.resolvedAt? own index = some (.string a) := lit
    have f : T'.vm.findClass own = some cO := by rw [hW.alike.findClass]; exact hcO
    simp only [State.resolvedAt?, f, hk', Option.bind_eq_bind, Option.bind_some] at q
    cases hr : k'.resolved[index]? with
    | none => simp [hr] at q
    | some y => cases y <;> simp [hr] at q; rw [q]
  have hfind : vm0.interned.find? (fun p => p.1 == units) = some (units, a) → Z.vm.interned.find? (fun p => p.1 == units) = some (units, a) := fun hf => by
    obtain ⟨more, e, hm⟩ := I
    rw [e, Array.find?_append] at hf
    cases hs : Z.vm.interned.find? (fun p => p.1 == units) with
    | some pr => rw [hs] at hf; simpa using hf
    | none =>
      rw [hs, Option.none_or] at hf
      obtain ⟨t, ht, hd⟩ := hm _ (Array.mem_of_find?_eq_some hf)
      cases htext.symm.trans hd
      exact absurd ht hnot
  rcases ee index with e0 | ⟨hop, r, e1, hr | ⟨a3, t, si, us, rfl, -, q3, q4, q5⟩⟩
  · exact ⟨units, hHZ cO k cf i units a hcO hk hcf hp hu (Or.inl (e0 ▸ hl))⟩
  · exfalso
    cases r <;> simp [State.rightAt, hk, hcf, hnm] at hr
  · rw [hcf] at q3 q4
    obtain rfl : si = i := by have := q3.symm.trans hp; simpa using this
    obtain rfl : us = units := by simpa [ConstantPool.utf8?, hu] using q4.symm
    obtain rfl : a3 = a := by have := e1.symm.trans hl; simpa using this
    refine ⟨us, hHZ cO k cf si us a3 hcO hk hcf hp hu (Or.inr ⟨hop, hfind ?_⟩)⟩
    rcases hint with q | ⟨u, a', q, hne⟩
    · rw [← q]; exact q5
    · rw [q, Array.find?_push] at q5
      cases hs : vm0.interned.find? (fun p => p.1 == us) with
      | some pr => rw [hs] at q5; simpa using q5
      | none =>
        rw [hs, Option.none_or] at q5
        split at q5
        · cases q5; exact absurd rfl hne
        · cases q5
theorem own_ldcV (Cc : Cx Z p b m meth c own mybytes ml nm rt) (hB : Bs s b h) (J : Hd Z ms b.vm h) (X : Stand p l e R b m args below meth c T locs cells slots) (hC : (own, index, text) ∈ litCs) (hD : ∀ q ∈ litCs, q.2.2 = text → q = (own, index, text))
    (w : (Jvm.Cond.stringLink own index text).before a0 Z = true) (wS : ∀ a ∈ Bundle.stringAtoms, a.before a0 Z = true) (hl : ∀ c ∈ text.toList, c.toNat < 256) (hsz : text.toList.length < 2147483648) (N : Fr s.heap.size locs) (hks : Ext Z.heap s.heap)
    (eT : T.heap = h) (hg : g.method = m) (hd : decode c.code g.pc = .ok (.ldc index, 2)) (hn : 4 * text.toList.length ≤ n) (hbig : n ≤ 536870912) (hc : cells + 2 ≤ R.cells) (hl' : slots + (n + 4) ≤ R.slots) :
    ∃ (a t : Addr) (k : ClassId) (b' T' : State) (h' : Heap), T'.heap = h' ∧ Cx Z p b' m meth c own mybytes ml nm rt ∧ Stand p l e R b' m args below meth c T' locs (cells + 2) (slots + (n + 4)) ∧ Bs s b' h' ∧ Hd Z ms b'.vm h' ∧ Ext h h' ∧ Says Z h' a t k text ∧ a ∉ ms ∧ t ∉ ms ∧ Lit b' own index a ∧ ∀ u, Steps p.tables e below (T'.setTop { g with pc := g.pc + 2, stack := .ref a :: g.stack }) u → Steps p.tables e below (T.setTop g) u := by
  obtain ⟨vm0, k0, rfl, hS, hk⟩ := hB
  obtain ⟨hx, hZ, hown, r⟩ := Cc
  obtain ⟨A, E, M, Ts, I, L⟩ := id J
  have hH : Jvm.Lit.constHeld Z own index := A.1 _ hC
  have hcw := A.2 a0
  rcases L _ hC with hnot | ⟨a, t, k, lit, says, n1, n2⟩
  · have wi : (Jvm.Cond.instantiable "java/lang/String" 4).before a0 Z = true := wS _ (by simp [Bundle.stringAtoms, Bundle.sN])
    have wa : (Jvm.Cond.arrayClass .byte).before a0 Z = true := wS _ (by simp [Bundle.stringAtoms])
    have hHZ : ConstHeldL Z own index := heldStart hH w hl hcw wa wi
    obtain ⟨a, T', X', hS', ⟨kk, hkk, hrr⟩, hb, hI1, hint, ⟨units, htext, hin⟩, st⟩ := X.ldcColdF (oldF X N) hx (own := own) hown (mvS hZ w) (fun d hd => by
      have q := wS d hd
      simp only [Bundle.stringAtoms, List.mem_cons, List.not_mem_nil, or_false] at hd
      rcases hd with rfl | rfl | rfl | rfl | rfl | rfl | rfl
      · exact mv (s := s.setVm vm0) hZ q
      · exact mv (s := s.setVm vm0) hZ q
      · exact mvA (s := s.setVm vm0) hZ q
      · exact mv (s := s.setVm vm0) hZ q
      · exact mv (s := s.setVm vm0) hZ q
      · exact mv (s := s.setVm vm0) hZ q
      · exact mv (s := s.setVm vm0) hZ q) (heldCarry hZ w I hnot hks.2 hHZ) (fun u hu => Jvm.ClassFile.lat_of_text hu hl) hg hd hn hbig hc hl'
    subst eT
    have E' := ext_of hb
    have hW : Z.Warmed39 T'.vm := State.Warmed39.trans (t := s.setVm vm0) hZ hS'.1
    have hTi : T.vm.interned = vm0.interned := X.warmed.interned_eq
    obtain ⟨t, k, says, hloc⟩ := slin_says hW.alike hin htext hl hsz
    have hf : T'.vm.findClass own = some m.cls := by rw [hS'.1.alike.findClass]; exact hown
    have lit : Lit (s.setVm T'.vm) own index a := by simp [Lit, State.resolvedAt?, hf, hkk, hrr]
    have EZ : Ext Z.heap T'.heap := ⟨Nat.le_trans E.1 E'.1, fun a c q => E'.2 a c (E.2 a c q)⟩
    have hap : (a < Z.heap.size ∧ t < Z.heap.size) ∨ (T.heap.size ≤ a ∧ T.heap.size ≤ t) := by
      rcases hloc with ⟨l1, l2⟩ | q
      · left
        have hcO : Z.vm.findClass own = some m.cls := by rw [← hW.alike.findClass]; exact hf
        have hsT : s.heap.size ≤ T.heap.size := X.same.2.1
        obtain ⟨us, q, cS, rfl, ⟨⟨s1, -, -, ⟨cv, kv, iv, s4, -⟩, -, -, -, s8, -, s10, -⟩, -⟩, -⟩ := own_heldZ (T' := T') hW w I hnot lit hHZ hcO (by
          rcases hI1.2 with q | ⟨u, a', q, q2, -⟩
          · exact Or.inl (q.trans hTi)
          · exact Or.inr ⟨u, a', by rw [q, hTi]; rfl, fun z => absurd l1 (Nat.not_lt.mpr (by rw [z]; exact Nat.le_trans hsT q2))⟩)
        obtain ⟨cell, cf, kf, i, f, f1, f2, -, -, -, -, f7⟩ := says.2.2.1
        cases (EZ.2 _ _ s1).symm.trans f1
        cases s4.symm.trans f2
        cases s8.symm.trans f7
        exact ⟨(Array.getElem?_eq_some_iff.mp s1).1, (Array.getElem?_eq_some_iff.mp s10).1⟩
      · exact Or.inr q
    have n1 : a ∉ ms := fun z => by
      obtain ⟨m1, m2⟩ := M a z
      rcases hap with ⟨h1, -⟩ | ⟨h1, -⟩
      · exact absurd h1 (Nat.not_lt.mpr m1)
      · exact absurd m2 (Nat.not_lt.mpr h1)
    have n2 : t ∉ ms := fun z => by
      obtain ⟨m1, m2⟩ := M t z
      rcases hap with ⟨-, h1⟩ | ⟨-, h1⟩
      · exact absurd h1 (Nat.not_lt.mpr m1)
      · exact absurd m2 (Nat.not_lt.mpr h1)
    refine ⟨a, t, k, s.setVm T'.vm, T', _, rfl, ⟨hx, hW, hf, r⟩, X', ⟨T'.vm, T'.heap.size, rfl, hS.trans hS' (Nat.le_trans hk E'.1), Nat.le_refl _⟩, ⟨A, EZ, fun y hy => ⟨(M y hy).1, Nat.lt_of_lt_of_le (M y hy).2 E'.1⟩, text :: Ts, I.step (by have q := hint; rw [hTi] at q; exact q), fun q hq => ?_⟩, E', says, n1, n2, lit, st⟩
    by_cases hqt : q.2.2 = text
    · obtain rfl := hD q hq hqt
      exact Or.inr ⟨a, t, k, lit, says, n1, n2⟩
    · rcases L q hq with h1 | ⟨a2, t2, k2, l2, s2, r2⟩
      · exact Or.inl (fun z => (List.mem_cons.mp z).elim hqt h1)
      · exact Or.inr ⟨a2, t2, k2, Lit.stays (s := s) (vm0 := vm0) l2 hS'.1, s2.ext E', r2⟩
  · exact ⟨a, t, k, s.setVm vm0, T, h, eT, ⟨hx, hZ, hown, r⟩, X.mono (by omega) (by omega), ⟨vm0, k0, rfl, hS, hk⟩, J, ⟨Nat.le_refl _, fun _ _ q => q⟩, says, n1, n2, lit, ldcAgain X hx hZ hown w lit hg hd⟩
/-- a second load in one walk -/
theorem own_ldcA {a : Addr} (Cc : Cx Z p b m meth c own mybytes ml nm rt) (X : Stand p l e R b m args below meth c T locs cells slots) (hB : Bs s b h) (w : (Jvm.Cond.stringLink own index text).before a0 Z = true) (lit : Lit b own index a) (hg : g.method = m) (hd : decode c.code g.pc = .ok (.ldc index, 2)) :
    ∀ u, Steps p.tables e below (T.setTop { g with pc := g.pc + 2, stack := .ref a :: g.stack }) u → Steps p.tables e below (T.setTop g) u := by
  obtain ⟨vm0, k0, rfl, hS, hk⟩ := hB
  exact ldcAgain X Cc.1 Cc.2.1 Cc.2.2.1 w lit hg hd
end OwnLdc

section OwnStr
abbrev lo8 (x : Int32) : Int32 := x.toInt8.toInt32
theorem oi_toInt {i : Nat} (h : i < 2147483648) : (Int32.ofNat i).toInt = i := Int32.toInt_ofNat_small h
theorem oi_nn {i : Nat} (h : i < 2147483648) : ¬ Int32.ofNat i < 0 := by
  rw [Int32.lt_iff_toInt_lt, oi_toInt h, Int32.toInt_zero]; omega
theorem oi_nat {i : Nat} (h : i < 2147483648) : (Int32.ofNat i).toNatClampNeg = i := by
  have q := nat_of (oi_nn h)
  rw [oi_toInt h] at q; omega
theorem oi_lt {i n : Nat} (hi : i < 2147483648) (hn : n < 2147483648) (q : i < n) : Int32.ofNat i < Int32.ofNat n := by
  rw [Int32.lt_iff_toInt_lt, oi_toInt hi, oi_toInt hn]; omega
theorem oi_nlt {i n : Nat} (hi : i < 2147483648) (hn : n < 2147483648) (q : ¬ i < n) : ¬ Int32.ofNat i < Int32.ofNat n := by
  rw [Int32.lt_iff_toInt_lt, oi_toInt hi, oi_toInt hn]; omega
theorem oi_succ {i : Nat} (h : i + 1 < 2147483648) : Int32.ofNat i + (1 : Int32) = Int32.ofNat (i + 1) := by
  have q := c_iadd (Int32.ofNat i) 1
  have r := rng32 (Int32.ofNat i + 1)
  rw [oi_toInt (by omega), show (1 : Int32).toInt = 1 from rfl] at q
  apply Int32.toInt_inj.mp
  rw [oi_toInt h]; omega
theorem nar_b (x : Int32) : nar .byte (lo8 x) = lo8 x := by
  have a := c_i2b x
  have b := c_i2b (x.toInt8.toInt32)
  apply Int32.toInt_inj.mp
  show (x.toInt8.toInt32.toInt8.toInt32).toInt = x.toInt8.toInt32.toInt
  omega
theorem fits_b (x : Int32) : fits .byte (.int (lo8 x)) = true := fits_nar_byte x
theorem c_rng {x : Int32} (h0 : ¬ x < 0) (h1 : ¬ 65535 < x) : 0 ≤ x.toInt ∧ x.toInt ≤ 65535 := by
  rw [Int32.lt_iff_toInt_lt] at h0 h1
  exact ⟨by simpa using h0, by simpa using h1⟩
theorem nar_c {x : Int32} (h0 : ¬ x < 0) (h1 : ¬ 65535 < x) : nar .char x = x := by
  have a := c_rng h0 h1
  have b := c_i2c x
  apply Int32.toInt_inj.mp
  show (x.toUInt32.toUInt16.toUInt32.toInt32).toInt = x.toInt
  omega
theorem fits_c {x : Int32} (h0 : ¬ x < 0) (h1 : ¬ 65535 < x) : fits .char (.int x) = true := by
  have q := fits_nar_char x
  rwa [nar_c h0 h1] at q
theorem le255 {x : Int32} (h1 : ¬ 255 < x) : ¬ 65535 < x := by
  rw [Int32.lt_iff_toInt_lt] at h1 ⊢
  have a : (255 : Int32).toInt = 255 := by decide
  have b : (65535 : Int32).toInt = 65535 := by decide
  omega
theorem chr8 (x : Int32) : ¬ (x &&& (255 : Int32)).toUInt32.toUInt16.toUInt32.toInt32 < 0 ∧ ¬ 255 < (x &&& (255 : Int32)).toUInt32.toUInt16.toUInt32.toInt32 := by
  rw [i2c_mask]
  have q := c_and x 255 (by decide)
  have a : (255 : Int32).toInt = 255 := by decide
  rw [Int32.lt_iff_toInt_lt, Int32.lt_iff_toInt_lt, Int32.toInt_zero]
  omega
theorem own_push {Z : State} {h h' : Heap} {a : Addr} {k : ClassId} {ty : FieldType} {z j : Int32} {vs : List Value} {v dv : Value} (V : Arv Z h a k ty z vs dv) (W : Wr h h' a j.toNatClampNeg v) (hj : j.toNatClampNeg = vs.length) (hv : fits ty v = true) : Arv Z h' a k ty z (vs ++ [v]) dv := by
  obtain ⟨c, A, q1, S, q3, H, G⟩ := V.pad (pad_rep vs dv 1)
  have q := Arv.set A q1 S q3 H G hv W vs.length hj (by simp)
  simpa [List.set_append] using q
theorem getD_int (cs : List Int32) (i : Nat) : (cs.map Value.int).getD i (.int 0) = .int (cs.getD i 0) := by
  simp only [List.getD_eq_getElem?_getD, List.getElem?_map]
  cases cs[i]? <;> rfl
theorem take_push (cs : List Int32) {i : Nat} (h : i < cs.length) (f : Int32 → Value) : (cs.take i).map f ++ [f (cs.getD i 0)] = (cs.take (i + 1)).map f := by
  rw [List.take_succ_eq_append_getElem h, List.map_append, List.getD_eq_getElem?_getD, List.getElem?_eq_getElem h]; rfl
theorem mem_getD {cs : List Int32} {i : Nat} (h : i < cs.length) : cs.getD i 0 ∈ cs := by
  rw [List.getD_eq_getElem?_getD, List.getElem?_eq_getElem h]; exact List.getElem_mem h
theorem oi_inj {a b : Nat} (ha : a < 2147483648) (hb : b < 2147483648) (q : Int32.ofNat a = Int32.ofNat b) : a = b := by
  have r := congrArg Int32.toInt q
  rw [oi_toInt ha, oi_toInt hb] at r; omega
theorem oi_nil {cs : List Int32} {n : Nat} (hn : cs.length ≤ n) (q : Int32.ofNat cs.length = 0) (hs : n < 2147483648 := by decide) : cs = [] := by
  have r := oi_inj (b := 0) (by omega) (by decide) q
  exact List.eq_nil_of_length_eq_zero r
theorem asB {Z : State} {h : Heap} {t : Addr} {k : ClassId} {cs : List Int32} {dv : Value} (q : Arv Z h t k .byte (Int32.ofNat cs.length) (cs.map fun x => Value.int (lo8 x)) dv) : Arv Z h t k .byte (Int32.ofNat (cs.map lo8).length) ((cs.map lo8).map Value.int) dv := by
  rw [List.length_map, List.map_map]; exact q
theorem teq_all {b1 b2 : List Int32} {i : Nat} (hl : b1.length = b2.length) (hi : i + 0 = b1.length) (h : b1.take i = b2.take i) : b1 = b2 := by
  have e : i = b1.length := by omega
  rw [e, List.take_length, hl, List.take_length] at h; exact h
theorem teq_step {b1 b2 : List Int32} {i : Nat} (h : b1.take i = b2.take i) (h1 : i < b1.length) (h2 : i < b2.length) (q : b1.getD i 0 = b2.getD i 0) : b1.take (i + 1) = b2.take (i + 1) := by
  rw [List.getD_eq_getElem?_getD, List.getD_eq_getElem?_getD, List.getElem?_eq_getElem h1, List.getElem?_eq_getElem h2] at q
  rw [List.take_succ_eq_append_getElem h1, List.take_succ_eq_append_getElem h2, h]
  exact congrArg (fun z => b2.take i ++ [z]) q
theorem nar_z {x : Int32} (h : x = 1 ∨ x = 0) : nar .boolean x = x := by rcases h with rfl | rfl <;> decide
theorem fits_z {x : Int32} (h : x = 1 ∨ x = 0) : fits .boolean (.int x) = true := by rcases h with rfl | rfl <;> decide
theorem and3 (x : Int32) : x &&& 3 = 0 ∨ x &&& 3 = 1 ∨ x &&& 3 = 2 ∨ x &&& 3 = 3 := by
  have q := c_and x 3 (by decide)
  have a : (3 : Int32).toInt = 3 := by decide
  have r : (x &&& 3).toInt = 0 ∨ (x &&& 3).toInt = 1 ∨ (x &&& 3).toInt = 2 ∨ (x &&& 3).toInt = 3 := by omega
  rcases r with r | r | r | r
  · exact Or.inl (Int32.toInt_inj.mp r)
  · exact Or.inr (Or.inl (Int32.toInt_inj.mp r))
  · exact Or.inr (Or.inr (Or.inl (Int32.toInt_inj.mp r)))
  · exact Or.inr (Or.inr (Or.inr (Int32.toInt_inj.mp r)))
theorem rem3 (x : Int32) : (x &&& 3) % 3 = 0 ∨ (x &&& 3) % 3 = 1 ∨ (x &&& 3) % 3 = 2 := by
  rcases and3 x with r | r | r | r <;> rw [r] <;> decide
theorem lo8_inj {x y : Int32} (hx : ¬ x < 0 ∧ ¬ 255 < x) (hy : ¬ y < 0 ∧ ¬ 255 < y) (h : lo8 x = lo8 y) : x = y := by
  obtain ⟨x0, x1⟩ := hx
  obtain ⟨y0, y1⟩ := hy
  have a : (255 : Int32).toInt = 255 := by decide
  rw [Int32.lt_iff_toInt_lt, Int32.toInt_zero] at x0 y0
  rw [Int32.lt_iff_toInt_lt] at x1 y1
  have q : x.toInt8.toInt32.toInt = y.toInt8.toInt32.toInt := congrArg Int32.toInt h
  have cx := c_i2b x
  have cy := c_i2b y
  apply Int32.toInt_inj.mp
  omega
theorem q_back {q : Int32} (h : ¬ q < 0) : Int32.ofNat q.toNatClampNeg = q := by
  have a := nat_of h
  have r := rng32 q
  apply Int32.toInt_inj.mp
  rw [oi_toInt (by omega), a]
theorem own_idx {j : Int32} {n : Nat} (h : ¬ (j < 0 ∨ n ≤ j.toNatClampNeg)) : j.toNatClampNeg.toInt32 = j := q_back (fun q => h (Or.inl q))
end OwnStr

theorem litI_nil : litI "" = [] := by decide +kernel
theorem asN {Z : State} {h : Heap} {t : Addr} {k : ClassId} {cs : List Int32} {dv : Value} (q : Arv Z h t k .byte (Int32.ofNat (litI "").length) ((litI "").map Value.int) dv) (e : cs = []) : Arv Z h t k .byte (Int32.ofNat (cs.map lo8).length) ((cs.map lo8).map Value.int) dv := by
  rw [litI_nil] at q; subst e; exact q
theorem own_compact {Z : State} {a1 a0 : Array Value} (q : (Jvm.Cond.not (Jvm.Cond.eq (Jvm.Term.static "java/lang/String" "COMPACT_STRINGS" "Z") (Jvm.Term.int 0))).before a1 Z = true) : Jvm.Lit.compactW.before a0 Z = true := q

theorem own_wS (Z : State) (a0 : Array Value) (hw : ∀ d ∈ tables_1, d.before a0 Z = true) : ∀ a ∈ Bundle.stringAtoms, a.before a0 Z = true := by
  intro a ha
  simp only [Bundle.stringAtoms, List.mem_cons, List.not_mem_nil, or_false] at ha
  rcases ha with rfl | rfl | rfl | rfl | rfl | rfl | rfl
  · exact (hw _ (List.mem_of_getElem? (i := 18) rfl))
  · exact (hw _ (List.mem_of_getElem? (i := 17) rfl))
  · exact (hw _ (List.mem_of_getElem? (i := 35) rfl))
  · exact (hw _ (List.mem_of_getElem? (i := 45) rfl))
  · exact (hw _ (List.mem_of_getElem? (i := 43) rfl))
  · exact (hw _ (List.mem_of_getElem? (i := 56) rfl))
  · exact (hw _ (List.mem_of_getElem? (i := 57) rfl))

theorem own_sh0 (x : Int32) : x >>> ((0 : Int32) &&& 31) = x := by
  rw [show ((0 : Int32) &&& 31) = 0 from by decide]; exact Int32.shiftRight_zero
theorem own_sl0 (x : Int32) : x <<< ((0 : Int32) &&& 31) = x := by
  rw [show ((0 : Int32) &&& 31) = 0 from by decide]; exact Int32.shiftLeft_zero
def chV (b : List Int32) (i : Int32) : Int32 := ((b.getD i.toNatClampNeg 0) &&& (255 : Int32)).toUInt32.toUInt16.toUInt32.toInt32
theorem own_c2 (x : Int32) : nar .char (x &&& (255 : Int32)).toUInt32.toUInt16.toUInt32.toInt32 = (x &&& (255 : Int32)).toUInt32.toUInt16.toUInt32.toInt32 := nar_c (chr8 x).1 (le255 (chr8 x).2)
theorem oi_add {a b : Nat} (h : a + b < 2147483648) : Int32.ofNat a + Int32.ofNat b = Int32.ofNat (a + b) := by
  have q := c_iadd (Int32.ofNat a) (Int32.ofNat b)
  have r := rng32 (Int32.ofNat a + Int32.ofNat b)
  rw [oi_toInt (by omega), oi_toInt (by omega)] at q
  apply Int32.toInt_inj.mp
  rw [oi_toInt h]; omega
theorem own_ens {j : Nat} (h : j ≤ 16) : ¬ (0 : Int32) < Int32.ofNat j - (16 : Int32) := by
  have q := c_isub (Int32.ofNat j) 16
  have r := rng32 (Int32.ofNat j - 16)
  rw [oi_toInt (by omega), show (16 : Int32).toInt = 16 from rfl] at q
  rw [Int32.lt_iff_toInt_lt, Int32.toInt_zero]; omega
theorem own_lt16 {j : Nat} (h : j < 16) : Int32.ofNat j < (16 : Int32) := by
  rw [Int32.lt_iff_toInt_lt, oi_toInt (by omega), show (16 : Int32).toInt = 16 from rfl]; omega
theorem own_ne16 {j : Nat} (h : j < 16) : ¬ Int32.ofNat j = (16 : Int32) := fun q => by
  have r := congrArg Int32.toInt q
  rw [oi_toInt (by omega), show (16 : Int32).toInt = 16 from rfl] at r; omega
theorem cp4 {n : Nat} {z : Int32} (hn : n < 2147483648) (h : n ≤ z.toNatClampNeg) : (0 : Int32).toNatClampNeg + (Int32.ofNat n).toNatClampNeg ≤ z.toNatClampNeg := by
  rw [oi_nat hn, show (0 : Int32).toNatClampNeg = 0 from rfl]; omega
theorem cp5 {a n : Nat} {z : Int32} (ha : a < 2147483648) (hn : n < 2147483648) (h : a + n ≤ z.toNatClampNeg) : (Int32.ofNat a).toNatClampNeg + (Int32.ofNat n).toNatClampNeg ≤ z.toNatClampNeg := by
  rw [oi_nat hn, oi_nat ha]; exact h
theorem cpu (cs : List Int32) (hn : cs.length < 2147483648) : cs.map Value.int = (List.range (Int32.ofNat cs.length).toNatClampNeg).map fun i => (cs.map Value.int).getD ((0 : Int32).toNatClampNeg + i) (.int 0) := by
  rw [oi_nat hn, show (0 : Int32).toNatClampNeg = 0 from rfl]
  refine List.ext_getElem (by simp) fun i h1 h2 => ?_
  have hi : i < cs.length := by simpa using h1
  simp [List.getD_eq_getElem?_getD, hi]
theorem cpl (bs cs : List Int32) (hb : bs.length < 2147483648) (hn : cs.length < 2147483648) : (Int32.ofNat bs.length).toNatClampNeg + (Int32.ofNat cs.length).toNatClampNeg ≤ (bs.map Value.int ++ List.replicate cs.length (Value.int 0)).length := by
  rw [oi_nat hn, oi_nat hb]; simp
theorem cp_res (bs cs : List Int32) (hb : bs.length < 2147483648) (hn : cs.length < 2147483648) : ((bs.map Value.int ++ List.replicate cs.length (Value.int 0)).take (Int32.ofNat bs.length).toNatClampNeg ++ cs.map Value.int ++ (bs.map Value.int ++ List.replicate cs.length (Value.int 0)).drop ((Int32.ofNat bs.length).toNatClampNeg + (Int32.ofNat cs.length).toNatClampNeg)) = (bs ++ cs).map Value.int := by
  rw [oi_nat hn, oi_nat hb]
  have e1 : (bs.map Value.int ++ List.replicate cs.length (Value.int 0)).take bs.length = bs.map Value.int := by
    rw [List.take_append_of_le_length (by simp)]; exact List.take_of_length_le (by simp)
  have e2 : (bs.map Value.int ++ List.replicate cs.length (Value.int 0)).drop (bs.length + cs.length) = [] := List.drop_of_length_le (by simp)
  rw [e1, e2, List.append_nil, List.map_append]
theorem own_isr {args : Array Value} {s : State} {t : Term} (h : (Jvm.Cond.isRef t).value args s none s [] = some true) : ∃ v : Value, (v = .null ∨ ∃ a, v = .ref a) ∧ t.eval args s none [] s = some v := by
  cases ha : t.eval args s none [] s with
  | none => simp [Cond.value, ha] at h
  | some x =>
    cases x <;> simp [Cond.value, ha] at h
    · exact ⟨_, Or.inl rfl, rfl⟩
    · exact ⟨_, Or.inr ⟨_, rfl⟩, rfl⟩

/-- invokedynamic at a linked site that takes in two references -/
theorem own_indy {p : Program} {l : Launch} {e : Env} {R : Room} {s : State} {m : MethodId} {args : Array Value} {below : List Frame} {meth : Method} {c : Code} {T : State} {locs : List Loc} {cells slots : Nat} {Z : State} {a0 : Array Value} {h : Heap} {y : MethodName} {pc index : Nat} {σ : Lambda.Shape} {t1 t2 : FieldType}
    (X : Stand p l e R s m args below meth c T locs cells slots) (hx : p.tables.exec = Jvm.exec) (hZ : Z.Warmed39 s.vm) (hm : s.methodNamed? y = some m) (w : (Jvm.Cond.lambdaSite y pc index σ).before a0 Z = true)
    (hσ : (((σ.file y.cls).bind (layoutFields · 0)).map (·.2.1) = some #[t1, t2] ∧ σ.captured = [t1, t2] ∧ t1.isReference = true) ∧ t2.isReference = true) (hO : (Jvm.Cond.instantiable "java/lang/Object" 0).before a0 Z = true) (eT : T.heap = h)
    {g : JFrame} (hg : g.method = m) (hsize : g.locals.size = c.maxLocals) (hd : decode c.code g.pc = .ok (.invokedynamic index, 5)) {a b : Addr} {rest : List Value} (hs : g.stack = .ref b :: .ref a :: rest) (hpc : g.pc = pc)
    (hw : 2 * g.monitorRoom + (g.stack.map fun v => v.category).sum + 3072 ≤ R.locals) (hc : cells + 1 ≤ R.cells) (hl : slots + 2 ≤ R.slots) :
    ∃ T' h', Stand p l e R s m args below meth c T' locs (cells + 1) (slots + 2) ∧ T'.heap = h' ∧ Ext h h' ∧ ∀ t, Steps p.tables e below (T'.setTop { g with pc := g.pc + 5, stack := .ref h.size :: rest }) t → Steps p.tables e below (T.setTop g) t := by
  obtain ⟨⟨hlay, hcap, r1⟩, r2⟩ := hσ
  obtain ⟨cK, one, hat⟩ := Cond.lambdaSite_spec w
  obtain ⟨m', kS, cfS, i0, p0, lk, hm', hkS, hcfS, hshape, -, hfind, hmade, hcan, hlk⟩ := State.lambdaAt?_spec hat
  have hmm : m' = m := by
    have q : s.methodNamed? y = Z.methodNamed? y := State.methodNamed?_setVm hZ.alike y
    rw [q, hm'] at hm
    exact Option.some.inj hm
  subst hmm
  obtain ⟨rfl, rfl, -⟩ : lk = .makes cK ∧ one = none ∧ σ.captured ≠ [] := by
    rcases hlk with ⟨a, cell, -, -, h, -⟩ | h
    · rw [hcap] at h; cases h
    · exact h
  obtain ⟨kS', hkS', hnameS⟩ := className_of_methodNamed hm'
  cases hkS.symm.trans hkS'
  obtain ⟨bsm, nt, desc, site, hcp, hnt, hsite, hpar⟩ := Lambda.shapeOf?_site hshape
  obtain ⟨kK, hkK, htyK, hkindK, hhid⟩ := Lambda.made_types hmade hkS hO (by rw [hnameS]; exact hlay)
  obtain ⟨kb, hkb, eb⟩ := hZ.alike.2.2 _ _ hkS
  obtain ⟨kc, hkc, ec⟩ := hZ.alike.2.2 _ _ hkK
  have hit : kc.instanceTypes = #[t1, t2] := by rw [ec]; exact htyK
  have hkc2 : kc.kind = .ordinary := by rw [ec]; exact hkindK
  have nr : ∀ {t : FieldType} {x : Addr}, t.isReference = true → narrow t (.ref x) = .ref x := fun {t x} r => by cases t <;> first | rfl | cases r
  have hsl : ((kc.instanceTypes.toList.zip [(.ref a : Value), .ref b]).map fun (t, v) => narrow t v) = [.ref a, .ref b] := by
    rw [hit]; simp [nr r1, nr r2]
  have fr : ∀ {t : FieldType} {x : Addr}, t.isReference = true → fits t (.ref x) = true := fun {t x} r => by cases t <;> first | rfl | cases r
  obtain ⟨X1, st⟩ := X.lambdaMakes hx hg hsize hd (vals := [.ref a, .ref b]) (rest := rest) hkb (by rw [eb, hpc]; exact hfind) (by rw [eb]; exact hcfS) hcp hnt (parseLong_of_parse hsite) (by rw [hpar, hcap]; rfl) hs hkc
    (by rw [X.admits.platform]; exact hw) hc (by rw [hsl]; exact hl)
    (fun i v hv => by
      rw [hsl] at hv
      match i, hv with
      | 0, hv => simp at hv; subst hv; simp [State.fitsSlot, State.slotType?, hkc, hkc2, hit, fr r1]
      | 1, hv => simp at hv; subst hv; simp [State.fitsSlot, State.slotType?, hkc, hkc2, hit, fr r2]
      | k + 2, hv => simp at hv)
  rw [hsl] at X1 st
  subst eT
  exact ⟨_, _, X1, rfl, ⟨by show T.heap.size ≤ (T.heap.push _).size; rw [Array.size_push]; omega, fun x c q => by show (T.heap.push _)[x]? = some c; rw [Array.getElem?_push, if_neg (Nat.ne_of_lt (Array.getElem?_eq_some_iff.mp q).1)]; exact q⟩, st⟩

def mkL (n x y : Int32) : List Int32 := if n = 0 then [] else if n = 1 then [x] else [x, y]
theorem mkL_len (n x y : Int32) : ((mkL n x y).map lo8).length < 2147483648 := by
  rw [List.length_map]
  by_cases h0 : n = 0
  · simp [mkL, h0]
  by_cases h1 : n = 1
  · simp [mkL, h1]
  simp [mkL, h0, h1]
theorem mkL_eq {n m x y u v : Int32} (hn : n = 0 ∨ n = 1 ∨ n = 2) (hm : m = 0 ∨ m = 1 ∨ m = 2) (hx : ¬ x < 0 ∧ ¬ 255 < x) (hy : ¬ y < 0 ∧ ¬ 255 < y) (hu : ¬ u < 0 ∧ ¬ 255 < u) (hv : ¬ v < 0 ∧ ¬ 255 < v) :
    (mkL m u v).map lo8 = (mkL n x y).map lo8 ↔ n = m ∧ (n < 1 ∨ x = u) ∧ (n < 2 ∨ y = v) := by
  have a : lo8 u = lo8 x ↔ x = u := ⟨fun q => (lo8_inj hu hx q).symm, fun q => by rw [q]⟩
  have b : lo8 v = lo8 y ↔ y = v := ⟨fun q => (lo8_inj hv hy q).symm, fun q => by rw [q]⟩
  rcases hn with rfl | rfl | rfl <;> rcases hm with rfl | rfl | rfl <;> simp only [mkL, if_true, if_false, reduceIte, List.map_cons, List.map_nil, List.cons.injEq, and_true, true_and, a, b, show (0 : Int32) < 1 by decide, show (0 : Int32) < 2 by decide, show (1 : Int32) < 2 by decide, show ¬ (1 : Int32) < 1 by decide, show ¬ (2 : Int32) < 1 by decide, show ¬ (2 : Int32) < 2 by decide, show (1 : Int32) ≠ 0 by decide, show (2 : Int32) ≠ 0 by decide, show (2 : Int32) ≠ 1 by decide, show (0 : Int32) ≠ 1 by decide, show (0 : Int32) ≠ 2 by decide, show (1 : Int32) ≠ 2 by decide, false_or, true_or, false_and, reduceCtorEq, and_false, iff_self]
theorem mkL_le (n x y : Int32) : ((mkL n x y).map lo8).length ≤ 2 := by
  rw [List.length_map]
  by_cases h0 : n = 0
  · simp [mkL, h0]
  by_cases h1 : n = 1
  · simp [mkL, h1]
  simp [mkL, h0, h1]
theorem and255 (x : Int32) : (x &&& 255).toInt = x.toInt % 256 := by
  have h1 : (x &&& 255).toBitVec.toNat = x.toBitVec.toNat % 256 := by
    show (x.toBitVec &&& (255 : Int32).toBitVec).toNat = _
    rw [BitVec.toNat_and, show (255 : Int32).toBitVec.toNat = 2 ^ 8 - 1 from by decide, Nat.and_two_pow_sub_one_eq_mod]
  have e1 := BitVec.toInt_eq_toNat_cond (x &&& 255).toBitVec
  have e2 := BitVec.toInt_eq_toNat_cond x.toBitVec
  have h2 := x.toBitVec.isLt
  show (x &&& 255).toBitVec.toInt = x.toBitVec.toInt % 256
  rw [e1, e2, h1]
  split <;> split <;> omega
theorem chr_lo8 {x : Int32} (h : ¬ x < 0 ∧ ¬ 255 < x) : (lo8 x &&& (255 : Int32)).toUInt32.toUInt16.toUInt32.toInt32 = x := by
  obtain ⟨x0, x1⟩ := h
  have a : (255 : Int32).toInt = 255 := by decide
  rw [Int32.lt_iff_toInt_lt, Int32.toInt_zero] at x0
  rw [Int32.lt_iff_toInt_lt] at x1
  rw [i2c_mask]
  have cx := c_i2b x
  have m : (x.toInt8.toInt32 &&& 255).toInt = x.toInt8.toInt32.toInt % 256 := and255 (lo8 x)
  apply Int32.toInt_inj.mp
  show (x.toInt8.toInt32 &&& 255).toInt = x.toInt
  omega
theorem mkL_len_eq {n x y : Int32} (hn : n = 0 ∨ n = 1 ∨ n = 2) : ((mkL n x y).map lo8).length = n.toNatClampNeg := by
  rw [List.length_map]
  rcases hn with rfl | rfl | rfl
  · simp only [mkL, if_true]; rfl
  · simp only [mkL, show ¬ (1 : Int32) = 0 by decide, if_false, if_true]; rfl
  · simp only [mkL, show ¬ (2 : Int32) = 0 by decide, show ¬ (2 : Int32) = 1 by decide, if_false]; rfl

theorem d9_3 : decode jdk_52_method_21_code 3 = .ok (.iload 5, 2) := by decide +kernel
theorem d9_5 : decode jdk_52_method_21_code 5 = .ok (.iload 4, 2) := by decide +kernel
theorem d9_7 : decode jdk_52_method_21_code 7 = .ok (.if_icmp .ge 37, 3) := by decide +kernel
theorem d9_44 : decode jdk_52_method_21_code 44 = .ok (.iload 4, 2) := by decide +kernel
theorem d9_46 : decode jdk_52_method_21_code 46 = .ok (.ireturn, 1) := by decide +kernel
theorem d9_10 : decode jdk_52_method_21_code 10 = .ok (.aload_n 0, 1) := by decide +kernel
theorem d9_11 : decode jdk_52_method_21_code 11 = .ok (.iload_n 1, 1) := by decide +kernel
theorem d9_12 : decode jdk_52_method_21_code 12 = .ok (.caload, 1) := by decide +kernel
theorem d9_13 : decode jdk_52_method_21_code 13 = .ok (.istore 6, 2) := by decide +kernel
theorem d9_15 : decode jdk_52_method_21_code 15 = .ok (.iload 6, 2) := by decide +kernel
theorem d9_17 : decode jdk_52_method_21_code 17 = .ok (.sipush 255, 3) := by decide +kernel
theorem d9_20 : decode jdk_52_method_21_code 20 = .ok (.if_icmp .le 6, 3) := by decide +kernel
theorem d9_26 : decode jdk_52_method_21_code 26 = .ok (.aload_n 2, 1) := by decide +kernel
theorem d9_27 : decode jdk_52_method_21_code 27 = .ok (.iload_n 3, 1) := by decide +kernel
theorem d9_28 : decode jdk_52_method_21_code 28 = .ok (.iload 6, 2) := by decide +kernel
theorem d9_30 : decode jdk_52_method_21_code 30 = .ok (.i2b, 1) := by decide +kernel
theorem d9_31 : decode jdk_52_method_21_code 31 = .ok (.bastore, 1) := by decide +kernel
theorem d9_32 : decode jdk_52_method_21_code 32 = .ok (.iinc 1 1, 3) := by decide +kernel
theorem d9_35 : decode jdk_52_method_21_code 35 = .ok (.iinc 3 1, 3) := by decide +kernel
theorem d9_38 : decode jdk_52_method_21_code 38 = .ok (.iinc 5 1, 3) := by decide +kernel
theorem d9_41 : decode jdk_52_method_21_code 41 = .ok (.goto (-38), 3) := by decide +kernel
theorem own_st6 {v0 v1 v2 v3 v4 v5 : Value} {s6 : Slot} {x : Int32} (h : One s6) : storeLocals #[.val v0, .val v1, .val v2, .val v3, .val v4, .val v5, s6] 6 (.int x) = some #[.val v0, .val v1, .val v2, .val v3, .val v4, .val v5, .val (.int x)] := by
  rcases h with rfl | ⟨w, rfl, hw⟩
  · rfl
  · cases w <;> first | rfl | (simp [Value.category] at hw)

set_option maxRecDepth 65536 in
set_option maxHeartbeats 40000000 in
theorem cloop {l : Launch} {Z : State} {p : Program} {e : Env} {R : Room} {s b : State} {m : MethodId} {args : Array Value} {below : List Frame} {meth : Method} {c : Code} {K N : Nat} {Q : Option Value → Vm → Heap → List Loc → Prop} {ms : List Addr} {h0 : Heap} {n0 nb : Nat} (Cc : Cx Z p b m meth c "java/lang/StringUTF16" jdk_52_method_21_code 7 "compress" (some .int)) (a1 a2 : Addr) (k1 k2 : ClassId) (cs : List Int32) (hn : cs.length ≤ 4) (hr : ∀ x ∈ cs, ¬ x < 0 ∧ ¬ 255 < x) (ne12 : a1 ≠ a2) (hb0 : n0 ≤ nb) (hnb : nb ≤ h0.size) (fr_a2 : nb ≤ a2) (hm_a2 : a2 ∈ ms)
    (hQ : ∀ vm h L, Keep h0 h [a2] → Fr nb L → Arv Z h a2 k2 .byte (Int32.ofNat cs.length) (cs.map fun x => Value.int (lo8 x)) (.int 0) → Q (some (.int (Int32.ofNat cs.length))) vm h L) :
    ∀ (r i : Nat), i + r = cs.length → ∀ (T : State) (h : Heap) (locs : List Loc) (cells slots : Nat) (s6 : Slot), One s6 → Stand p l e R b m args below meth c T locs cells slots → T.heap = h → Old Z n0 h → Fr nb locs → Keep h0 h [a2] → Hd Z ms b.vm h → Bs s b h → Arv Z h a1 k1 .char (Int32.ofNat cs.length) (cs.map Value.int) (.int 0) → Arv Z h a2 k2 .byte (Int32.ofNat cs.length) ((cs.take i).map fun x => Value.int (lo8 x)) (.int 0) → cells ≤ K → slots ≤ N →
      Go p e s below K N (Hd Z ms) Q T (mkF m 3 #[.val (.ref a1), .val (.int (Int32.ofNat i)), .val (.ref a2), .val (.int (Int32.ofNat i)), .val (.int (Int32.ofNat cs.length)), .val (.int (Int32.ofNat i)), s6] []) := by
  obtain ⟨hx, hZ, hown, hby, hml, hnm, hret, hlk⟩ := id Cc
  intro r
  induction r with
  | zero =>
    intro i hi T h locs cells slots s6 one6 X eT O0 N0 K0 J0 B0 V1 V2 hK hN
    show Go p e s below _ _ _ _ T (mkF m 3 #[.val (.ref a1), .val (.int (Int32.ofNat i)), .val (.ref a2), .val (.int (Int32.ofNat i)), .val (.int (Int32.ofNat cs.length)), .val (.int (Int32.ofNat i)), s6] [])
    refine Go.of (fun _ hr => XS.iload X.here hx rfl (hb hby d9_3) rfl  hr) ?_
    show Go p e s below _ _ _ _ T (mkF m 5 #[.val (.ref a1), .val (.int (Int32.ofNat i)), .val (.ref a2), .val (.int (Int32.ofNat i)), .val (.int (Int32.ofNat cs.length)), .val (.int (Int32.ofNat i)), s6] [(.int (Int32.ofNat i))])
    refine Go.of (fun _ hr => XS.iload X.here hx rfl (hb hby d9_5) rfl  hr) ?_
    show Go p e s below _ _ _ _ T (mkF m 7 #[.val (.ref a1), .val (.int (Int32.ofNat i)), .val (.ref a2), .val (.int (Int32.ofNat i)), .val (.int (Int32.ofNat cs.length)), .val (.int (Int32.ofNat i)), s6] [(.int (Int32.ofNat cs.length)), (.int (Int32.ofNat i))])
    refine Go.of (fun _ hr => XS.icmpYes X.here hx rfl (pc0 := 7) (pc' := 44) rfl (hb hby d9_7) rfl (flt (oi_nlt (by omega) (by omega) (by omega))).2.1 (by decide) (by decide) hr) ?_
    show Go p e s below _ _ _ _ T (mkF m 44 #[.val (.ref a1), .val (.int (Int32.ofNat i)), .val (.ref a2), .val (.int (Int32.ofNat i)), .val (.int (Int32.ofNat cs.length)), .val (.int (Int32.ofNat i)), s6] [])
    refine Go.of (fun _ hr => XS.iload X.here hx rfl (hb hby d9_44) rfl  hr) ?_
    show Go p e s below _ _ _ _ T (mkF m 46 #[.val (.ref a1), .val (.int (Int32.ofNat i)), .val (.ref a2), .val (.int (Int32.ofNat i)), .val (.int (Int32.ofNat cs.length)), .val (.int (Int32.ofNat i)), s6] [(.int (Int32.ofNat cs.length))])
    exact Go.retI X hx hlk B0 J0 eT hret (hb hby d9_46) (by omega) (by omega) (fun _ _ => hQ _ _ _ K0 N0 (by have q := V2; rw [show i = cs.length by omega, List.take_length] at q; exact q))
  | succ r ih =>
    intro i hi T h locs cells slots s6 one6 X eT O0 N0 K0 J0 B0 V1 V2 hK hN
    show Go p e s below _ _ _ _ T (mkF m 3 #[.val (.ref a1), .val (.int (Int32.ofNat i)), .val (.ref a2), .val (.int (Int32.ofNat i)), .val (.int (Int32.ofNat cs.length)), .val (.int (Int32.ofNat i)), s6] [])
    refine Go.of (fun _ hr => XS.iload X.here hx rfl (hb hby d9_3) rfl  hr) ?_
    show Go p e s below _ _ _ _ T (mkF m 5 #[.val (.ref a1), .val (.int (Int32.ofNat i)), .val (.ref a2), .val (.int (Int32.ofNat i)), .val (.int (Int32.ofNat cs.length)), .val (.int (Int32.ofNat i)), s6] [(.int (Int32.ofNat i))])
    refine Go.of (fun _ hr => XS.iload X.here hx rfl (hb hby d9_5) rfl  hr) ?_
    show Go p e s below _ _ _ _ T (mkF m 7 #[.val (.ref a1), .val (.int (Int32.ofNat i)), .val (.ref a2), .val (.int (Int32.ofNat i)), .val (.int (Int32.ofNat cs.length)), .val (.int (Int32.ofNat i)), s6] [(.int (Int32.ofNat cs.length)), (.int (Int32.ofNat i))])
    refine Go.of (fun _ hr => XS.icmpNo X.here hx rfl (hb hby d9_7) rfl (tlt (oi_lt (by omega) (by omega) (by omega))).2.1 hr) ?_
    show Go p e s below _ _ _ _ T (mkF m 10 #[.val (.ref a1), .val (.int (Int32.ofNat i)), .val (.ref a2), .val (.int (Int32.ofNat i)), .val (.int (Int32.ofNat cs.length)), .val (.int (Int32.ofNat i)), s6] [])
    refine Go.of (fun _ hr => XS.aloadN X.here hx rfl (hb hby d9_10) rfl rfl hr) ?_
    show Go p e s below _ _ _ _ T (mkF m 11 #[.val (.ref a1), .val (.int (Int32.ofNat i)), .val (.ref a2), .val (.int (Int32.ofNat i)), .val (.int (Int32.ofNat cs.length)), .val (.int (Int32.ofNat i)), s6] [(.ref a1)])
    refine Go.of (fun _ hr => XS.iloadN X.here hx rfl (hb hby d9_11) rfl  hr) ?_
    show Go p e s below _ _ _ _ T (mkF m 12 #[.val (.ref a1), .val (.int (Int32.ofNat i)), .val (.ref a2), .val (.int (Int32.ofNat i)), .val (.int (Int32.ofNat cs.length)), .val (.int (Int32.ofNat i)), s6] [(.int (Int32.ofNat i)), (.ref a1)])
    obtain ⟨x, hxe⟩ : ∃ x, cs.getD i 0 = x := ⟨_, rfl⟩
    have hxr := hr _ (hxe ▸ mem_getD (show i < cs.length by omega))
    obtain ⟨cl101, Ar101, q101, S101, N101_, H101, G101⟩ := id V1
    have hin101 : ¬ ((Int32.ofNat i) < 0 ∨ cl101.slots.size ≤ ((Int32.ofNat i)).toNatClampNeg) := inb_of S101 ⟨oi_nn (by omega), oi_lt (by omega) (by omega) (by omega)⟩
    refine Go.of (fun _ hr => X.caload hx (j := (Int32.ofNat i)) (v := (.int x)) (by rw [eT]; exact Ar101.1) (State.isArrayOf_alike hZ.alike Ar101.2.1) Ar101.2.2 hin101 (H101.at hin101 (by rw [oi_nat (by omega), getD_int, hxe])) (g := (mkF m 12 #[.val (.ref a1), .val (.int (Int32.ofNat i)), .val (.ref a2), .val (.int (Int32.ofNat i)), .val (.int (Int32.ofNat cs.length)), .val (.int (Int32.ofNat i)), s6] [(.int (Int32.ofNat i)), (.ref a1)])) rfl rfl (hb hby d9_12) _ hr) ?_
    show Go p e s below _ _ _ _ T (mkF m 13 #[.val (.ref a1), .val (.int (Int32.ofNat i)), .val (.ref a2), .val (.int (Int32.ofNat i)), .val (.int (Int32.ofNat cs.length)), .val (.int (Int32.ofNat i)), s6] [(.int x)])
    refine Go.of (fun _ hr => XS.istore X.here hx rfl (hb hby d9_13) rfl (l' := #[.val (.ref a1), .val (.int (Int32.ofNat i)), .val (.ref a2), .val (.int (Int32.ofNat i)), .val (.int (Int32.ofNat cs.length)), .val (.int (Int32.ofNat i)), .val (.int x)]) (own_st6 one6) hr) ?_
    show Go p e s below _ _ _ _ T (mkF m 15 #[.val (.ref a1), .val (.int (Int32.ofNat i)), .val (.ref a2), .val (.int (Int32.ofNat i)), .val (.int (Int32.ofNat cs.length)), .val (.int (Int32.ofNat i)), .val (.int x)] [])
    refine Go.of (fun _ hr => XS.iload X.here hx rfl (hb hby d9_15) rfl  hr) ?_
    show Go p e s below _ _ _ _ T (mkF m 17 #[.val (.ref a1), .val (.int (Int32.ofNat i)), .val (.ref a2), .val (.int (Int32.ofNat i)), .val (.int (Int32.ofNat cs.length)), .val (.int (Int32.ofNat i)), .val (.int x)] [(.int x)])
    refine Go.of (fun _ hr => XS.sipush X.here hx rfl (hb hby d9_17) hr) ?_
    show Go p e s below _ _ _ _ T (mkF m 20 #[.val (.ref a1), .val (.int (Int32.ofNat i)), .val (.ref a2), .val (.int (Int32.ofNat i)), .val (.int (Int32.ofNat cs.length)), .val (.int (Int32.ofNat i)), .val (.int x)] [(.int (255 : Int32)), (.int x)])
    refine Go.of (fun _ hr => XS.icmpYes X.here hx rfl (pc0 := 20) (pc' := 26) rfl (hb hby d9_20) rfl (flt hxr.2).2.2.2 (by decide) (by decide) hr) ?_
    show Go p e s below _ _ _ _ T (mkF m 26 #[.val (.ref a1), .val (.int (Int32.ofNat i)), .val (.ref a2), .val (.int (Int32.ofNat i)), .val (.int (Int32.ofNat cs.length)), .val (.int (Int32.ofNat i)), .val (.int x)] [])
    refine Go.of (fun _ hr => XS.aloadN X.here hx rfl (hb hby d9_26) rfl rfl hr) ?_
    show Go p e s below _ _ _ _ T (mkF m 27 #[.val (.ref a1), .val (.int (Int32.ofNat i)), .val (.ref a2), .val (.int (Int32.ofNat i)), .val (.int (Int32.ofNat cs.length)), .val (.int (Int32.ofNat i)), .val (.int x)] [(.ref a2)])
    refine Go.of (fun _ hr => XS.iloadN X.here hx rfl (hb hby d9_27) rfl  hr) ?_
    show Go p e s below _ _ _ _ T (mkF m 28 #[.val (.ref a1), .val (.int (Int32.ofNat i)), .val (.ref a2), .val (.int (Int32.ofNat i)), .val (.int (Int32.ofNat cs.length)), .val (.int (Int32.ofNat i)), .val (.int x)] [(.int (Int32.ofNat i)), (.ref a2)])
    refine Go.of (fun _ hr => XS.iload X.here hx rfl (hb hby d9_28) rfl  hr) ?_
    show Go p e s below _ _ _ _ T (mkF m 30 #[.val (.ref a1), .val (.int (Int32.ofNat i)), .val (.ref a2), .val (.int (Int32.ofNat i)), .val (.int (Int32.ofNat cs.length)), .val (.int (Int32.ofNat i)), .val (.int x)] [(.int x), (.int (Int32.ofNat i)), (.ref a2)])
    refine Go.of (fun _ hr => XS.i2b X.here hx rfl (hb hby d9_30) rfl hr) ?_
    show Go p e s below _ _ _ _ T (mkF m 31 #[.val (.ref a1), .val (.int (Int32.ofNat i)), .val (.ref a2), .val (.int (Int32.ofNat i)), .val (.int (Int32.ofNat cs.length)), .val (.int (Int32.ofNat i)), .val (.int x)] [(.int (x.toInt8.toInt32)), (.int (Int32.ofNat i)), (.ref a2)])
    obtain ⟨cl102, Ar102, q102, S102, N102_, H102, G102⟩ := id V2
    have hin102 : ¬ (Int32.ofNat i < 0 ∨ cl102.slots.size ≤ (Int32.ofNat i).toNatClampNeg) := inb_of S102 ⟨oi_nn (by omega), oi_lt (by omega) (by omega) (by omega)⟩
    obtain ⟨T102, h102, X102, e102, W102, st102⟩ := stB X hx hZ eT Ar102 (j := Int32.ofNat i) hin102 (g := (mkF m 31 #[.val (.ref a1), .val (.int (Int32.ofNat i)), .val (.ref a2), .val (.int (Int32.ofNat i)), .val (.int (Int32.ofNat cs.length)), .val (.int (Int32.ofNat i)), .val (.int x)] [(.int (x.toInt8.toInt32)), (.int (Int32.ofNat i)), (.ref a2)])) rfl rfl (hb hby d9_31)
    rw [nar_b] at W102
    have V102 : Arv Z h102 a2 k2 .byte (Int32.ofNat cs.length) ((cs.take (i + 1)).map fun x => Value.int (lo8 x)) (.int 0) := by
        have q := own_push V2 W102 (by rw [oi_nat (by omega)]; simp; omega) (fits_b x)
        rw [← hxe, take_push cs (show i < cs.length by omega) (fun x => Value.int (lo8 x))] at q; exact q
    have N102 := Fr.snoc X102 N0 fr_a2
    have J102 := J0.wr W102 hm_a2
    have B102 := B0.mono (Nat.le_of_eq W102.size.symm)
    have O102 := O0.wr W102 (Nat.le_trans hb0 fr_a2)
    have K102 := K0.wr W102 (Or.inl (List.mem_of_getElem? (i := 0) rfl))
    refine Go.of (fun _ hr => st102 _ hr) ?_
    show Go p e s below _ _ _ _ T102 (mkF m 32 #[.val (.ref a1), .val (.int (Int32.ofNat i)), .val (.ref a2), .val (.int (Int32.ofNat i)), .val (.int (Int32.ofNat cs.length)), .val (.int (Int32.ofNat i)), .val (.int x)] [])
    refine Go.of (fun _ hr => XS.iinc X102.here hx rfl (hb hby d9_32) rfl (l' := #[.val (.ref a1), .val (.int ((Int32.ofNat i) + (1 : Int32))), .val (.ref a2), .val (.int (Int32.ofNat i)), .val (.int (Int32.ofNat cs.length)), .val (.int (Int32.ofNat i)), .val (.int x)]) rfl hr) ?_
    show Go p e s below _ _ _ _ T102 (mkF m 35 #[.val (.ref a1), .val (.int ((Int32.ofNat i) + (1 : Int32))), .val (.ref a2), .val (.int (Int32.ofNat i)), .val (.int (Int32.ofNat cs.length)), .val (.int (Int32.ofNat i)), .val (.int x)] [])
    refine Go.of (fun _ hr => XS.iinc X102.here hx rfl (hb hby d9_35) rfl (l' := #[.val (.ref a1), .val (.int ((Int32.ofNat i) + (1 : Int32))), .val (.ref a2), .val (.int ((Int32.ofNat i) + (1 : Int32))), .val (.int (Int32.ofNat cs.length)), .val (.int (Int32.ofNat i)), .val (.int x)]) rfl hr) ?_
    show Go p e s below _ _ _ _ T102 (mkF m 38 #[.val (.ref a1), .val (.int ((Int32.ofNat i) + (1 : Int32))), .val (.ref a2), .val (.int ((Int32.ofNat i) + (1 : Int32))), .val (.int (Int32.ofNat cs.length)), .val (.int (Int32.ofNat i)), .val (.int x)] [])
    refine Go.of (fun _ hr => XS.iinc X102.here hx rfl (hb hby d9_38) rfl (l' := #[.val (.ref a1), .val (.int ((Int32.ofNat i) + (1 : Int32))), .val (.ref a2), .val (.int ((Int32.ofNat i) + (1 : Int32))), .val (.int (Int32.ofNat cs.length)), .val (.int ((Int32.ofNat i) + (1 : Int32))), .val (.int x)]) rfl hr) ?_
    show Go p e s below _ _ _ _ T102 (mkF m 41 #[.val (.ref a1), .val (.int ((Int32.ofNat i) + (1 : Int32))), .val (.ref a2), .val (.int ((Int32.ofNat i) + (1 : Int32))), .val (.int (Int32.ofNat cs.length)), .val (.int ((Int32.ofNat i) + (1 : Int32))), .val (.int x)] [])
    refine Go.of (fun _ hr => XS.goto X102.here hx rfl (pc0 := 41) (pc' := 3) rfl (hb hby d9_41) (by decide) (by decide) hr) ?_
    show Go p e s below _ _ _ _ T102 (mkF m 3 #[.val (.ref a1), .val (.int ((Int32.ofNat i) + (1 : Int32))), .val (.ref a2), .val (.int ((Int32.ofNat i) + (1 : Int32))), .val (.int (Int32.ofNat cs.length)), .val (.int ((Int32.ofNat i) + (1 : Int32))), .val (.int x)] [])
    simp only [oi_succ (show i + 1 < 2147483648 by omega)]
    have f103 := (V1.other W102 ne12)
    exact ih (i + 1) (by omega) T102 h102 _ _ _ _ (One.val rfl) X102 e102 O102 N102 K102 J102 B102 f103 V102 hK hN

theorem pn0 : plainName "java/lang/StringUTF16" = true := by first | (simp [plainName, overriddenIn]; done) | decide +kernel
theorem d9_0 : decode jdk_52_method_21_code 0 = .ok (.iconst 0, 1) := by decide +kernel
theorem d9_1 : decode jdk_52_method_21_code 1 = .ok (.istore 5, 2) := by decide +kernel
set_option maxRecDepth 65536 in
set_option maxHeartbeats 40000000 in
theorem rm9 (l : Launch) (Z : State) (a0 : Array Value) (hw : ∀ d ∈ tables_1, d.before a0 Z = true) (ws : List Jvm.Cond) (a1 a2 : Addr) (k1 k2 : ClassId) (cs : List Int32) (ms : List Addr) (h0 : Heap) (n0 : Nat) (O0 : Old Z n0 h0) (nb : Nat) (hb0 : n0 ≤ nb) (hnb : nb ≤ h0.size) (fr_a2 : nb ≤ a2) (hm_a2 : a2 ∈ ms) (hn : cs.length ≤ 4) (hr : ∀ x ∈ cs, ¬ x < 0 ∧ ¬ 255 < x) (ne12 : a1 ≠ a2) (V1 : Arv Z h0 a1 k1 .char (Int32.ofNat cs.length) (cs.map Value.int) (.int 0)) (V2 : Arv Z h0 a2 k2 .byte (Int32.ofNat cs.length) [] (.int 0)) :
    Con l Z ms (⟨"java/lang/StringUTF16", "compress", "([CI[BII)I"⟩ : MethodName) jdk_52_method_21_code 7 (some .int) ws ({ frames := 0, cells := 0, slots := 0, locals := 0 } : Room) #[(.ref a1), (.int (0 : Int32)), (.ref a2), (.int (0 : Int32)), (.int (Int32.ofNat cs.length))] h0 (fun v vm h L => v = some (.int (Int32.ofNat cs.length)) ∧ Fr nb L ∧ Keep h0 h [a2] ∧ Arv Z h a2 k2 .byte (Int32.ofNat cs.length) (cs.map fun x => Value.int (lo8 x)) (.int 0)) := by
  refine Con.mk (plainFor_of_name pn0) ?_
  intro p e s m below meth c s₁ Cc X0 e0 eb J0 B0 M0
  obtain ⟨hx, hZ, hown, hby, hml, hnm, hret, hlk⟩ := id Cc
  have N0 := Fr.nil nb
  have K0 := Keep.refl h0 [a2]
  show Go p e s below _ _ _ _ s₁ (mkF m 0 #[.val (.ref a1), .val (.int (0 : Int32)), .val (.ref a2), .val (.int (0 : Int32)), .val (.int (Int32.ofNat cs.length)), .unset, .unset] [])
  refine Go.of (fun _ hr => XS.iconst X0.here hx rfl (hb hby d9_0) hr) ?_
  show Go p e s below _ _ _ _ s₁ (mkF m 1 #[.val (.ref a1), .val (.int (0 : Int32)), .val (.ref a2), .val (.int (0 : Int32)), .val (.int (Int32.ofNat cs.length)), .unset, .unset] [(.int (0 : Int32))])
  refine Go.of (fun _ hr => XS.istore X0.here hx rfl (hb hby d9_1) rfl (l' := #[.val (.ref a1), .val (.int (0 : Int32)), .val (.ref a2), .val (.int (0 : Int32)), .val (.int (Int32.ofNat cs.length)), .val (.int (0 : Int32)), .unset]) rfl hr) ?_
  show Go p e s below _ _ _ _ s₁ (mkF m 3 #[.val (.ref a1), .val (.int (0 : Int32)), .val (.ref a2), .val (.int (0 : Int32)), .val (.int (Int32.ofNat cs.length)), .val (.int (0 : Int32)), .unset] [])
  exact cloop Cc a1 a2 k1 k2 cs hn hr ne12 hb0 hnb fr_a2 hm_a2 (fun vm h L q1 q2 q3 => ⟨rfl, q2, q1, q3⟩) cs.length 0 (Nat.zero_add _) s₁ h0 _ _ _ _ One.u X0 e0 O0 N0 K0 J0 B0 V1 V2 (by decide) (by decide)

theorem d8_0 : decode jdk_52_method_16_code 0 = .ok (.iload_n 2, 1) := by decide +kernel
theorem d8_1 : decode jdk_52_method_16_code 1 = .ok (.newarray .byte, 2) := by decide +kernel
theorem d8_3 : decode jdk_52_method_16_code 3 = .ok (.astore_n 3, 1) := by decide +kernel
theorem d8_4 : decode jdk_52_method_16_code 4 = .ok (.aload_n 0, 1) := by decide +kernel
theorem d8_5 : decode jdk_52_method_16_code 5 = .ok (.iload_n 1, 1) := by decide +kernel
theorem d8_6 : decode jdk_52_method_16_code 6 = .ok (.aload_n 3, 1) := by decide +kernel
theorem d8_7 : decode jdk_52_method_16_code 7 = .ok (.iconst 0, 1) := by decide +kernel
theorem d8_8 : decode jdk_52_method_16_code 8 = .ok (.iload_n 2, 1) := by decide +kernel
theorem d8_9 : decode jdk_52_method_16_code 9 = .ok (.invokestatic 115, 3) := by decide +kernel
theorem pd0 : parseMethodDescriptor "([CI[BII)I" = some ⟨[(.array .char), .int, (.array .byte), .int, .int], some .int⟩ := by decide +kernel
theorem d8_12 : decode jdk_52_method_16_code 12 = .ok (.istore 4, 2) := by decide +kernel
theorem d8_14 : decode jdk_52_method_16_code 14 = .ok (.iload 4, 2) := by decide +kernel
theorem d8_16 : decode jdk_52_method_16_code 16 = .ok (.iload_n 2, 1) := by decide +kernel
theorem d8_17 : decode jdk_52_method_16_code 17 = .ok (.if_icmp .eq 40, 3) := by decide +kernel
theorem d8_57 : decode jdk_52_method_16_code 57 = .ok (.aload_n 3, 1) := by decide +kernel
theorem d8_58 : decode jdk_52_method_16_code 58 = .ok (.areturn, 1) := by decide +kernel
set_option maxRecDepth 65536 in
set_option maxHeartbeats 40000000 in
theorem rm8 (l : Launch) (Z : State) (a0 : Array Value) (hw : ∀ d ∈ tables_1, d.before a0 Z = true) (ws : List Jvm.Cond) (a1 : Addr) (k1 : ClassId) (cs : List Int32) (ms : List Addr) (h0 : Heap) (n0 : Nat) (O0 : Old Z n0 h0) (nb : Nat) (hb0 : n0 ≤ nb) (hnb : nb ≤ h0.size) (hn : cs.length ≤ 4) (hr : ∀ x ∈ cs, ¬ x < 0 ∧ ¬ 255 < x) (V1 : Arv Z h0 a1 k1 .char (Int32.ofNat cs.length) (cs.map Value.int) (.int 0)) :
    Con l Z ms (⟨"java/lang/StringUTF16", "compress", "([CII)[B"⟩ : MethodName) jdk_52_method_16_code 6 (some (.array .byte)) ws ({ frames := 1, cells := 1, slots := 4, locals := 18 } : Room) #[(.ref a1), (.int (0 : Int32)), (.int (Int32.ofNat cs.length))] h0 (fun v vm h L => ∃ d k, v = some (.ref d) ∧ Fr nb L ∧ Ext h0 h ∧ h0.size ≤ d ∧ Arv Z h d k .byte (Int32.ofNat cs.length) (cs.map fun x => Value.int (lo8 x)) (.int 0)) := by
  refine Con.mk (plainFor_of_name pn0) ?_
  intro p e s m below meth c s₁ Cc X0 e0 eb J0 B0 M0
  obtain ⟨hx, hZ, hown, hby, hml, hnm, hret, hlk⟩ := id Cc
  have N0 := Fr.nil h0.size
  have K0 := Keep.refl h0 []
  show Go p e s below _ _ _ _ s₁ (mkF m 0 #[.val (.ref a1), .val (.int (0 : Int32)), .val (.int (Int32.ofNat cs.length)), .unset, .unset, .unset] [])
  refine Go.of (fun _ hr => XS.iloadN X0.here hx rfl (hb hby d8_0) rfl  hr) ?_
  show Go p e s below _ _ _ _ s₁ (mkF m 1 #[.val (.ref a1), .val (.int (0 : Int32)), .val (.int (Int32.ofNat cs.length)), .unset, .unset, .unset] [(.int (Int32.ofNat cs.length))])
  obtain ⟨T101, h101, k101, X101, e101, E101, A101, st101⟩ := newP X0 hx hZ (hw _ (List.mem_of_getElem? (i := 35) rfl)) e0 (g := (mkF m 1 #[.val (.ref a1), .val (.int (0 : Int32)), .val (.int (Int32.ofNat cs.length)), .unset, .unset, .unset] [(.int (Int32.ofNat cs.length))])) rfl (hb hby d8_1) rfl (oi_nn (by omega)) (cap := 4) (by rw [oi_nat (by omega)]; exact hn) (by decide) (by decide) (by decide)
  obtain ⟨o101, g101⟩ : ∃ z, z = h0.size := ⟨_, rfl⟩
  rw [← g101] at A101 st101
  have ne_a1_o101 : a1 ≠ o101 := Nat.ne_of_lt (Nat.lt_of_lt_of_le V1.lt (Nat.le_of_eq g101.symm))
  have V101 := Arv.new A101 (oi_nn (by omega))
  have lt101 : o101 < h101.size := A101.lt
  have J101 := J0.add E101 g101 lt101
  have B101 := B0.mono E101.1
  have O101 := O0.ext E101
  have sz101 : h0.size ≤ o101 := Nat.le_trans K0.1 (Nat.le_of_eq g101.symm)
  have fr101 : h0.size ≤ o101 := sz101
  have K101 := K0.ext E101
  refine Go.of (fun _ hr => st101 _ hr) ?_
  show Go p e s below _ _ _ _ T101 (mkF m 3 #[.val (.ref a1), .val (.int (0 : Int32)), .val (.int (Int32.ofNat cs.length)), .unset, .unset, .unset] [(.ref o101)])
  refine Go.of (fun _ hr => XS.astoreN X101.here hx rfl (hb hby d8_3) rfl rfl (l' := #[.val (.ref a1), .val (.int (0 : Int32)), .val (.int (Int32.ofNat cs.length)), .val (.ref o101), .unset, .unset]) rfl hr) ?_
  show Go p e s below _ _ _ _ T101 (mkF m 4 #[.val (.ref a1), .val (.int (0 : Int32)), .val (.int (Int32.ofNat cs.length)), .val (.ref o101), .unset, .unset] [])
  refine Go.of (fun _ hr => XS.aloadN X101.here hx rfl (hb hby d8_4) rfl rfl hr) ?_
  show Go p e s below _ _ _ _ T101 (mkF m 5 #[.val (.ref a1), .val (.int (0 : Int32)), .val (.int (Int32.ofNat cs.length)), .val (.ref o101), .unset, .unset] [(.ref a1)])
  refine Go.of (fun _ hr => XS.iloadN X101.here hx rfl (hb hby d8_5) rfl  hr) ?_
  show Go p e s below _ _ _ _ T101 (mkF m 6 #[.val (.ref a1), .val (.int (0 : Int32)), .val (.int (Int32.ofNat cs.length)), .val (.ref o101), .unset, .unset] [(.int (0 : Int32)), (.ref a1)])
  refine Go.of (fun _ hr => XS.aloadN X101.here hx rfl (hb hby d8_6) rfl rfl hr) ?_
  show Go p e s below _ _ _ _ T101 (mkF m 7 #[.val (.ref a1), .val (.int (0 : Int32)), .val (.int (Int32.ofNat cs.length)), .val (.ref o101), .unset, .unset] [(.ref o101), (.int (0 : Int32)), (.ref a1)])
  refine Go.of (fun _ hr => XS.iconst X101.here hx rfl (hb hby d8_7) hr) ?_
  show Go p e s below _ _ _ _ T101 (mkF m 8 #[.val (.ref a1), .val (.int (0 : Int32)), .val (.int (Int32.ofNat cs.length)), .val (.ref o101), .unset, .unset] [(.int (0 : Int32)), (.ref o101), (.int (0 : Int32)), (.ref a1)])
  refine Go.of (fun _ hr => XS.iloadN X101.here hx rfl (hb hby d8_8) rfl  hr) ?_
  show Go p e s below _ _ _ _ T101 (mkF m 9 #[.val (.ref a1), .val (.int (0 : Int32)), .val (.int (Int32.ofNat cs.length)), .val (.ref o101), .unset, .unset] [(.int (Int32.ofNat cs.length)), (.int (0 : Int32)), (.ref o101), (.int (0 : Int32)), (.ref a1)])
  have f103 := (V1.ext E101)
  obtain ⟨_, b102, T102, h102, L102, e102, Cc102, X102, B102, J102, g102, hQ102, st102⟩ := own_callS Cc B101 J101 X101 (hw _ (List.mem_of_getElem? (i := 36) rfl)) (hw _ (List.mem_of_getElem? (i := 37) rfl)) (hw _ (List.mem_of_getElem? (i := 33) rfl)) (hw _ (List.mem_of_getElem? (i := 38) rfl)) (by decide) (rm9 l Z a0 hw [] a1 o101 _ _ cs _ h101 n0 O101 h0.size (own_ole O0) K101.1 fr101 (List.mem_cons_self ..) hn hr ne_a1_o101 f103 V101) e101 (g := (mkF m 9 #[.val (.ref a1), .val (.int (0 : Int32)), .val (.int (Int32.ofNat cs.length)), .val (.ref o101), .unset, .unset] [(.int (Int32.ofNat cs.length)), (.int (0 : Int32)), (.ref o101), (.int (0 : Int32)), (.ref a1)])) rfl (by rw [hml]; rfl) (argsL := [(.ref a1), (.int (0 : Int32)), (.ref o101), (.int (0 : Int32)), (.int (Int32.ofNat cs.length))]) (rest := []) (lenOf pd0 rfl) rfl (W := 0) (by show 2 * 0 + _ ≤ _; exact Nat.le_of_eq rfl) (hb hby d8_9) (by decide) (by decide) (by decide) (by decide)
  obtain ⟨rfl, Nq102, Kq102, Vd102⟩ := hQ102
  have N102 := Fr.app N0 Nq102
  obtain ⟨hx, hZ, hown, hby, hml, hnm, hret, hlk⟩ := id Cc102
  have K102 := K101.trans Kq102 (allS (Or.inr sz101) all0)
  have O102 := O101.keep Kq102 (allS (Nat.le_trans (own_ole O0) fr101) all0)
  refine Go.of st102 ?_
  show Go p e s below _ _ _ _ T102 (mkF m 12 #[.val (.ref a1), .val (.int (0 : Int32)), .val (.int (Int32.ofNat cs.length)), .val (.ref o101), .unset, .unset] [(.int (Int32.ofNat cs.length))])
  refine Go.of (fun _ hr => XS.istore X102.here hx rfl (hb hby d8_12) rfl (l' := #[.val (.ref a1), .val (.int (0 : Int32)), .val (.int (Int32.ofNat cs.length)), .val (.ref o101), .val (.int (Int32.ofNat cs.length)), .unset]) rfl hr) ?_
  show Go p e s below _ _ _ _ T102 (mkF m 14 #[.val (.ref a1), .val (.int (0 : Int32)), .val (.int (Int32.ofNat cs.length)), .val (.ref o101), .val (.int (Int32.ofNat cs.length)), .unset] [])
  refine Go.of (fun _ hr => XS.iload X102.here hx rfl (hb hby d8_14) rfl  hr) ?_
  show Go p e s below _ _ _ _ T102 (mkF m 16 #[.val (.ref a1), .val (.int (0 : Int32)), .val (.int (Int32.ofNat cs.length)), .val (.ref o101), .val (.int (Int32.ofNat cs.length)), .unset] [(.int (Int32.ofNat cs.length))])
  refine Go.of (fun _ hr => XS.iloadN X102.here hx rfl (hb hby d8_16) rfl  hr) ?_
  show Go p e s below _ _ _ _ T102 (mkF m 17 #[.val (.ref a1), .val (.int (0 : Int32)), .val (.int (Int32.ofNat cs.length)), .val (.ref o101), .val (.int (Int32.ofNat cs.length)), .unset] [(.int (Int32.ofNat cs.length)), (.int (Int32.ofNat cs.length))])
  refine Go.of (fun _ hr => XS.icmpYes X102.here hx rfl (pc0 := 17) (pc' := 57) rfl (hb hby d8_17) rfl (teq rfl).1 (by decide) (by decide) hr) ?_
  show Go p e s below _ _ _ _ T102 (mkF m 57 #[.val (.ref a1), .val (.int (0 : Int32)), .val (.int (Int32.ofNat cs.length)), .val (.ref o101), .val (.int (Int32.ofNat cs.length)), .unset] [])
  refine Go.of (fun _ hr => XS.aloadN X102.here hx rfl (hb hby d8_57) rfl rfl hr) ?_
  show Go p e s below _ _ _ _ T102 (mkF m 58 #[.val (.ref a1), .val (.int (0 : Int32)), .val (.int (Int32.ofNat cs.length)), .val (.ref o101), .val (.int (Int32.ofNat cs.length)), .unset] [(.ref o101)])
  exact Go.retA X102 hx hlk B102 (J102.sub fun x hx => (List.mem_cons_of_mem _ hx)) e102 hret rfl rfl (hb hby d8_58) (by decide) (by decide) (fun vm_ hw_ => ⟨_, _, rfl, (fun y hy => Nat.le_trans hnb (N102 y hy)), keep_ext K102, sz101, Vd102⟩)

theorem d10_0 : decode jdk_52_method_15_code 0 = .ok (.iload_n 1, 1) := by decide +kernel
theorem d10_1 : decode jdk_52_method_15_code 1 = .ok (.aload_n 0, 1) := by decide +kernel
theorem d10_2 : decode jdk_52_method_15_code 2 = .ok (.arraylength, 1) := by decide +kernel
theorem d10_3 : decode jdk_52_method_15_code 3 = .ok (.isub, 1) := by decide +kernel
theorem d10_4 : decode jdk_52_method_15_code 4 = .ok (.bipush 31, 2) := by decide +kernel
theorem d10_6 : decode jdk_52_method_15_code 6 = .ok (.iushr, 1) := by decide +kernel
theorem d10_7 : decode jdk_52_method_15_code 7 = .ok (.i2b, 1) := by decide +kernel
theorem d10_8 : decode jdk_52_method_15_code 8 = .ok (.ireturn, 1) := by decide +kernel
set_option maxRecDepth 65536 in
set_option maxHeartbeats 40000000 in
theorem rm10 (l : Launch) (Z : State) (a0 : Array Value) (hw : ∀ d ∈ tables_1, d.before a0 Z = true) (ws : List Jvm.Cond) (a1 : Addr) (k1 : ClassId) (z1 : Int32) (vs : List Value) (dv : Value) (ms : List Addr) (h0 : Heap) (n0 : Nat) (O0 : Old Z n0 h0) (nb : Nat) (hb0 : n0 ≤ nb) (hnb : nb ≤ h0.size) (V1 : Arv Z h0 a1 k1 .byte z1 vs dv) :
    Con l Z ms (⟨"java/lang/StringUTF16", "coderFromArrayLen", "([BI)B"⟩ : MethodName) jdk_52_method_15_code 2 (some .byte) ws ({ frames := 0, cells := 0, slots := 0, locals := 0 } : Room) #[(.ref a1), (.int z1)] h0 (fun v vm h L => v = some (.int 0) ∧ Fr nb L ∧ h = h0) := by
  refine Con.mk (plainFor_of_name pn0) ?_
  intro p e s m below meth c s₁ Cc X0 e0 eb J0 B0 M0
  obtain ⟨hx, hZ, hown, hby, hml, hnm, hret, hlk⟩ := id Cc
  have N0 := Fr.nil h0.size
  have K0 := Keep.refl h0 []
  show Go p e s below _ _ _ _ s₁ (mkF m 0 #[.val (.ref a1), .val (.int z1)] [])
  refine Go.of (fun _ hr => XS.iloadN X0.here hx rfl (hb hby d10_0) rfl  hr) ?_
  show Go p e s below _ _ _ _ s₁ (mkF m 1 #[.val (.ref a1), .val (.int z1)] [(.int z1)])
  refine Go.of (fun _ hr => XS.aloadN X0.here hx rfl (hb hby d10_1) rfl rfl hr) ?_
  show Go p e s below _ _ _ _ s₁ (mkF m 2 #[.val (.ref a1), .val (.int z1)] [(.ref a1), (.int z1)])
  obtain ⟨cl101, Ar101, q101, S101, N101_, H101, G101⟩ := id V1
  refine Go.of (fun _ hr => X0.arraylength hx (by rw [e0]; exact Ar101.1) (State.isArrayOf_alike hZ.alike Ar101.2.1) (g := (mkF m 2 #[.val (.ref a1), .val (.int z1)] [(.ref a1), (.int z1)])) rfl rfl (hb hby d10_2) _ hr) ?_
  rw [len_of S101 N101_]
  show Go p e s below _ _ _ _ s₁ (mkF m 3 #[.val (.ref a1), .val (.int z1)] [(.int z1), (.int z1)])
  refine Go.of (fun _ hr => XS.isub X0.here hx rfl (hb hby d10_3) rfl hr) ?_
  show Go p e s below _ _ _ _ s₁ (mkF m 4 #[.val (.ref a1), .val (.int z1)] [(.int (z1 - z1))])
  rw [Int32.sub_self]
  show Go p e s below _ _ _ _ s₁ (mkF m 4 #[.val (.ref a1), .val (.int z1)] [(.int (0 : Int32))])
  refine Go.of (fun _ hr => XS.bipush X0.here hx rfl (hb hby d10_4) hr) ?_
  show Go p e s below _ _ _ _ s₁ (mkF m 6 #[.val (.ref a1), .val (.int z1)] [(.int (31 : Int32)), (.int (0 : Int32))])
  refine Go.of (fun _ hr => XS.iushr X0.here hx rfl (hb hby d10_6) rfl hr) ?_
  show Go p e s below _ _ _ _ s₁ (mkF m 7 #[.val (.ref a1), .val (.int z1)] [(.int (((0 : Int32).toUInt32 >>> ((31 : Int32) &&& 31).toUInt32).toInt32))])
  refine Go.of (fun _ hr => XS.i2b X0.here hx rfl (hb hby d10_7) rfl hr) ?_
  show Go p e s below _ _ _ _ s₁ (mkF m 8 #[.val (.ref a1), .val (.int z1)] [(.int ((((0 : Int32).toUInt32 >>> ((31 : Int32) &&& 31).toUInt32).toInt32).toInt8.toInt32))])
  exact Go.retN X0 hx hlk B0 J0 e0 (t := .byte) (z' := ((((0 : Int32).toUInt32 >>> ((31 : Int32) &&& 31).toUInt32).toInt32).toInt8.toInt32)) hret (by simp) (hb hby d10_8) (by decide) (by decide) (by decide) (fun vm_ hw_ => ⟨rfl, (fun y hy => Nat.le_trans hnb (N0 y hy)), rfl⟩)

theorem pn1 : plainName "java/lang/String" = true := by first | (simp [plainName, overriddenIn]; done) | decide +kernel
theorem d6_0 : decode jdk_42_method_149_code 0 = .ok (.aload_n 0, 1) := by decide +kernel
theorem d6_1 : decode jdk_42_method_149_code 1 = .ok (.invokespecial 1, 3) := by decide +kernel
theorem d6_4 : decode jdk_42_method_149_code 4 = .ok (.iload_n 3, 1) := by decide +kernel
theorem d6_5 : decode jdk_42_method_149_code 5 = .ok (.ifCond .ne 22, 3) := by decide +kernel
theorem d6_27 : decode jdk_42_method_149_code 27 = .ok (.getstatic 38, 3) := by decide +kernel
theorem d6_30 : decode jdk_42_method_149_code 30 = .ok (.ifCond .eq 28, 3) := by decide +kernel
theorem d6_33 : decode jdk_42_method_149_code 33 = .ok (.aload_n 1, 1) := by decide +kernel
theorem d6_34 : decode jdk_42_method_149_code 34 = .ok (.iload_n 2, 1) := by decide +kernel
theorem d6_35 : decode jdk_42_method_149_code 35 = .ok (.iload_n 3, 1) := by decide +kernel
theorem d6_36 : decode jdk_42_method_149_code 36 = .ok (.invokestatic 177, 3) := by decide +kernel
theorem pd1 : parseMethodDescriptor "([CII)[B" = some ⟨[(.array .char), .int, .int], some (.array .byte)⟩ := by decide +kernel
theorem d6_39 : decode jdk_42_method_149_code 39 = .ok (.astore 5, 2) := by decide +kernel
theorem d6_41 : decode jdk_42_method_149_code 41 = .ok (.aload_n 0, 1) := by decide +kernel
theorem d6_42 : decode jdk_42_method_149_code 42 = .ok (.aload 5, 2) := by decide +kernel
theorem d6_44 : decode jdk_42_method_149_code 44 = .ok (.iload_n 3, 1) := by decide +kernel
theorem d6_45 : decode jdk_42_method_149_code 45 = .ok (.invokestatic 47, 3) := by decide +kernel
theorem pd2 : parseMethodDescriptor "([BI)B" = some ⟨[(.array .byte), .int], some .byte⟩ := by decide +kernel
theorem d6_48 : decode jdk_42_method_149_code 48 = .ok (.putfield 15, 3) := by decide +kernel
theorem d6_51 : decode jdk_42_method_149_code 51 = .ok (.aload_n 0, 1) := by decide +kernel
theorem d6_52 : decode jdk_42_method_149_code 52 = .ok (.aload 5, 2) := by decide +kernel
theorem d6_54 : decode jdk_42_method_149_code 54 = .ok (.putfield 9, 3) := by decide +kernel
theorem d6_57 : decode jdk_42_method_149_code 57 = .ok (.return_, 1) := by decide +kernel
set_option maxRecDepth 65536 in
set_option maxHeartbeats 40000000 in
theorem rm6 (l : Launch) (Z : State) (a0 : Array Value) (hw : ∀ d ∈ tables_1, d.before a0 Z = true) (ws : List Jvm.Cond) (a1 a2 : Addr) (k2 : ClassId) (cs : List Int32) (u1 u2 : Value) (zc : Int32) (ms : List Addr) (h0 : Heap) (n0 : Nat) (O0 : Old Z n0 h0) (nb : Nat) (hb0 : n0 ≤ nb) (hnb : nb ≤ h0.size) (fr_a1 : nb ≤ a1) (hm_a1 : a1 ∈ ms) (hn : cs.length ≤ 4) (hr : ∀ x ∈ cs, ¬ x < 0 ∧ ¬ 255 < x) (hpos : 0 < cs.length) (V1 : Arv Z h0 a2 k2 .char (Int32.ofNat cs.length) (cs.map Value.int) (.int 0)) (ne12 : a2 ≠ a1) (E1 : Exa Z h0 a1 "java/lang/String") (F1 : Fld Z h0 a1 "java/lang/String" "value" "[B" u1) (F2 : Fld Z h0 a1 "java/lang/String" "coder" "B" u2) (S_C : Sta Z Z.heap "java/lang/String" "COMPACT_STRINGS" "Z" (.int zc)) (hzc : ¬ zc = 0) :
    Con l Z ms (⟨"java/lang/String", "<init>", "([CIILjava/lang/Void;)V"⟩ : MethodName) jdk_42_method_149_code 6 none ws ({ frames := 2, cells := 1, slots := 4, locals := 35 } : Room) #[(.ref a1), (.ref a2), (.int (0 : Int32)), (.int (Int32.ofNat cs.length)), .null] h0 (fun v vm h L => v = none ∧ Fr nb L ∧ Keep h0 h [a1] ∧ ∃ t k, t ∉ ms ∧ Fld Z h a1 "java/lang/String" "value" "[B" (.ref t) ∧ Fld Z h a1 "java/lang/String" "coder" "B" (.int 0) ∧ Arv Z h t k .byte (Int32.ofNat (cs.map lo8).length) ((cs.map lo8).map Value.int) (.int 0)) := by
  refine Con.mk (plainFor_of_name pn1) ?_
  intro p e s m below meth c s₁ Cc X0 e0 eb J0 B0 M0
  obtain ⟨hx, hZ, hown, hby, hml, hnm, hret, hlk⟩ := id Cc
  have N0 := Fr.nil nb
  have K0 := Keep.refl h0 [a1]
  show Go p e s below _ _ _ _ s₁ (mkF m 0 #[.val (.ref a1), .val (.ref a2), .val (.int (0 : Int32)), .val (.int (Int32.ofNat cs.length)), .val .null, .unset] [])
  refine Go.of (fun _ hr => XS.aloadN X0.here hx rfl (hb hby d6_0) rfl rfl hr) ?_
  show Go p e s below _ _ _ _ s₁ (mkF m 1 #[.val (.ref a1), .val (.ref a2), .val (.int (0 : Int32)), .val (.int (Int32.ofNat cs.length)), .val .null, .unset] [(.ref a1)])
  obtain ⟨T101, X101, e101, st101⟩ := initO X0 hx hZ hown (hw _ (List.mem_of_getElem? (i := 27) rfl)) (hw _ (List.mem_of_getElem? (i := 28) rfl)) (hw _ (List.mem_of_getElem? (i := 29) rfl)) e0 (g := (mkF m 1 #[.val (.ref a1), .val (.ref a2), .val (.int (0 : Int32)), .val (.int (Int32.ofNat cs.length)), .val .null, .unset] [(.ref a1)])) rfl (by rw [hml]; rfl) rfl (hb hby d6_1) (by decide) (W := 0) (by show 2 * 0 + _ ≤ _; exact Nat.le_of_eq rfl) (by decide)
  refine Go.of (fun _ hr => st101 _ hr) ?_
  show Go p e s below _ _ _ _ T101 (mkF m 4 #[.val (.ref a1), .val (.ref a2), .val (.int (0 : Int32)), .val (.int (Int32.ofNat cs.length)), .val .null, .unset] [])
  refine Go.of (fun _ hr => XS.iloadN X101.here hx rfl (hb hby d6_4) rfl  hr) ?_
  show Go p e s below _ _ _ _ T101 (mkF m 5 #[.val (.ref a1), .val (.ref a2), .val (.int (0 : Int32)), .val (.int (Int32.ofNat cs.length)), .val .null, .unset] [(.int (Int32.ofNat cs.length))])
  refine Go.of (fun _ hr => XS.ifYes X101.here hx rfl (pc0 := 5) (pc' := 27) rfl (hb hby d6_5) rfl ((if0 _ _).trans (feq (fun q => by have r := congrArg Int32.toInt q; rw [oi_toInt (by omega), Int32.toInt_zero] at r; omega)).2) (by decide) (by decide) hr) ?_
  show Go p e s below _ _ _ _ T101 (mkF m 27 #[.val (.ref a1), .val (.ref a2), .val (.int (0 : Int32)), .val (.int (Int32.ofNat cs.length)), .val .null, .unset] [])
  obtain ⟨T102, X102, e102, st102⟩ := getS2 X101 hx hZ hown (host := "") (Or.inl (hw _ (List.mem_of_getElem? (i := 30) rfl))) Via.refl e101 (S_C.ext O0.2) (g := (mkF m 27 #[.val (.ref a1), .val (.ref a2), .val (.int (0 : Int32)), .val (.int (Int32.ofNat cs.length)), .val .null, .unset] [])) rfl (hb hby d6_27)
  refine Go.of (fun _ hr => st102 _ hr) ?_
  show Go p e s below _ _ _ _ T102 (mkF m 30 #[.val (.ref a1), .val (.ref a2), .val (.int (0 : Int32)), .val (.int (Int32.ofNat cs.length)), .val .null, .unset] [(.int zc)])
  refine Go.of (fun _ hr => XS.ifNo X102.here hx rfl (hb hby d6_30) rfl ((if0 _ _).trans (feq hzc).1) hr) ?_
  show Go p e s below _ _ _ _ T102 (mkF m 33 #[.val (.ref a1), .val (.ref a2), .val (.int (0 : Int32)), .val (.int (Int32.ofNat cs.length)), .val .null, .unset] [])
  refine Go.of (fun _ hr => XS.aloadN X102.here hx rfl (hb hby d6_33) rfl rfl hr) ?_
  show Go p e s below _ _ _ _ T102 (mkF m 34 #[.val (.ref a1), .val (.ref a2), .val (.int (0 : Int32)), .val (.int (Int32.ofNat cs.length)), .val .null, .unset] [(.ref a2)])
  refine Go.of (fun _ hr => XS.iloadN X102.here hx rfl (hb hby d6_34) rfl  hr) ?_
  show Go p e s below _ _ _ _ T102 (mkF m 35 #[.val (.ref a1), .val (.ref a2), .val (.int (0 : Int32)), .val (.int (Int32.ofNat cs.length)), .val .null, .unset] [(.int (0 : Int32)), (.ref a2)])
  refine Go.of (fun _ hr => XS.iloadN X102.here hx rfl (hb hby d6_35) rfl  hr) ?_
  show Go p e s below _ _ _ _ T102 (mkF m 36 #[.val (.ref a1), .val (.ref a2), .val (.int (0 : Int32)), .val (.int (Int32.ofNat cs.length)), .val .null, .unset] [(.int (Int32.ofNat cs.length)), (.int (0 : Int32)), (.ref a2)])
  obtain ⟨_, b103, T103, h103, L103, e103, Cc103, X103, B103, J103, g103, hQ103, st103⟩ := own_callS Cc B0 J0 X102 (hw _ (List.mem_of_getElem? (i := 31) rfl)) (hw _ (List.mem_of_getElem? (i := 32) rfl)) (hw _ (List.mem_of_getElem? (i := 33) rfl)) (hw _ (List.mem_of_getElem? (i := 34) rfl)) (by decide) (rm8 l Z a0 hw [] a2 _ cs _ h0 n0 O0 h0.size (own_ole O0) K0.1 hn hr V1) e102 (g := (mkF m 36 #[.val (.ref a1), .val (.ref a2), .val (.int (0 : Int32)), .val (.int (Int32.ofNat cs.length)), .val .null, .unset] [(.int (Int32.ofNat cs.length)), (.int (0 : Int32)), (.ref a2)])) rfl (by rw [hml]; rfl) (argsL := [(.ref a2), (.int (0 : Int32)), (.int (Int32.ofNat cs.length))]) (rest := []) (lenOf pd1 rfl) rfl (W := 0) (by show 2 * 0 + _ ≤ _; exact Nat.le_of_eq rfl) (hb hby d6_36) (by decide) (by decide) (by decide) (by decide)
  obtain ⟨r103, kr103, rfl, Nq103, Eq103, R_r103, Vr103⟩ := hQ103
  have N103 := Fr.app N0 (show Fr nb _ from fun y hy => Nat.le_trans hnb (Nq103 y hy))
  have NS103 := Fr.app (Fr.nil _) Nq103
  obtain ⟨hx, hZ, hown, hby, hml, hnm, hret, hlk⟩ := id Cc103
  have sz_r103 : h0.size ≤ r103 := Nat.le_trans K0.1 R_r103
  have fr_r103 : nb ≤ r103 := Nat.le_trans hnb sz_r103
  have ne_a1_r103 : a1 ≠ r103 := Nat.ne_of_lt (Nat.lt_of_lt_of_le E1.lt R_r103)
  have ne_a2_r103 : a2 ≠ r103 := Nat.ne_of_lt (Nat.lt_of_lt_of_le V1.lt R_r103)
  have K103 := K0.ext Eq103
  have O103 := O0.ext Eq103
  refine Go.of st103 ?_
  show Go p e s below _ _ _ _ T103 (mkF m 39 #[.val (.ref a1), .val (.ref a2), .val (.int (0 : Int32)), .val (.int (Int32.ofNat cs.length)), .val .null, .unset] [(.ref r103)])
  refine Go.of (fun _ hr => XS.astore X103.here hx rfl (hb hby d6_39) rfl rfl (l' := #[.val (.ref a1), .val (.ref a2), .val (.int (0 : Int32)), .val (.int (Int32.ofNat cs.length)), .val .null, .val (.ref r103)]) rfl hr) ?_
  show Go p e s below _ _ _ _ T103 (mkF m 41 #[.val (.ref a1), .val (.ref a2), .val (.int (0 : Int32)), .val (.int (Int32.ofNat cs.length)), .val .null, .val (.ref r103)] [])
  refine Go.of (fun _ hr => XS.aloadN X103.here hx rfl (hb hby d6_41) rfl rfl hr) ?_
  show Go p e s below _ _ _ _ T103 (mkF m 42 #[.val (.ref a1), .val (.ref a2), .val (.int (0 : Int32)), .val (.int (Int32.ofNat cs.length)), .val .null, .val (.ref r103)] [(.ref a1)])
  refine Go.of (fun _ hr => XS.aload X103.here hx rfl (hb hby d6_42) rfl rfl hr) ?_
  show Go p e s below _ _ _ _ T103 (mkF m 44 #[.val (.ref a1), .val (.ref a2), .val (.int (0 : Int32)), .val (.int (Int32.ofNat cs.length)), .val .null, .val (.ref r103)] [(.ref r103), (.ref a1)])
  refine Go.of (fun _ hr => XS.iloadN X103.here hx rfl (hb hby d6_44) rfl  hr) ?_
  show Go p e s below _ _ _ _ T103 (mkF m 45 #[.val (.ref a1), .val (.ref a2), .val (.int (0 : Int32)), .val (.int (Int32.ofNat cs.length)), .val .null, .val (.ref r103)] [(.int (Int32.ofNat cs.length)), (.ref r103), (.ref a1)])
  obtain ⟨_, b104, T104, h104, L104, e104, Cc104, X104, B104, J104, g104, hQ104, st104⟩ := own_callS Cc103 B103 J103 X103 (hw _ (List.mem_of_getElem? (i := 39) rfl)) (hw _ (List.mem_of_getElem? (i := 40) rfl)) (hw _ (List.mem_of_getElem? (i := 33) rfl)) (hw _ (List.mem_of_getElem? (i := 41) rfl)) (by decide) (rm10 l Z a0 hw [] r103 _ (Int32.ofNat cs.length) _ _ _ h103 n0 O103 h0.size (own_ole O0) K103.1 Vr103) e103 (g := (mkF m 45 #[.val (.ref a1), .val (.ref a2), .val (.int (0 : Int32)), .val (.int (Int32.ofNat cs.length)), .val .null, .val (.ref r103)] [(.int (Int32.ofNat cs.length)), (.ref r103), (.ref a1)])) rfl (by rw [hml]; rfl) (argsL := [(.ref r103), (.int (Int32.ofNat cs.length))]) (rest := [(.ref a1)]) (lenOf pd2 rfl) rfl (W := 1) (by show 2 * 0 + _ ≤ _; exact Nat.le_of_eq rfl) (hb hby d6_45) (by decide) (by decide) (by decide) (by decide)
  obtain ⟨rfl, Nq104, hh104⟩ := hQ104
  have N104 := Fr.app N103 (show Fr nb _ from fun y hy => Nat.le_trans hnb (Nq104 y hy))
  have NS104 := Fr.app NS103 Nq104
  obtain ⟨hx, hZ, hown, hby, hml, hnm, hret, hlk⟩ := id Cc104
  rw [hh104] at e104 B104 J104
  refine Go.of st104 ?_
  show Go p e s below _ _ _ _ T104 (mkF m 48 #[.val (.ref a1), .val (.ref a2), .val (.int (0 : Int32)), .val (.int (Int32.ofNat cs.length)), .val .null, .val (.ref r103)] [(.int (0 : Int32)), (.ref a1)])
  have f106 := (F2.ext Eq103)
  have f107 := (E1.ext Eq103)
  obtain ⟨T105, h105, X105, e105, W105, st105⟩ := putFN X104 hx hZ hown (hw _ (List.mem_of_getElem? (i := 42) rfl)) Via.refl e104 f106 f107 (Or.inr ⟨(hw _ (List.mem_of_getElem? (i := 43) rfl)), rfl, hnm⟩) (hw _ (List.mem_of_getElem? (i := 17) rfl)) (ty := .byte) (v := (.int (0 : Int32))) (v' := (.int (0 : Int32))) (by decide) rfl rfl (g := (mkF m 48 #[.val (.ref a1), .val (.ref a2), .val (.int (0 : Int32)), .val (.int (Int32.ofNat cs.length)), .val .null, .val (.ref r103)] [(.int (0 : Int32)), (.ref a1)])) rfl rfl (hb hby d6_48)
  have N105 := Fr.snoc X105 N104 fr_a1
  have J105 := J104.wr W105 hm_a1
  have B105 := B104.mono (Nat.le_of_eq W105.size.symm)
  have O105 := O103.wr W105 (Nat.le_trans hb0 fr_a1)
  have K105 := K103.wr W105 (Or.inl (List.mem_of_getElem? (i := 0) rfl))
  have Fw105 := f106.same W105
  refine Go.of (fun _ hr => st105 _ hr) ?_
  show Go p e s below _ _ _ _ T105 (mkF m 51 #[.val (.ref a1), .val (.ref a2), .val (.int (0 : Int32)), .val (.int (Int32.ofNat cs.length)), .val .null, .val (.ref r103)] [])
  refine Go.of (fun _ hr => XS.aloadN X105.here hx rfl (hb hby d6_51) rfl rfl hr) ?_
  show Go p e s below _ _ _ _ T105 (mkF m 52 #[.val (.ref a1), .val (.ref a2), .val (.int (0 : Int32)), .val (.int (Int32.ofNat cs.length)), .val .null, .val (.ref r103)] [(.ref a1)])
  refine Go.of (fun _ hr => XS.aload X105.here hx rfl (hb hby d6_52) rfl rfl hr) ?_
  show Go p e s below _ _ _ _ T105 (mkF m 54 #[.val (.ref a1), .val (.ref a2), .val (.int (0 : Int32)), .val (.int (Int32.ofNat cs.length)), .val .null, .val (.ref r103)] [(.ref r103), (.ref a1)])
  have f109 := ((F1.ext Eq103).other W105 (Or.inr (slot_ne (Or.inr (hw _ (List.mem_of_getElem? (i := 45) rfl))) (Or.inr (hw _ (List.mem_of_getElem? (i := 43) rfl))) (by decide) (t := (.array .byte)) (t' := .byte) (by decide) (by decide))))
  have f110 := (f107.wr W105)
  obtain ⟨T108, h108, X108, e108, W108, st108⟩ := putF X105 hx hZ hown (host := "") (Or.inl (hw _ (List.mem_of_getElem? (i := 44) rfl))) Via.refl e105 f109 f110 (Or.inr ⟨(hw _ (List.mem_of_getElem? (i := 45) rfl)), rfl, hnm⟩) (hw _ (List.mem_of_getElem? (i := 17) rfl)) (ty := (.array .byte)) (by decide) rfl rfl (g := (mkF m 54 #[.val (.ref a1), .val (.ref a2), .val (.int (0 : Int32)), .val (.int (Int32.ofNat cs.length)), .val .null, .val (.ref r103)] [(.ref r103), (.ref a1)])) rfl rfl (hb hby d6_54)
  have N108 := Fr.snoc X108 N105 fr_a1
  have J108 := J105.wr W108 hm_a1
  have B108 := B105.mono (Nat.le_of_eq W108.size.symm)
  have O108 := O105.wr W108 (Nat.le_trans hb0 fr_a1)
  have K108 := K105.wr W108 (Or.inl (List.mem_of_getElem? (i := 0) rfl))
  have Fw108 := f109.same W108
  refine Go.of (fun _ hr => st108 _ hr) ?_
  show Go p e s below _ _ _ _ T108 (mkF m 57 #[.val (.ref a1), .val (.ref a2), .val (.int (0 : Int32)), .val (.int (Int32.ofNat cs.length)), .val .null, .val (.ref r103)] [])
  have f111 := ((Vr103.other W105 (Ne.symm ne_a1_r103)).other W108 (Ne.symm ne_a1_r103))
  have f112 := (Fw105.other W108 (Or.inr (slot_ne (Or.inr (hw _ (List.mem_of_getElem? (i := 43) rfl))) (Or.inr (hw _ (List.mem_of_getElem? (i := 45) rfl))) (by decide) (t := .byte) (t' := (.array .byte)) (by decide) (by decide))))
  exact Go.retV X108 hx hlk B108 J108 e108 hret (hb hby d6_57) (by decide) (by decide) (fun vm_ hw_ => ⟨rfl, N108, K108, _, _, (J0.nms sz_r103), Fw108, f112, asB f111⟩)

theorem d5_0 : decode jdk_42_method_3_code 0 = .ok (.aload_n 0, 1) := by decide +kernel
theorem d5_1 : decode jdk_42_method_3_code 1 = .ok (.aload_n 1, 1) := by decide +kernel
theorem d5_2 : decode jdk_42_method_3_code 2 = .ok (.iconst 0, 1) := by decide +kernel
theorem d5_3 : decode jdk_42_method_3_code 3 = .ok (.aload_n 1, 1) := by decide +kernel
theorem d5_4 : decode jdk_42_method_3_code 4 = .ok (.arraylength, 1) := by decide +kernel
theorem d5_5 : decode jdk_42_method_3_code 5 = .ok (.aconst_null, 1) := by decide +kernel
theorem d5_6 : decode jdk_42_method_3_code 6 = .ok (.invokespecial 27, 3) := by decide +kernel
theorem pd3 : parseMethodDescriptor "([CIILjava/lang/Void;)V" = some ⟨[(.array .char), .int, .int, (.object "java/lang/Void")], none⟩ := by decide +kernel
theorem d5_9 : decode jdk_42_method_3_code 9 = .ok (.return_, 1) := by decide +kernel
set_option maxRecDepth 65536 in
set_option maxHeartbeats 40000000 in
theorem rm5 (l : Launch) (Z : State) (a0 : Array Value) (hw : ∀ d ∈ tables_1, d.before a0 Z = true) (ws : List Jvm.Cond) (a1 a2 : Addr) (k2 : ClassId) (cs : List Int32) (u1 u2 : Value) (zc : Int32) (ms : List Addr) (h0 : Heap) (n0 : Nat) (O0 : Old Z n0 h0) (nb : Nat) (hb0 : n0 ≤ nb) (hnb : nb ≤ h0.size) (fr_a1 : nb ≤ a1) (hm_a1 : a1 ∈ ms) (hn : cs.length ≤ 4) (hr : ∀ x ∈ cs, ¬ x < 0 ∧ ¬ 255 < x) (hpos : 0 < cs.length) (V1 : Arv Z h0 a2 k2 .char (Int32.ofNat cs.length) (cs.map Value.int) (.int 0)) (ne12 : a2 ≠ a1) (E1 : Exa Z h0 a1 "java/lang/String") (F1 : Fld Z h0 a1 "java/lang/String" "value" "[B" u1) (F2 : Fld Z h0 a1 "java/lang/String" "coder" "B" u2) (S_C : Sta Z Z.heap "java/lang/String" "COMPACT_STRINGS" "Z" (.int zc)) (hzc : ¬ zc = 0) :
    Con l Z ms (⟨"java/lang/String", "<init>", "([C)V"⟩ : MethodName) jdk_42_method_3_code 2 none ws ({ frames := 3, cells := 1, slots := 4, locals := 52 } : Room) #[(.ref a1), (.ref a2)] h0 (fun v vm h L => v = none ∧ Fr nb L ∧ Keep h0 h [a1] ∧ ∃ t k, t ∉ ms ∧ Fld Z h a1 "java/lang/String" "value" "[B" (.ref t) ∧ Fld Z h a1 "java/lang/String" "coder" "B" (.int 0) ∧ Arv Z h t k .byte (Int32.ofNat (cs.map lo8).length) ((cs.map lo8).map Value.int) (.int 0)) := by
  refine Con.mk (plainFor_of_name pn1) ?_
  intro p e s m below meth c s₁ Cc X0 e0 eb J0 B0 M0
  obtain ⟨hx, hZ, hown, hby, hml, hnm, hret, hlk⟩ := id Cc
  have N0 := Fr.nil nb
  have K0 := Keep.refl h0 [a1]
  show Go p e s below _ _ _ _ s₁ (mkF m 0 #[.val (.ref a1), .val (.ref a2)] [])
  refine Go.of (fun _ hr => XS.aloadN X0.here hx rfl (hb hby d5_0) rfl rfl hr) ?_
  show Go p e s below _ _ _ _ s₁ (mkF m 1 #[.val (.ref a1), .val (.ref a2)] [(.ref a1)])
  refine Go.of (fun _ hr => XS.aloadN X0.here hx rfl (hb hby d5_1) rfl rfl hr) ?_
  show Go p e s below _ _ _ _ s₁ (mkF m 2 #[.val (.ref a1), .val (.ref a2)] [(.ref a2), (.ref a1)])
  refine Go.of (fun _ hr => XS.iconst X0.here hx rfl (hb hby d5_2) hr) ?_
  show Go p e s below _ _ _ _ s₁ (mkF m 3 #[.val (.ref a1), .val (.ref a2)] [(.int (0 : Int32)), (.ref a2), (.ref a1)])
  refine Go.of (fun _ hr => XS.aloadN X0.here hx rfl (hb hby d5_3) rfl rfl hr) ?_
  show Go p e s below _ _ _ _ s₁ (mkF m 4 #[.val (.ref a1), .val (.ref a2)] [(.ref a2), (.int (0 : Int32)), (.ref a2), (.ref a1)])
  obtain ⟨cl101, Ar101, q101, S101, N101_, H101, G101⟩ := id V1
  refine Go.of (fun _ hr => X0.arraylength hx (by rw [e0]; exact Ar101.1) (State.isArrayOf_alike hZ.alike Ar101.2.1) (g := (mkF m 4 #[.val (.ref a1), .val (.ref a2)] [(.ref a2), (.int (0 : Int32)), (.ref a2), (.ref a1)])) rfl rfl (hb hby d5_4) _ hr) ?_
  rw [len_of S101 N101_]
  show Go p e s below _ _ _ _ s₁ (mkF m 5 #[.val (.ref a1), .val (.ref a2)] [(.int (Int32.ofNat cs.length)), (.int (0 : Int32)), (.ref a2), (.ref a1)])
  refine Go.of (fun _ hr => XS.aconstNull X0.here hx rfl (hb hby d5_5) hr) ?_
  show Go p e s below _ _ _ _ s₁ (mkF m 6 #[.val (.ref a1), .val (.ref a2)] [.null, (.int (Int32.ofNat cs.length)), (.int (0 : Int32)), (.ref a2), (.ref a1)])
  obtain ⟨_, b102, T102, h102, L102, e102, Cc102, X102, B102, J102, g102, hQ102, st102⟩ := own_callI Cc B0 J0 X0 rfl (hw _ (List.mem_of_getElem? (i := 23) rfl)) (hw _ (List.mem_of_getElem? (i := 24) rfl)) (hw _ (List.mem_of_getElem? (i := 18) rfl)) (hw _ (List.mem_of_getElem? (i := 26) rfl)) (by decide) (rm6 l Z a0 hw [] a1 a2 _ cs _ _ zc _ h0 n0 O0 nb hb0 (Nat.le_trans hnb K0.1) fr_a1 hm_a1 hn hr hpos V1 ne12 E1 F1 F2 S_C hzc) e0 (g := (mkF m 6 #[.val (.ref a1), .val (.ref a2)] [.null, (.int (Int32.ofNat cs.length)), (.int (0 : Int32)), (.ref a2), (.ref a1)])) rfl (by rw [hml]; rfl) (argsL := [(.ref a2), (.int (0 : Int32)), (.int (Int32.ofNat cs.length)), .null]) (rest := []) (lenOf pd3 rfl) rfl (W := 0) (by show 2 * 0 + _ ≤ _; exact Nat.le_of_eq rfl) (hb hby d5_6) (by decide) (by decide) (by decide) (by decide)
  obtain ⟨rfl, Nq102, Kq102, t102, kt102, nt102, Fv102, Fc102, Vt102⟩ := hQ102
  have N102 := Fr.app N0 Nq102
  obtain ⟨hx, hZ, hown, hby, hml, hnm, hret, hlk⟩ := id Cc102
  have K102 := K0.trans Kq102 (allS (Or.inl (List.mem_of_getElem? (i := 0) rfl)) all0)
  have O102 := O0.keep Kq102 (allS (Nat.le_trans hb0 fr_a1) all0)
  refine Go.of st102 ?_
  have nx_t102_a1 : t102 ≠ a1 := fun q => nt102 (by rw [q]; exact hm_a1)
  show Go p e s below _ _ _ _ T102 (mkF m 9 #[.val (.ref a1), .val (.ref a2)] [])
  exact Go.retV X102 hx hlk B102 J102 e102 hret (hb hby d5_9) (by decide) (by decide) (fun vm_ hw_ => ⟨rfl, N102, K102, _, _, (fun hz => nt102 hz), Fv102, Fc102, Vt102⟩)

theorem d24_0 : decode jdk_42_method_152_code 0 = .ok (.getstatic 38, 3) := by decide +kernel
theorem d24_3 : decode jdk_42_method_152_code 3 = .ok (.ifCond .eq 10, 3) := by decide +kernel
theorem d24_6 : decode jdk_42_method_152_code 6 = .ok (.aload_n 0, 1) := by decide +kernel
theorem d24_7 : decode jdk_42_method_152_code 7 = .ok (.getfield 15, 3) := by decide +kernel
theorem d24_10 : decode jdk_42_method_152_code 10 = .ok (.goto 4, 3) := by decide +kernel
theorem d24_14 : decode jdk_42_method_152_code 14 = .ok (.ireturn, 1) := by decide +kernel
set_option maxRecDepth 65536 in
set_option maxHeartbeats 40000000 in
theorem rm24 (l : Launch) (Z : State) (a0 : Array Value) (hw : ∀ d ∈ tables_1, d.before a0 Z = true) (ws : List Jvm.Cond) (s1 : Addr) (zc : Int32) (ms : List Addr) (h0 : Heap) (n0 : Nat) (O0 : Old Z n0 h0) (nb : Nat) (hb0 : n0 ≤ nb) (hnb : nb ≤ h0.size) (Fc1 : Fld Z h0 s1 "java/lang/String" "coder" "B" (.int 0)) (S_C : Sta Z Z.heap "java/lang/String" "COMPACT_STRINGS" "Z" (.int zc)) (hzc : ¬ zc = 0) :
    Con l Z ms (⟨"java/lang/String", "coder", "()B"⟩ : MethodName) jdk_42_method_152_code 1 (some .byte) ws ({ frames := 0, cells := 0, slots := 0, locals := 0 } : Room) #[(.ref s1)] h0 (fun v vm h L => v = some (.int 0) ∧ Fr nb L ∧ h = h0) := by
  refine Con.mk (plainFor_of_name pn1) ?_
  intro p e s m below meth c s₁ Cc X0 e0 eb J0 B0 M0
  obtain ⟨hx, hZ, hown, hby, hml, hnm, hret, hlk⟩ := id Cc
  have N0 := Fr.nil h0.size
  have K0 := Keep.refl h0 []
  show Go p e s below _ _ _ _ s₁ (mkF m 0 #[.val (.ref s1)] [])
  obtain ⟨T101, X101, e101, st101⟩ := getS2 X0 hx hZ hown (host := "") (Or.inl (hw _ (List.mem_of_getElem? (i := 30) rfl))) Via.refl e0 (S_C.ext O0.2) (g := (mkF m 0 #[.val (.ref s1)] [])) rfl (hb hby d24_0)
  refine Go.of (fun _ hr => st101 _ hr) ?_
  show Go p e s below _ _ _ _ T101 (mkF m 3 #[.val (.ref s1)] [(.int zc)])
  refine Go.of (fun _ hr => XS.ifNo X101.here hx rfl (hb hby d24_3) rfl ((if0 _ _).trans (feq hzc).1) hr) ?_
  show Go p e s below _ _ _ _ T101 (mkF m 6 #[.val (.ref s1)] [])
  refine Go.of (fun _ hr => XS.aloadN X101.here hx rfl (hb hby d24_6) rfl rfl hr) ?_
  show Go p e s below _ _ _ _ T101 (mkF m 7 #[.val (.ref s1)] [(.ref s1)])
  obtain ⟨T102, X102, e102, st102⟩ := getF X101 hx hZ hown (host := "") (Or.inl (hw _ (List.mem_of_getElem? (i := 42) rfl))) Via.refl e101 Fc1 (g := (mkF m 7 #[.val (.ref s1)] [(.ref s1)])) rfl rfl (hb hby d24_7)
  refine Go.of (fun _ hr => st102 _ hr) ?_
  show Go p e s below _ _ _ _ T102 (mkF m 10 #[.val (.ref s1)] [(.int (0 : Int32))])
  refine Go.of (fun _ hr => XS.goto X102.here hx rfl (pc0 := 10) (pc' := 14) rfl (hb hby d24_10) (by decide) (by decide) hr) ?_
  show Go p e s below _ _ _ _ T102 (mkF m 14 #[.val (.ref s1)] [(.int (0 : Int32))])
  exact Go.retN X102 hx hlk B0 J0 e102 (t := .byte) (z' := (0 : Int32)) hret (by simp) (hb hby d24_14) rfl (by decide) (by decide) (fun vm_ hw_ => ⟨rfl, (fun y hy => Nat.le_trans hnb (N0 y hy)), rfl⟩)

theorem d23_0 : decode jdk_42_method_54_code 0 = .ok (.aload_n 0, 1) := by decide +kernel
theorem d23_1 : decode jdk_42_method_54_code 1 = .ok (.getfield 9, 3) := by decide +kernel
theorem d23_4 : decode jdk_42_method_54_code 4 = .ok (.arraylength, 1) := by decide +kernel
theorem d23_5 : decode jdk_42_method_54_code 5 = .ok (.aload_n 0, 1) := by decide +kernel
theorem d23_6 : decode jdk_42_method_54_code 6 = .ok (.invokevirtual 335, 3) := by decide +kernel
theorem pd4 : parseMethodDescriptor "()B" = some ⟨[], some .byte⟩ := by decide +kernel
theorem d23_9 : decode jdk_42_method_54_code 9 = .ok (.ishr, 1) := by decide +kernel
theorem d23_10 : decode jdk_42_method_54_code 10 = .ok (.ireturn, 1) := by decide +kernel
set_option maxRecDepth 65536 in
set_option maxHeartbeats 40000000 in
theorem rm23 (l : Launch) (Z : State) (a0 : Array Value) (hw : ∀ d ∈ tables_1, d.before a0 Z = true) (ws : List Jvm.Cond) (s1 t1 : Addr) (k1 : ClassId) (b1 : List Int32) (zc : Int32) (ms : List Addr) (h0 : Heap) (n0 : Nat) (O0 : Old Z n0 h0) (nb : Nat) (hb0 : n0 ≤ nb) (hnb : nb ≤ h0.size) (Es1 : Exa Z h0 s1 "java/lang/String") (Fv1 : Fld Z h0 s1 "java/lang/String" "value" "[B" (.ref t1)) (Fc1 : Fld Z h0 s1 "java/lang/String" "coder" "B" (.int 0)) (V1 : Arv Z h0 t1 k1 .byte (Int32.ofNat b1.length) (b1.map Value.int) (.int 0)) (hn1 : b1.length ≤ 1000) (S_C : Sta Z Z.heap "java/lang/String" "COMPACT_STRINGS" "Z" (.int zc)) (hzc : ¬ zc = 0) :
    Con l Z ms (⟨"java/lang/String", "length", "()I"⟩ : MethodName) jdk_42_method_54_code 1 (some .int) ws ({ frames := 1, cells := 0, slots := 0, locals := 14 } : Room) #[(.ref s1)] h0 (fun v vm h L => v = some (.int (Int32.ofNat b1.length)) ∧ Fr nb L ∧ h = h0) := by
  refine Con.mk (plainFor_of_name pn1) ?_
  intro p e s m below meth c s₁ Cc X0 e0 eb J0 B0 M0
  obtain ⟨hx, hZ, hown, hby, hml, hnm, hret, hlk⟩ := id Cc
  have N0 := Fr.nil h0.size
  have K0 := Keep.refl h0 []
  show Go p e s below _ _ _ _ s₁ (mkF m 0 #[.val (.ref s1)] [])
  refine Go.of (fun _ hr => XS.aloadN X0.here hx rfl (hb hby d23_0) rfl rfl hr) ?_
  show Go p e s below _ _ _ _ s₁ (mkF m 1 #[.val (.ref s1)] [(.ref s1)])
  obtain ⟨T101, X101, e101, st101⟩ := getF X0 hx hZ hown (host := "") (Or.inl (hw _ (List.mem_of_getElem? (i := 44) rfl))) Via.refl e0 Fv1 (g := (mkF m 1 #[.val (.ref s1)] [(.ref s1)])) rfl rfl (hb hby d23_1)
  refine Go.of (fun _ hr => st101 _ hr) ?_
  show Go p e s below _ _ _ _ T101 (mkF m 4 #[.val (.ref s1)] [(.ref t1)])
  obtain ⟨cl102, Ar102, q102, S102, N102_, H102, G102⟩ := id V1
  refine Go.of (fun _ hr => X101.arraylength hx (by rw [e101]; exact Ar102.1) (State.isArrayOf_alike hZ.alike Ar102.2.1) (g := (mkF m 4 #[.val (.ref s1)] [(.ref t1)])) rfl rfl (hb hby d23_4) _ hr) ?_
  rw [len_of S102 N102_]
  show Go p e s below _ _ _ _ T101 (mkF m 5 #[.val (.ref s1)] [(.int (Int32.ofNat b1.length))])
  refine Go.of (fun _ hr => XS.aloadN X101.here hx rfl (hb hby d23_5) rfl rfl hr) ?_
  show Go p e s below _ _ _ _ T101 (mkF m 6 #[.val (.ref s1)] [(.ref s1), (.int (Int32.ofNat b1.length))])
  obtain ⟨_, b103, T103, h103, L103, e103, Cc103, X103, B103, J103, g103, hQ103, st103⟩ := own_callV Cc B0 J0 X101 (hw _ (List.mem_of_getElem? (i := 114) rfl)) (hw _ (List.mem_of_getElem? (i := 115) rfl)) (notFace_of_selects (args := #[]) (mvT hZ (hw _ (List.mem_of_getElem? (i := 117) rfl)))) (hw _ (List.mem_of_getElem? (i := 117) rfl)) (hw _ (List.mem_of_getElem? (i := 116) rfl)) (hw _ (List.mem_of_getElem? (i := 18) rfl)) (hw _ (List.mem_of_getElem? (i := 118) rfl)) (by decide) Es1 (rm24 l Z a0 hw [] s1 zc _ h0 n0 O0 h0.size (own_ole O0) K0.1 Fc1 S_C hzc) e101 (g := (mkF m 6 #[.val (.ref s1)] [(.ref s1), (.int (Int32.ofNat b1.length))])) rfl (by rw [hml]; rfl) (argsL := []) (rest := [(.int (Int32.ofNat b1.length))]) (lenOf pd4 rfl) rfl (W := 1) (by show 2 * 0 + _ ≤ _; exact Nat.le_of_eq rfl) (hb hby d23_6) (by decide) (by decide) (by decide) (by decide)
  obtain ⟨rfl, Nq103, hh103⟩ := hQ103
  have N103 := Fr.app N0 Nq103
  obtain ⟨hx, hZ, hown, hby, hml, hnm, hret, hlk⟩ := id Cc103
  rw [hh103] at e103 B103 J103
  refine Go.of st103 ?_
  show Go p e s below _ _ _ _ T103 (mkF m 9 #[.val (.ref s1)] [(.int (0 : Int32)), (.int (Int32.ofNat b1.length))])
  refine Go.of (fun _ hr => XS.ishr X103.here hx rfl (hb hby d23_9) rfl hr) ?_
  show Go p e s below _ _ _ _ T103 (mkF m 10 #[.val (.ref s1)] [(.int ((Int32.ofNat b1.length) >>> ((0 : Int32) &&& 31)))])
  rw [own_sh0]
  show Go p e s below _ _ _ _ T103 (mkF m 10 #[.val (.ref s1)] [(.int (Int32.ofNat b1.length))])
  exact Go.retI X103 hx hlk B103 J103 e103 hret (hb hby d23_10) (by decide) (by decide) (fun vm_ hw_ => ⟨rfl, (fun y hy => Nat.le_trans hnb (N103 y hy)), rfl⟩)

theorem d18_0 : decode jdk_42_method_154_code 0 = .ok (.getstatic 38, 3) := by decide +kernel
theorem d18_3 : decode jdk_42_method_154_code 3 = .ok (.ifCond .eq 14, 3) := by decide +kernel
theorem d18_6 : decode jdk_42_method_154_code 6 = .ok (.aload_n 0, 1) := by decide +kernel
theorem d18_7 : decode jdk_42_method_154_code 7 = .ok (.getfield 15, 3) := by decide +kernel
theorem d18_10 : decode jdk_42_method_154_code 10 = .ok (.ifCond .ne 7, 3) := by decide +kernel
theorem d18_13 : decode jdk_42_method_154_code 13 = .ok (.iconst 1, 1) := by decide +kernel
theorem d18_14 : decode jdk_42_method_154_code 14 = .ok (.goto 4, 3) := by decide +kernel
theorem d18_18 : decode jdk_42_method_154_code 18 = .ok (.ireturn, 1) := by decide +kernel
set_option maxRecDepth 65536 in
set_option maxHeartbeats 40000000 in
theorem rm18 (l : Launch) (Z : State) (a0 : Array Value) (hw : ∀ d ∈ tables_1, d.before a0 Z = true) (ws : List Jvm.Cond) (s1 : Addr) (zc : Int32) (ms : List Addr) (h0 : Heap) (n0 : Nat) (O0 : Old Z n0 h0) (nb : Nat) (hb0 : n0 ≤ nb) (hnb : nb ≤ h0.size) (Fc1 : Fld Z h0 s1 "java/lang/String" "coder" "B" (.int 0)) (S_C : Sta Z Z.heap "java/lang/String" "COMPACT_STRINGS" "Z" (.int zc)) (hzc : ¬ zc = 0) :
    Con l Z ms (⟨"java/lang/String", "isLatin1", "()Z"⟩ : MethodName) jdk_42_method_154_code 1 (some .boolean) ws ({ frames := 0, cells := 0, slots := 0, locals := 0 } : Room) #[(.ref s1)] h0 (fun v vm h L => v = some (.int 1) ∧ Fr nb L ∧ h = h0) := by
  refine Con.mk (plainFor_of_name pn1) ?_
  intro p e s m below meth c s₁ Cc X0 e0 eb J0 B0 M0
  obtain ⟨hx, hZ, hown, hby, hml, hnm, hret, hlk⟩ := id Cc
  have N0 := Fr.nil h0.size
  have K0 := Keep.refl h0 []
  show Go p e s below _ _ _ _ s₁ (mkF m 0 #[.val (.ref s1)] [])
  obtain ⟨T101, X101, e101, st101⟩ := getS2 X0 hx hZ hown (host := "") (Or.inl (hw _ (List.mem_of_getElem? (i := 30) rfl))) Via.refl e0 (S_C.ext O0.2) (g := (mkF m 0 #[.val (.ref s1)] [])) rfl (hb hby d18_0)
  refine Go.of (fun _ hr => st101 _ hr) ?_
  show Go p e s below _ _ _ _ T101 (mkF m 3 #[.val (.ref s1)] [(.int zc)])
  refine Go.of (fun _ hr => XS.ifNo X101.here hx rfl (hb hby d18_3) rfl ((if0 _ _).trans (feq hzc).1) hr) ?_
  show Go p e s below _ _ _ _ T101 (mkF m 6 #[.val (.ref s1)] [])
  refine Go.of (fun _ hr => XS.aloadN X101.here hx rfl (hb hby d18_6) rfl rfl hr) ?_
  show Go p e s below _ _ _ _ T101 (mkF m 7 #[.val (.ref s1)] [(.ref s1)])
  obtain ⟨T102, X102, e102, st102⟩ := getF X101 hx hZ hown (host := "") (Or.inl (hw _ (List.mem_of_getElem? (i := 42) rfl))) Via.refl e101 Fc1 (g := (mkF m 7 #[.val (.ref s1)] [(.ref s1)])) rfl rfl (hb hby d18_7)
  refine Go.of (fun _ hr => st102 _ hr) ?_
  show Go p e s below _ _ _ _ T102 (mkF m 10 #[.val (.ref s1)] [(.int (0 : Int32))])
  refine Go.of (fun _ hr => XS.ifNo X102.here hx rfl (hb hby d18_10) rfl ((if0 _ _).trans (teq (by decide : ((0 : Int32) = (0 : Int32)))).2) hr) ?_
  show Go p e s below _ _ _ _ T102 (mkF m 13 #[.val (.ref s1)] [])
  refine Go.of (fun _ hr => XS.iconst X102.here hx rfl (hb hby d18_13) hr) ?_
  show Go p e s below _ _ _ _ T102 (mkF m 14 #[.val (.ref s1)] [(.int (1 : Int32))])
  refine Go.of (fun _ hr => XS.goto X102.here hx rfl (pc0 := 14) (pc' := 18) rfl (hb hby d18_14) (by decide) (by decide) hr) ?_
  show Go p e s below _ _ _ _ T102 (mkF m 18 #[.val (.ref s1)] [(.int (1 : Int32))])
  exact Go.retN X102 hx hlk B0 J0 e102 (t := .boolean) (z' := (1 : Int32)) hret (by simp) (hb hby d18_18) rfl (by decide) (by decide) (fun vm_ hw_ => ⟨rfl, (fun y hy => Nat.le_trans hnb (N0 y hy)), rfl⟩)

theorem pn2 : plainName "jdk/internal/util/Preconditions" = true := by first | (simp [plainName, overriddenIn]; done) | decide +kernel
theorem d49_0 : decode jdk_41_method_11_code 0 = .ok (.iload_n 0, 1) := by decide +kernel
theorem d49_1 : decode jdk_41_method_11_code 1 = .ok (.ifCond .lt 8, 3) := by decide +kernel
theorem d49_4 : decode jdk_41_method_11_code 4 = .ok (.iload_n 0, 1) := by decide +kernel
theorem d49_5 : decode jdk_41_method_11_code 5 = .ok (.iload_n 1, 1) := by decide +kernel
theorem d49_6 : decode jdk_41_method_11_code 6 = .ok (.if_icmp .lt 10, 3) := by decide +kernel
theorem d49_16 : decode jdk_41_method_11_code 16 = .ok (.iload_n 0, 1) := by decide +kernel
theorem d49_17 : decode jdk_41_method_11_code 17 = .ok (.ireturn, 1) := by decide +kernel
set_option maxRecDepth 65536 in
set_option maxHeartbeats 40000000 in
theorem rm49 (l : Launch) (Z : State) (a0 : Array Value) (hw : ∀ d ∈ tables_1, d.before a0 Z = true) (ws : List Jvm.Cond) (i1 j1 : Int32) (f1 : Value) (ms : List Addr) (h0 : Heap) (n0 : Nat) (O0 : Old Z n0 h0) (nb : Nat) (hb0 : n0 ≤ nb) (hnb : nb ≤ h0.size) (hfs : f1 = .null ∨ ∃ a, f1 = .ref a) (i0 : ¬ i1 < 0) (i9 : i1 < j1) :
    Con l Z ms (⟨"jdk/internal/util/Preconditions", "checkIndex", "(IILjava/util/function/BiFunction;)I"⟩ : MethodName) jdk_41_method_11_code 3 (some .int) ws ({ frames := 0, cells := 0, slots := 0, locals := 0 } : Room) #[(.int i1), (.int j1), f1] h0 (fun v vm h L => v = some (.int i1) ∧ Fr nb L ∧ h = h0) := by
  rcases hfs with rfl | ⟨fa, rfl⟩
  · refine Con.mk (plainFor_of_name pn2) ?_
    intro p e s m below meth c s₁ Cc X0 e0 eb J0 B0 M0
    obtain ⟨hx, hZ, hown, hby, hml, hnm, hret, hlk⟩ := id Cc
    have N0 := Fr.nil h0.size
    have K0 := Keep.refl h0 []
    show Go p e s below _ _ _ _ s₁ (mkF m 0 #[.val (.int i1), .val (.int j1), .val _] [])
    refine Go.of (fun _ hr => XS.iloadN X0.here hx rfl (hb hby d49_0) rfl  hr) ?_
    show Go p e s below _ _ _ _ s₁ (mkF m 1 #[.val (.int i1), .val (.int j1), .val _] [(.int i1)])
    refine Go.of (fun _ hr => XS.ifNo X0.here hx rfl (hb hby d49_1) rfl ((if0 _ _).trans (flt i0).1) hr) ?_
    show Go p e s below _ _ _ _ s₁ (mkF m 4 #[.val (.int i1), .val (.int j1), .val _] [])
    refine Go.of (fun _ hr => XS.iloadN X0.here hx rfl (hb hby d49_4) rfl  hr) ?_
    show Go p e s below _ _ _ _ s₁ (mkF m 5 #[.val (.int i1), .val (.int j1), .val _] [(.int i1)])
    refine Go.of (fun _ hr => XS.iloadN X0.here hx rfl (hb hby d49_5) rfl  hr) ?_
    show Go p e s below _ _ _ _ s₁ (mkF m 6 #[.val (.int i1), .val (.int j1), .val _] [(.int j1), (.int i1)])
    refine Go.of (fun _ hr => XS.icmpYes X0.here hx rfl (pc0 := 6) (pc' := 16) rfl (hb hby d49_6) rfl (tlt i9).1 (by decide) (by decide) hr) ?_
    show Go p e s below _ _ _ _ s₁ (mkF m 16 #[.val (.int i1), .val (.int j1), .val _] [])
    refine Go.of (fun _ hr => XS.iloadN X0.here hx rfl (hb hby d49_16) rfl  hr) ?_
    show Go p e s below _ _ _ _ s₁ (mkF m 17 #[.val (.int i1), .val (.int j1), .val _] [(.int i1)])
    exact Go.retI X0 hx hlk B0 J0 e0 hret (hb hby d49_17) (by decide) (by decide) (fun vm_ hw_ => ⟨rfl, (fun y hy => Nat.le_trans hnb (N0 y hy)), rfl⟩)
  · refine Con.mk (plainFor_of_name pn2) ?_
    intro p e s m below meth c s₁ Cc X0 e0 eb J0 B0 M0
    obtain ⟨hx, hZ, hown, hby, hml, hnm, hret, hlk⟩ := id Cc
    have N0 := Fr.nil h0.size
    have K0 := Keep.refl h0 []
    show Go p e s below _ _ _ _ s₁ (mkF m 0 #[.val (.int i1), .val (.int j1), .val _] [])
    refine Go.of (fun _ hr => XS.iloadN X0.here hx rfl (hb hby d49_0) rfl  hr) ?_
    show Go p e s below _ _ _ _ s₁ (mkF m 1 #[.val (.int i1), .val (.int j1), .val _] [(.int i1)])
    refine Go.of (fun _ hr => XS.ifNo X0.here hx rfl (hb hby d49_1) rfl ((if0 _ _).trans (flt i0).1) hr) ?_
    show Go p e s below _ _ _ _ s₁ (mkF m 4 #[.val (.int i1), .val (.int j1), .val _] [])
    refine Go.of (fun _ hr => XS.iloadN X0.here hx rfl (hb hby d49_4) rfl  hr) ?_
    show Go p e s below _ _ _ _ s₁ (mkF m 5 #[.val (.int i1), .val (.int j1), .val _] [(.int i1)])
    refine Go.of (fun _ hr => XS.iloadN X0.here hx rfl (hb hby d49_5) rfl  hr) ?_
    show Go p e s below _ _ _ _ s₁ (mkF m 6 #[.val (.int i1), .val (.int j1), .val _] [(.int j1), (.int i1)])
    refine Go.of (fun _ hr => XS.icmpYes X0.here hx rfl (pc0 := 6) (pc' := 16) rfl (hb hby d49_6) rfl (tlt i9).1 (by decide) (by decide) hr) ?_
    show Go p e s below _ _ _ _ s₁ (mkF m 16 #[.val (.int i1), .val (.int j1), .val _] [])
    refine Go.of (fun _ hr => XS.iloadN X0.here hx rfl (hb hby d49_16) rfl  hr) ?_
    show Go p e s below _ _ _ _ s₁ (mkF m 17 #[.val (.int i1), .val (.int j1), .val _] [(.int i1)])
    exact Go.retI X0 hx hlk B0 J0 e0 hret (hb hby d49_17) (by decide) (by decide) (fun vm_ hw_ => ⟨rfl, (fun y hy => Nat.le_trans hnb (N0 y hy)), rfl⟩)

theorem d48_0 : decode jdk_42_method_155_code 0 = .ok (.iload_n 0, 1) := by decide +kernel
theorem d48_1 : decode jdk_42_method_155_code 1 = .ok (.iload_n 1, 1) := by decide +kernel
theorem d48_2 : decode jdk_42_method_155_code 2 = .ok (.getstatic 1053, 3) := by decide +kernel
theorem d48_5 : decode jdk_42_method_155_code 5 = .ok (.invokestatic 1059, 3) := by decide +kernel
theorem pd5 : parseMethodDescriptor "(IILjava/util/function/BiFunction;)I" = some ⟨[.int, .int, (.object "java/util/function/BiFunction")], some .int⟩ := by decide +kernel
theorem d48_8 : decode jdk_42_method_155_code 8 = .ok (.pop, 1) := by decide +kernel
theorem d48_9 : decode jdk_42_method_155_code 9 = .ok (.return_, 1) := by decide +kernel
set_option maxRecDepth 65536 in
set_option maxHeartbeats 40000000 in
theorem rm48 (l : Launch) (Z : State) (a0 : Array Value) (hw : ∀ d ∈ tables_1, d.before a0 Z = true) (ws : List Jvm.Cond) (i1 j1 : Int32) (ms : List Addr) (h0 : Heap) (n0 : Nat) (O0 : Old Z n0 h0) (nb : Nat) (hb0 : n0 ≤ nb) (hnb : nb ≤ h0.size) (fs : Value) (hfs : fs = .null ∨ ∃ a, fs = .ref a) (S_F : Sta Z Z.heap "jdk/internal/util/Preconditions" "SIOOBE_FORMATTER" "Ljava/util/function/BiFunction;" fs) (i0 : ¬ i1 < 0) (i9 : i1 < j1) :
    Con l Z ms (⟨"java/lang/String", "checkIndex", "(II)V"⟩ : MethodName) jdk_42_method_155_code 2 none ws ({ frames := 1, cells := 0, slots := 0, locals := 14 } : Room) #[(.int i1), (.int j1)] h0 (fun v vm h L => v = none ∧ Fr nb L ∧ h = h0) := by
  refine Con.mk (plainFor_of_name pn1) ?_
  intro p e s m below meth c s₁ Cc X0 e0 eb J0 B0 M0
  obtain ⟨hx, hZ, hown, hby, hml, hnm, hret, hlk⟩ := id Cc
  have N0 := Fr.nil h0.size
  have K0 := Keep.refl h0 []
  show Go p e s below _ _ _ _ s₁ (mkF m 0 #[.val (.int i1), .val (.int j1)] [])
  refine Go.of (fun _ hr => XS.iloadN X0.here hx rfl (hb hby d48_0) rfl  hr) ?_
  show Go p e s below _ _ _ _ s₁ (mkF m 1 #[.val (.int i1), .val (.int j1)] [(.int i1)])
  refine Go.of (fun _ hr => XS.iloadN X0.here hx rfl (hb hby d48_1) rfl  hr) ?_
  show Go p e s below _ _ _ _ s₁ (mkF m 2 #[.val (.int i1), .val (.int j1)] [(.int j1), (.int i1)])
  obtain ⟨T101, X101, e101, st101⟩ := getS2 X0 hx hZ hown (host := "") (Or.inl (hw _ (List.mem_of_getElem? (i := 246) rfl))) Via.refl e0 (S_F.ext O0.2) (g := (mkF m 2 #[.val (.int i1), .val (.int j1)] [(.int j1), (.int i1)])) rfl (hb hby d48_2)
  refine Go.of (fun _ hr => st101 _ hr) ?_
  show Go p e s below _ _ _ _ T101 (mkF m 5 #[.val (.int i1), .val (.int j1)] [fs, (.int j1), (.int i1)])
  obtain ⟨_, b102, T102, h102, L102, e102, Cc102, X102, B102, J102, g102, hQ102, st102⟩ := own_callS Cc B0 J0 X101 (hw _ (List.mem_of_getElem? (i := 248) rfl)) (hw _ (List.mem_of_getElem? (i := 249) rfl)) (hw _ (List.mem_of_getElem? (i := 247) rfl)) (hw _ (List.mem_of_getElem? (i := 250) rfl)) (by decide) (rm49 l Z a0 hw [] i1 j1 fs _ h0 n0 O0 h0.size (own_ole O0) K0.1 hfs i0 i9) e101 (g := (mkF m 5 #[.val (.int i1), .val (.int j1)] [fs, (.int j1), (.int i1)])) rfl (by rw [hml]; rfl) (argsL := [(.int i1), (.int j1), fs]) (rest := []) (lenOf pd5 rfl) rfl (W := 0) (by show 2 * 0 + _ ≤ _; exact Nat.le_of_eq rfl) (hb hby d48_5) (by decide) (by decide) (by decide) (by decide)
  obtain ⟨rfl, Nq102, hh102⟩ := hQ102
  have N102 := Fr.app N0 Nq102
  obtain ⟨hx, hZ, hown, hby, hml, hnm, hret, hlk⟩ := id Cc102
  rw [hh102] at e102 B102 J102
  refine Go.of st102 ?_
  show Go p e s below _ _ _ _ T102 (mkF m 8 #[.val (.int i1), .val (.int j1)] [(.int i1)])
  refine Go.of (fun _ hr => XS.pop X102.here hx rfl (hb hby d48_8) rfl rfl hr) ?_
  show Go p e s below _ _ _ _ T102 (mkF m 9 #[.val (.int i1), .val (.int j1)] [])
  exact Go.retV X102 hx hlk B102 J102 e102 hret (hb hby d48_9) (by decide) (by decide) (fun vm_ hw_ => ⟨rfl, (fun y hy => Nat.le_trans hnb (N102 y hy)), rfl⟩)

theorem pn3 : plainName "java/lang/StringLatin1" = true := by first | (simp [plainName, overriddenIn]; done) | decide +kernel
theorem d47_0 : decode jdk_43_method_2_code 0 = .ok (.iload_n 1, 1) := by decide +kernel
theorem d47_1 : decode jdk_43_method_2_code 1 = .ok (.aload_n 0, 1) := by decide +kernel
theorem d47_2 : decode jdk_43_method_2_code 2 = .ok (.arraylength, 1) := by decide +kernel
theorem d47_3 : decode jdk_43_method_2_code 3 = .ok (.invokestatic 9, 3) := by decide +kernel
theorem pd6 : parseMethodDescriptor "(II)V" = some ⟨[.int, .int], none⟩ := by decide +kernel
theorem d47_6 : decode jdk_43_method_2_code 6 = .ok (.aload_n 0, 1) := by decide +kernel
theorem d47_7 : decode jdk_43_method_2_code 7 = .ok (.iload_n 1, 1) := by decide +kernel
theorem d47_8 : decode jdk_43_method_2_code 8 = .ok (.baload, 1) := by decide +kernel
theorem d47_9 : decode jdk_43_method_2_code 9 = .ok (.sipush 255, 3) := by decide +kernel
theorem d47_12 : decode jdk_43_method_2_code 12 = .ok (.iand, 1) := by decide +kernel
theorem d47_13 : decode jdk_43_method_2_code 13 = .ok (.i2c, 1) := by decide +kernel
theorem d47_14 : decode jdk_43_method_2_code 14 = .ok (.ireturn, 1) := by decide +kernel
set_option maxRecDepth 65536 in
set_option maxHeartbeats 40000000 in
theorem rm47 (l : Launch) (Z : State) (a0 : Array Value) (hw : ∀ d ∈ tables_1, d.before a0 Z = true) (ws : List Jvm.Cond) (t1 : Addr) (k1 : ClassId) (b1 : List Int32) (i1 : Int32) (ms : List Addr) (h0 : Heap) (n0 : Nat) (O0 : Old Z n0 h0) (nb : Nat) (hb0 : n0 ≤ nb) (hnb : nb ≤ h0.size) (fs : Value) (hfs : fs = .null ∨ ∃ a, fs = .ref a) (S_F : Sta Z Z.heap "jdk/internal/util/Preconditions" "SIOOBE_FORMATTER" "Ljava/util/function/BiFunction;" fs) (V1 : Arv Z h0 t1 k1 .byte (Int32.ofNat b1.length) (b1.map Value.int) (.int 0)) (i0 : ¬ i1 < 0) (i9 : i1 < Int32.ofNat b1.length) :
    Con l Z ms (⟨"java/lang/StringLatin1", "charAt", "([BI)C"⟩ : MethodName) jdk_43_method_2_code 2 (some .char) ws ({ frames := 2, cells := 0, slots := 0, locals := 27 } : Room) #[(.ref t1), (.int i1)] h0 (fun v vm h L => v = some (.int (chV b1 i1)) ∧ Fr nb L ∧ h = h0) := by
  refine Con.mk (plainFor_of_name pn3) ?_
  intro p e s m below meth c s₁ Cc X0 e0 eb J0 B0 M0
  obtain ⟨hx, hZ, hown, hby, hml, hnm, hret, hlk⟩ := id Cc
  have N0 := Fr.nil h0.size
  have K0 := Keep.refl h0 []
  show Go p e s below _ _ _ _ s₁ (mkF m 0 #[.val (.ref t1), .val (.int i1)] [])
  refine Go.of (fun _ hr => XS.iloadN X0.here hx rfl (hb hby d47_0) rfl  hr) ?_
  show Go p e s below _ _ _ _ s₁ (mkF m 1 #[.val (.ref t1), .val (.int i1)] [(.int i1)])
  refine Go.of (fun _ hr => XS.aloadN X0.here hx rfl (hb hby d47_1) rfl rfl hr) ?_
  show Go p e s below _ _ _ _ s₁ (mkF m 2 #[.val (.ref t1), .val (.int i1)] [(.ref t1), (.int i1)])
  obtain ⟨cl101, Ar101, q101, S101, N101_, H101, G101⟩ := id V1
  refine Go.of (fun _ hr => X0.arraylength hx (by rw [e0]; exact Ar101.1) (State.isArrayOf_alike hZ.alike Ar101.2.1) (g := (mkF m 2 #[.val (.ref t1), .val (.int i1)] [(.ref t1), (.int i1)])) rfl rfl (hb hby d47_2) _ hr) ?_
  rw [len_of S101 N101_]
  show Go p e s below _ _ _ _ s₁ (mkF m 3 #[.val (.ref t1), .val (.int i1)] [(.int (Int32.ofNat b1.length)), (.int i1)])
  obtain ⟨_, b102, T102, h102, L102, e102, Cc102, X102, B102, J102, g102, hQ102, st102⟩ := own_callS Cc B0 J0 X0 (hw _ (List.mem_of_getElem? (i := 243) rfl)) (hw _ (List.mem_of_getElem? (i := 244) rfl)) (hw _ (List.mem_of_getElem? (i := 18) rfl)) (hw _ (List.mem_of_getElem? (i := 245) rfl)) (by decide) (rm48 l Z a0 hw [] i1 (Int32.ofNat b1.length) _ h0 n0 O0 h0.size (own_ole O0) K0.1 fs hfs S_F i0 i9) e0 (g := (mkF m 3 #[.val (.ref t1), .val (.int i1)] [(.int (Int32.ofNat b1.length)), (.int i1)])) rfl (by rw [hml]; rfl) (argsL := [(.int i1), (.int (Int32.ofNat b1.length))]) (rest := []) (lenOf pd6 rfl) rfl (W := 0) (by show 2 * 0 + _ ≤ _; exact Nat.le_of_eq rfl) (hb hby d47_3) (by decide) (by decide) (by decide) (by decide)
  obtain ⟨rfl, Nq102, hh102⟩ := hQ102
  have N102 := Fr.app N0 Nq102
  obtain ⟨hx, hZ, hown, hby, hml, hnm, hret, hlk⟩ := id Cc102
  rw [hh102] at e102 B102 J102
  refine Go.of st102 ?_
  show Go p e s below _ _ _ _ T102 (mkF m 6 #[.val (.ref t1), .val (.int i1)] [])
  refine Go.of (fun _ hr => XS.aloadN X102.here hx rfl (hb hby d47_6) rfl rfl hr) ?_
  show Go p e s below _ _ _ _ T102 (mkF m 7 #[.val (.ref t1), .val (.int i1)] [(.ref t1)])
  refine Go.of (fun _ hr => XS.iloadN X102.here hx rfl (hb hby d47_7) rfl  hr) ?_
  show Go p e s below _ _ _ _ T102 (mkF m 8 #[.val (.ref t1), .val (.int i1)] [(.int i1), (.ref t1)])
  obtain ⟨cl103, Ar103, q103, S103, N103_, H103, G103⟩ := id V1
  have hin103 : ¬ (i1 < 0 ∨ cl103.slots.size ≤ (i1).toNatClampNeg) := inb_of S103 ⟨i0, i9⟩
  refine Go.of (fun _ hr => X102.baloadBytes hx (j := i1) (v := (.int (b1.getD i1.toNatClampNeg 0))) (by rw [e102]; exact Ar103.1) (State.isArrayOf_alike hZ.alike Ar103.2.1) Ar103.2.2 hin103 (H103.at hin103 (getD_int b1 _)) (g := (mkF m 8 #[.val (.ref t1), .val (.int i1)] [(.int i1), (.ref t1)])) rfl rfl (hb hby d47_8) _ hr) ?_
  show Go p e s below _ _ _ _ T102 (mkF m 9 #[.val (.ref t1), .val (.int i1)] [(.int (b1.getD i1.toNatClampNeg 0))])
  refine Go.of (fun _ hr => XS.sipush X102.here hx rfl (hb hby d47_9) hr) ?_
  show Go p e s below _ _ _ _ T102 (mkF m 12 #[.val (.ref t1), .val (.int i1)] [(.int (255 : Int32)), (.int (b1.getD i1.toNatClampNeg 0))])
  refine Go.of (fun _ hr => XS.iand X102.here hx rfl (hb hby d47_12) rfl hr) ?_
  show Go p e s below _ _ _ _ T102 (mkF m 13 #[.val (.ref t1), .val (.int i1)] [(.int ((b1.getD i1.toNatClampNeg 0) &&& (255 : Int32)))])
  refine Go.of (fun _ hr => XS.i2c X102.here hx rfl (hb hby d47_13) rfl hr) ?_
  show Go p e s below _ _ _ _ T102 (mkF m 14 #[.val (.ref t1), .val (.int i1)] [(.int (((b1.getD i1.toNatClampNeg 0) &&& (255 : Int32)).toUInt32.toUInt16.toUInt32.toInt32))])
  exact Go.retN X102 hx hlk B102 J102 e102 (t := .char) (z' := (((b1.getD i1.toNatClampNeg 0) &&& (255 : Int32)).toUInt32.toUInt16.toUInt32.toInt32)) hret (by simp) (hb hby d47_14) (own_c2 _) (by decide) (by decide) (fun vm_ hw_ => ⟨rfl, (fun y hy => Nat.le_trans hnb (N102 y hy)), rfl⟩)

theorem d46_0 : decode jdk_42_method_56_code 0 = .ok (.aload_n 0, 1) := by decide +kernel
theorem d46_1 : decode jdk_42_method_56_code 1 = .ok (.invokevirtual 492, 3) := by decide +kernel
theorem pd7 : parseMethodDescriptor "()Z" = some ⟨[], some .boolean⟩ := by decide +kernel
theorem d46_4 : decode jdk_42_method_56_code 4 = .ok (.ifCond .eq 12, 3) := by decide +kernel
theorem d46_7 : decode jdk_42_method_56_code 7 = .ok (.aload_n 0, 1) := by decide +kernel
theorem d46_8 : decode jdk_42_method_56_code 8 = .ok (.getfield 9, 3) := by decide +kernel
theorem d46_11 : decode jdk_42_method_56_code 11 = .ok (.iload_n 1, 1) := by decide +kernel
theorem d46_12 : decode jdk_42_method_56_code 12 = .ok (.invokestatic 495, 3) := by decide +kernel
theorem pd8 : parseMethodDescriptor "([BI)C" = some ⟨[(.array .byte), .int], some .char⟩ := by decide +kernel
theorem d46_15 : decode jdk_42_method_56_code 15 = .ok (.ireturn, 1) := by decide +kernel
set_option maxRecDepth 65536 in
set_option maxHeartbeats 40000000 in
theorem rm46 (l : Launch) (Z : State) (a0 : Array Value) (hw : ∀ d ∈ tables_1, d.before a0 Z = true) (ws : List Jvm.Cond) (s1 t1 : Addr) (k1 : ClassId) (b1 : List Int32) (i1 : Int32) (zc : Int32) (ms : List Addr) (h0 : Heap) (n0 : Nat) (O0 : Old Z n0 h0) (nb : Nat) (hb0 : n0 ≤ nb) (hnb : nb ≤ h0.size) (fs : Value) (hfs : fs = .null ∨ ∃ a, fs = .ref a) (S_F : Sta Z Z.heap "jdk/internal/util/Preconditions" "SIOOBE_FORMATTER" "Ljava/util/function/BiFunction;" fs) (Es1 : Exa Z h0 s1 "java/lang/String") (Fv1 : Fld Z h0 s1 "java/lang/String" "value" "[B" (.ref t1)) (Fc1 : Fld Z h0 s1 "java/lang/String" "coder" "B" (.int 0)) (V1 : Arv Z h0 t1 k1 .byte (Int32.ofNat b1.length) (b1.map Value.int) (.int 0)) (hn1 : b1.length ≤ 1000) (i0 : ¬ i1 < 0) (i9 : i1 < Int32.ofNat b1.length) (S_C : Sta Z Z.heap "java/lang/String" "COMPACT_STRINGS" "Z" (.int zc)) (hzc : ¬ zc = 0) :
    Con l Z ms (⟨"java/lang/String", "charAt", "(I)C"⟩ : MethodName) jdk_42_method_56_code 2 (some .char) ws ({ frames := 3, cells := 0, slots := 0, locals := 41 } : Room) #[(.ref s1), (.int i1)] h0 (fun v vm h L => v = some (.int (chV b1 i1)) ∧ Fr nb L ∧ h = h0) := by
  refine Con.mk (plainFor_of_name pn1) ?_
  intro p e s m below meth c s₁ Cc X0 e0 eb J0 B0 M0
  obtain ⟨hx, hZ, hown, hby, hml, hnm, hret, hlk⟩ := id Cc
  have N0 := Fr.nil h0.size
  have K0 := Keep.refl h0 []
  show Go p e s below _ _ _ _ s₁ (mkF m 0 #[.val (.ref s1), .val (.int i1)] [])
  refine Go.of (fun _ hr => XS.aloadN X0.here hx rfl (hb hby d46_0) rfl rfl hr) ?_
  show Go p e s below _ _ _ _ s₁ (mkF m 1 #[.val (.ref s1), .val (.int i1)] [(.ref s1)])
  obtain ⟨_, b101, T101, h101, L101, e101, Cc101, X101, B101, J101, g101, hQ101, st101⟩ := own_callV Cc B0 J0 X0 (hw _ (List.mem_of_getElem? (i := 84) rfl)) (hw _ (List.mem_of_getElem? (i := 85) rfl)) (notFace_of_selects (args := #[]) (mvT hZ (hw _ (List.mem_of_getElem? (i := 87) rfl)))) (hw _ (List.mem_of_getElem? (i := 87) rfl)) (hw _ (List.mem_of_getElem? (i := 86) rfl)) (hw _ (List.mem_of_getElem? (i := 18) rfl)) (hw _ (List.mem_of_getElem? (i := 88) rfl)) (by decide) Es1 (rm18 l Z a0 hw [] s1 zc _ h0 n0 O0 h0.size (own_ole O0) K0.1 Fc1 S_C hzc) e0 (g := (mkF m 1 #[.val (.ref s1), .val (.int i1)] [(.ref s1)])) rfl (by rw [hml]; rfl) (argsL := []) (rest := []) (lenOf pd7 rfl) rfl (W := 0) (by show 2 * 0 + _ ≤ _; exact Nat.le_of_eq rfl) (hb hby d46_1) (by decide) (by decide) (by decide) (by decide)
  obtain ⟨rfl, Nq101, hh101⟩ := hQ101
  have N101 := Fr.app N0 Nq101
  obtain ⟨hx, hZ, hown, hby, hml, hnm, hret, hlk⟩ := id Cc101
  rw [hh101] at e101 B101 J101
  refine Go.of st101 ?_
  show Go p e s below _ _ _ _ T101 (mkF m 4 #[.val (.ref s1), .val (.int i1)] [(.int (1 : Int32))])
  refine Go.of (fun _ hr => XS.ifNo X101.here hx rfl (hb hby d46_4) rfl ((if0 _ _).trans (feq (by decide : ¬ ((1 : Int32) = (0 : Int32)))).1) hr) ?_
  show Go p e s below _ _ _ _ T101 (mkF m 7 #[.val (.ref s1), .val (.int i1)] [])
  refine Go.of (fun _ hr => XS.aloadN X101.here hx rfl (hb hby d46_7) rfl rfl hr) ?_
  show Go p e s below _ _ _ _ T101 (mkF m 8 #[.val (.ref s1), .val (.int i1)] [(.ref s1)])
  obtain ⟨T102, X102, e102, st102⟩ := getF X101 hx hZ hown (host := "") (Or.inl (hw _ (List.mem_of_getElem? (i := 44) rfl))) Via.refl e101 Fv1 (g := (mkF m 8 #[.val (.ref s1), .val (.int i1)] [(.ref s1)])) rfl rfl (hb hby d46_8)
  refine Go.of (fun _ hr => st102 _ hr) ?_
  show Go p e s below _ _ _ _ T102 (mkF m 11 #[.val (.ref s1), .val (.int i1)] [(.ref t1)])
  refine Go.of (fun _ hr => XS.iloadN X102.here hx rfl (hb hby d46_11) rfl  hr) ?_
  show Go p e s below _ _ _ _ T102 (mkF m 12 #[.val (.ref s1), .val (.int i1)] [(.int i1), (.ref t1)])
  obtain ⟨_, b103, T103, h103, L103, e103, Cc103, X103, B103, J103, g103, hQ103, st103⟩ := own_callS Cc101 B101 J101 X102 (hw _ (List.mem_of_getElem? (i := 240) rfl)) (hw _ (List.mem_of_getElem? (i := 241) rfl)) (hw _ (List.mem_of_getElem? (i := 91) rfl)) (hw _ (List.mem_of_getElem? (i := 242) rfl)) (by decide) (rm47 l Z a0 hw [] t1 _ b1 i1 _ h0 n0 O0 h0.size (own_ole O0) K0.1 fs hfs S_F V1 i0 i9) e102 (g := (mkF m 12 #[.val (.ref s1), .val (.int i1)] [(.int i1), (.ref t1)])) rfl (by rw [hml]; rfl) (argsL := [(.ref t1), (.int i1)]) (rest := []) (lenOf pd8 rfl) rfl (W := 0) (by show 2 * 0 + _ ≤ _; exact Nat.le_of_eq rfl) (hb hby d46_12) (by decide) (by decide) (by decide) (by decide)
  obtain ⟨rfl, Nq103, hh103⟩ := hQ103
  have N103 := Fr.app N101 Nq103
  obtain ⟨hx, hZ, hown, hby, hml, hnm, hret, hlk⟩ := id Cc103
  rw [hh103] at e103 B103 J103
  refine Go.of st103 ?_
  show Go p e s below _ _ _ _ T103 (mkF m 15 #[.val (.ref s1), .val (.int i1)] [(.int (chV b1 i1))])
  exact Go.retN X103 hx hlk B103 J103 e103 (t := .char) (z' := (chV b1 i1)) hret (by simp) (hb hby d46_15) (own_c2 _) (by decide) (by decide) (fun vm_ hw_ => ⟨rfl, (fun y hy => Nat.le_trans hnb (N103 y hy)), rfl⟩)

theorem pn4 : plainName "java/lang/AbstractStringBuilder" = true := by first | (simp [plainName, overriddenIn]; done) | decide +kernel
theorem d28_0 : decode jdk_68_method_2_code 0 = .ok (.aload_n 0, 1) := by decide +kernel
theorem d28_1 : decode jdk_68_method_2_code 1 = .ok (.invokespecial 3, 3) := by decide +kernel
theorem d28_4 : decode jdk_68_method_2_code 4 = .ok (.getstatic 18, 3) := by decide +kernel
theorem d28_7 : decode jdk_68_method_2_code 7 = .ok (.ifCond .eq 18, 3) := by decide +kernel
theorem d28_10 : decode jdk_68_method_2_code 10 = .ok (.aload_n 0, 1) := by decide +kernel
theorem d28_11 : decode jdk_68_method_2_code 11 = .ok (.iload_n 1, 1) := by decide +kernel
theorem d28_12 : decode jdk_68_method_2_code 12 = .ok (.newarray .byte, 2) := by decide +kernel
theorem d28_14 : decode jdk_68_method_2_code 14 = .ok (.putfield 15, 3) := by decide +kernel
theorem d28_17 : decode jdk_68_method_2_code 17 = .ok (.aload_n 0, 1) := by decide +kernel
theorem d28_18 : decode jdk_68_method_2_code 18 = .ok (.iconst 0, 1) := by decide +kernel
theorem d28_19 : decode jdk_68_method_2_code 19 = .ok (.putfield 22, 3) := by decide +kernel
theorem d28_22 : decode jdk_68_method_2_code 22 = .ok (.goto 16, 3) := by decide +kernel
theorem d28_38 : decode jdk_68_method_2_code 38 = .ok (.return_, 1) := by decide +kernel
set_option maxRecDepth 65536 in
set_option maxHeartbeats 40000000 in
theorem rm28 (l : Launch) (Z : State) (a0 : Array Value) (hw : ∀ d ∈ tables_1, d.before a0 Z = true) (ws : List Jvm.Cond) (a1 : Addr) (u1 u2 : Value) (zc : Int32) (ms : List Addr) (h0 : Heap) (n0 : Nat) (O0 : Old Z n0 h0) (nb : Nat) (hb0 : n0 ≤ nb) (hnb : nb ≤ h0.size) (fr_a1 : nb ≤ a1) (hm_a1 : a1 ∈ ms) (Ea1 : Exa Z h0 a1 "java/lang/StringBuilder") (G1 : Fld Z h0 a1 "java/lang/AbstractStringBuilder" "value" "[B" u1) (G2 : Fld Z h0 a1 "java/lang/AbstractStringBuilder" "coder" "B" u2) (G3 : Fld Z h0 a1 "java/lang/AbstractStringBuilder" "count" "I" (.int 0)) (S_C : Sta Z Z.heap "java/lang/String" "COMPACT_STRINGS" "Z" (.int zc)) (hzc : ¬ zc = 0) :
    Con l Z ms (⟨"java/lang/AbstractStringBuilder", "<init>", "(I)V"⟩ : MethodName) jdk_68_method_2_code 2 none ws ({ frames := 1, cells := 1, slots := 16, locals := 13 } : Room) #[(.ref a1), (.int (16 : Int32))] h0 (fun v vm h L => v = none ∧ Fr nb L ∧ Keep h0 h [a1] ∧ ∃ v1 kv, h0.size ≤ v1 ∧ Fld Z h a1 "java/lang/AbstractStringBuilder" "value" "[B" (.ref v1) ∧ Fld Z h a1 "java/lang/AbstractStringBuilder" "coder" "B" (.int 0) ∧ Fld Z h a1 "java/lang/AbstractStringBuilder" "count" "I" (.int 0) ∧ Arv Z h v1 kv .byte 16 [] (.int 0) ∧ Hd Z (v1 :: ms) vm h) := by
  refine Con.mk (plainFor_of_name pn4) ?_
  intro p e s m below meth c s₁ Cc X0 e0 eb J0 B0 M0
  obtain ⟨hx, hZ, hown, hby, hml, hnm, hret, hlk⟩ := id Cc
  have N0 := Fr.nil nb
  have K0 := Keep.refl h0 [a1]
  show Go p e s below _ _ _ _ s₁ (mkF m 0 #[.val (.ref a1), .val (.int (16 : Int32))] [])
  refine Go.of (fun _ hr => XS.aloadN X0.here hx rfl (hb hby d28_0) rfl rfl hr) ?_
  show Go p e s below _ _ _ _ s₁ (mkF m 1 #[.val (.ref a1), .val (.int (16 : Int32))] [(.ref a1)])
  obtain ⟨T101, X101, e101, st101⟩ := initO X0 hx hZ hown (hw _ (List.mem_of_getElem? (i := 144) rfl)) (hw _ (List.mem_of_getElem? (i := 28) rfl)) (hw _ (List.mem_of_getElem? (i := 29) rfl)) e0 (g := (mkF m 1 #[.val (.ref a1), .val (.int (16 : Int32))] [(.ref a1)])) rfl (by rw [hml]; rfl) rfl (hb hby d28_1) (by decide) (W := 0) (by show 2 * 0 + _ ≤ _; exact Nat.le_of_eq rfl) (by decide)
  refine Go.of (fun _ hr => st101 _ hr) ?_
  show Go p e s below _ _ _ _ T101 (mkF m 4 #[.val (.ref a1), .val (.int (16 : Int32))] [])
  obtain ⟨T102, X102, e102, st102⟩ := getS2 X101 hx hZ hown (host := "") (Or.inl (hw _ (List.mem_of_getElem? (i := 145) rfl))) Via.refl e101 (S_C.ext O0.2) (g := (mkF m 4 #[.val (.ref a1), .val (.int (16 : Int32))] [])) rfl (hb hby d28_4)
  refine Go.of (fun _ hr => st102 _ hr) ?_
  show Go p e s below _ _ _ _ T102 (mkF m 7 #[.val (.ref a1), .val (.int (16 : Int32))] [(.int zc)])
  refine Go.of (fun _ hr => XS.ifNo X102.here hx rfl (hb hby d28_7) rfl ((if0 _ _).trans (feq hzc).1) hr) ?_
  show Go p e s below _ _ _ _ T102 (mkF m 10 #[.val (.ref a1), .val (.int (16 : Int32))] [])
  refine Go.of (fun _ hr => XS.aloadN X102.here hx rfl (hb hby d28_10) rfl rfl hr) ?_
  show Go p e s below _ _ _ _ T102 (mkF m 11 #[.val (.ref a1), .val (.int (16 : Int32))] [(.ref a1)])
  refine Go.of (fun _ hr => XS.iloadN X102.here hx rfl (hb hby d28_11) rfl  hr) ?_
  show Go p e s below _ _ _ _ T102 (mkF m 12 #[.val (.ref a1), .val (.int (16 : Int32))] [(.int (16 : Int32)), (.ref a1)])
  obtain ⟨T103, h103, k103, X103, e103, E103, A103, st103⟩ := newP X102 hx hZ (hw _ (List.mem_of_getElem? (i := 35) rfl)) e102 (g := (mkF m 12 #[.val (.ref a1), .val (.int (16 : Int32))] [(.int (16 : Int32)), (.ref a1)])) rfl (hb hby d28_12) rfl (by decide) (cap := 16) (by decide) (by decide) (by decide) (by decide)
  obtain ⟨o103, g103⟩ : ∃ z, z = h0.size := ⟨_, rfl⟩
  rw [← g103] at A103 st103
  have ne_a1_o103 : a1 ≠ o103 := Nat.ne_of_lt (Nat.lt_of_lt_of_le Ea1.lt (Nat.le_of_eq g103.symm))
  have V103 := Arv.new A103 (by decide)
  have lt103 : o103 < h103.size := A103.lt
  have J103 := J0.add E103 g103 lt103
  have B103 := B0.mono E103.1
  have O103 := O0.ext E103
  have sz103 : h0.size ≤ o103 := Nat.le_trans K0.1 (Nat.le_of_eq g103.symm)
  have fr103 : nb ≤ o103 := Nat.le_trans hnb sz103
  have K103 := K0.ext E103
  refine Go.of (fun _ hr => st103 _ hr) ?_
  show Go p e s below _ _ _ _ T103 (mkF m 14 #[.val (.ref a1), .val (.int (16 : Int32))] [(.ref o103), (.ref a1)])
  have f105 := (G1.ext E103)
  have f106 := (Ea1.ext E103)
  obtain ⟨T104, h104, X104, e104, W104, st104⟩ := putF X103 hx hZ hown (host := "") (Or.inl (hw _ (List.mem_of_getElem? (i := 146) rfl))) Via.refl e103 f105 f106 (Or.inl (hw _ (List.mem_of_getElem? (i := 147) rfl))) (hw _ (List.mem_of_getElem? (i := 133) rfl)) (ty := (.array .byte)) (by decide) rfl rfl (g := (mkF m 14 #[.val (.ref a1), .val (.int (16 : Int32))] [(.ref o103), (.ref a1)])) rfl rfl (hb hby d28_14)
  have N104 := Fr.snoc X104 N0 fr_a1
  have J104 := J103.wr W104 (List.mem_cons_of_mem _ hm_a1)
  have B104 := B103.mono (Nat.le_of_eq W104.size.symm)
  have O104 := O103.wr W104 (Nat.le_trans hb0 fr_a1)
  have K104 := K103.wr W104 (Or.inl (List.mem_of_getElem? (i := 0) rfl))
  have Fw104 := f105.same W104
  refine Go.of (fun _ hr => st104 _ hr) ?_
  show Go p e s below _ _ _ _ T104 (mkF m 17 #[.val (.ref a1), .val (.int (16 : Int32))] [])
  refine Go.of (fun _ hr => XS.aloadN X104.here hx rfl (hb hby d28_17) rfl rfl hr) ?_
  show Go p e s below _ _ _ _ T104 (mkF m 18 #[.val (.ref a1), .val (.int (16 : Int32))] [(.ref a1)])
  refine Go.of (fun _ hr => XS.iconst X104.here hx rfl (hb hby d28_18) hr) ?_
  show Go p e s below _ _ _ _ T104 (mkF m 19 #[.val (.ref a1), .val (.int (16 : Int32))] [(.int (0 : Int32)), (.ref a1)])
  have f108 := ((G2.ext E103).other W104 (Or.inr (slot_ne (Or.inl (hw _ (List.mem_of_getElem? (i := 149) rfl))) (Or.inl (hw _ (List.mem_of_getElem? (i := 147) rfl))) (by decide) (t := .byte) (t' := (.array .byte)) (by decide) (by decide))))
  have f109 := (f106.wr W104)
  obtain ⟨T107, h107, X107, e107, W107, st107⟩ := putFN X104 hx hZ hown (hw _ (List.mem_of_getElem? (i := 148) rfl)) Via.refl e104 f108 f109 (Or.inl (hw _ (List.mem_of_getElem? (i := 149) rfl))) (hw _ (List.mem_of_getElem? (i := 133) rfl)) (ty := .byte) (v := (.int (0 : Int32))) (v' := (.int (0 : Int32))) (by decide) rfl rfl (g := (mkF m 19 #[.val (.ref a1), .val (.int (16 : Int32))] [(.int (0 : Int32)), (.ref a1)])) rfl rfl (hb hby d28_19)
  have N107 := Fr.snoc X107 N104 fr_a1
  have J107 := J104.wr W107 (List.mem_cons_of_mem _ hm_a1)
  have B107 := B104.mono (Nat.le_of_eq W107.size.symm)
  have O107 := O104.wr W107 (Nat.le_trans hb0 fr_a1)
  have K107 := K104.wr W107 (Or.inl (List.mem_of_getElem? (i := 0) rfl))
  have Fw107 := f108.same W107
  refine Go.of (fun _ hr => st107 _ hr) ?_
  show Go p e s below _ _ _ _ T107 (mkF m 22 #[.val (.ref a1), .val (.int (16 : Int32))] [])
  refine Go.of (fun _ hr => XS.goto X107.here hx rfl (pc0 := 22) (pc' := 38) rfl (hb hby d28_22) (by decide) (by decide) hr) ?_
  show Go p e s below _ _ _ _ T107 (mkF m 38 #[.val (.ref a1), .val (.int (16 : Int32))] [])
  have f110 := (Fw104.other W107 (Or.inr (slot_ne (Or.inl (hw _ (List.mem_of_getElem? (i := 147) rfl))) (Or.inl (hw _ (List.mem_of_getElem? (i := 149) rfl))) (by decide) (t := (.array .byte)) (t' := .byte) (by decide) (by decide))))
  have f111 := (((G3.ext E103).other W104 (Or.inr (slot_ne (Or.inl (hw _ (List.mem_of_getElem? (i := 162) rfl))) (Or.inl (hw _ (List.mem_of_getElem? (i := 147) rfl))) (by decide) (t := .int) (t' := (.array .byte)) (by decide) (by decide)))).other W107 (Or.inr (slot_ne (Or.inl (hw _ (List.mem_of_getElem? (i := 162) rfl))) (Or.inl (hw _ (List.mem_of_getElem? (i := 149) rfl))) (by decide) (t := .int) (t' := .byte) (by decide) (by decide))))
  have f112 := ((V103.other W104 (Ne.symm ne_a1_o103)).other W107 (Ne.symm ne_a1_o103))
  exact Go.retV X107 hx hlk B107 (J107.sub fun x hx => (List.mem_cons_of_mem _ hx)) e107 hret (hb hby d28_38) (by decide) (by decide) (fun vm_ hw_ => ⟨rfl, N107, K107, _, _, sz103, f110, Fw107, f111, f112, J107.warm hw_⟩)

theorem pn5 : plainName "java/lang/StringBuilder" = true := by first | (simp [plainName, overriddenIn]; done) | decide +kernel
theorem d27_0 : decode jdk_67_method_1_code 0 = .ok (.aload_n 0, 1) := by decide +kernel
theorem d27_1 : decode jdk_67_method_1_code 1 = .ok (.bipush 16, 2) := by decide +kernel
theorem d27_3 : decode jdk_67_method_1_code 3 = .ok (.invokespecial 1, 3) := by decide +kernel
theorem pd9 : parseMethodDescriptor "(I)V" = some ⟨[.int], none⟩ := by decide +kernel
theorem d27_6 : decode jdk_67_method_1_code 6 = .ok (.return_, 1) := by decide +kernel
set_option maxRecDepth 65536 in
set_option maxHeartbeats 40000000 in
theorem rm27 (l : Launch) (Z : State) (a0 : Array Value) (hw : ∀ d ∈ tables_1, d.before a0 Z = true) (ws : List Jvm.Cond) (a1 : Addr) (u1 u2 : Value) (zc : Int32) (ms : List Addr) (h0 : Heap) (n0 : Nat) (O0 : Old Z n0 h0) (nb : Nat) (hb0 : n0 ≤ nb) (hnb : nb ≤ h0.size) (fr_a1 : nb ≤ a1) (hm_a1 : a1 ∈ ms) (Ea1 : Exa Z h0 a1 "java/lang/StringBuilder") (G1 : Fld Z h0 a1 "java/lang/AbstractStringBuilder" "value" "[B" u1) (G2 : Fld Z h0 a1 "java/lang/AbstractStringBuilder" "coder" "B" u2) (G3 : Fld Z h0 a1 "java/lang/AbstractStringBuilder" "count" "I" (.int 0)) (S_C : Sta Z Z.heap "java/lang/String" "COMPACT_STRINGS" "Z" (.int zc)) (hzc : ¬ zc = 0) :
    Con l Z ms (⟨"java/lang/StringBuilder", "<init>", "()V"⟩ : MethodName) jdk_67_method_1_code 1 none ws ({ frames := 2, cells := 1, slots := 16, locals := 26 } : Room) #[(.ref a1)] h0 (fun v vm h L => v = none ∧ Fr nb L ∧ Keep h0 h [a1] ∧ ∃ v1 kv, h0.size ≤ v1 ∧ Fld Z h a1 "java/lang/AbstractStringBuilder" "value" "[B" (.ref v1) ∧ Fld Z h a1 "java/lang/AbstractStringBuilder" "coder" "B" (.int 0) ∧ Fld Z h a1 "java/lang/AbstractStringBuilder" "count" "I" (.int 0) ∧ Arv Z h v1 kv .byte 16 [] (.int 0) ∧ Hd Z (v1 :: ms) vm h) := by
  refine Con.mk (plainFor_of_name pn5) ?_
  intro p e s m below meth c s₁ Cc X0 e0 eb J0 B0 M0
  obtain ⟨hx, hZ, hown, hby, hml, hnm, hret, hlk⟩ := id Cc
  have N0 := Fr.nil nb
  have K0 := Keep.refl h0 [a1]
  show Go p e s below _ _ _ _ s₁ (mkF m 0 #[.val (.ref a1)] [])
  refine Go.of (fun _ hr => XS.aloadN X0.here hx rfl (hb hby d27_0) rfl rfl hr) ?_
  show Go p e s below _ _ _ _ s₁ (mkF m 1 #[.val (.ref a1)] [(.ref a1)])
  refine Go.of (fun _ hr => XS.bipush X0.here hx rfl (hb hby d27_1) hr) ?_
  show Go p e s below _ _ _ _ s₁ (mkF m 3 #[.val (.ref a1)] [(.int (16 : Int32)), (.ref a1)])
  obtain ⟨_, b101, T101, h101, L101, e101, Cc101, X101, B101, J101, g101, hQ101, st101⟩ := own_callI Cc B0 J0 X0 rfl (hw _ (List.mem_of_getElem? (i := 138) rfl)) (hw _ (List.mem_of_getElem? (i := 139) rfl)) (hw _ (List.mem_of_getElem? (i := 142) rfl)) (hw _ (List.mem_of_getElem? (i := 143) rfl)) (by decide) (rm28 l Z a0 hw [] a1 _ _ zc _ h0 n0 O0 nb hb0 (Nat.le_trans hnb K0.1) fr_a1 hm_a1 Ea1 G1 G2 G3 S_C hzc) e0 (g := (mkF m 3 #[.val (.ref a1)] [(.int (16 : Int32)), (.ref a1)])) rfl (by rw [hml]; rfl) (argsL := [(.int (16 : Int32))]) (rest := []) (lenOf pd9 rfl) rfl (W := 0) (by show 2 * 0 + _ ≤ _; exact Nat.le_of_eq rfl) (hb hby d27_3) (by decide) (by decide) (by decide) (by decide)
  obtain ⟨rfl, Nq101, Kq101, v101, kv101, R_v101, Gv101, Gc101, Gn101, W101_, Jv101⟩ := hQ101
  have N101 := Fr.app N0 Nq101
  obtain ⟨hx, hZ, hown, hby, hml, hnm, hret, hlk⟩ := id Cc101
  have sz_v101 : h0.size ≤ v101 := Nat.le_trans K0.1 R_v101
  have fr_v101 : nb ≤ v101 := Nat.le_trans hnb sz_v101
  have ne_a1_v101 : a1 ≠ v101 := Nat.ne_of_lt (Nat.lt_of_lt_of_le Ea1.lt R_v101)
  have K101 := K0.trans Kq101 (allS (Or.inl (List.mem_of_getElem? (i := 0) rfl)) all0)
  have O101 := O0.keep Kq101 (allS (Nat.le_trans hb0 fr_a1) all0)
  refine Go.of st101 ?_
  show Go p e s below _ _ _ _ T101 (mkF m 6 #[.val (.ref a1)] [])
  exact Go.retV X101 hx hlk B101 (Jv101.sub fun x hx => (List.mem_cons_of_mem _ hx)) e101 hret (hb hby d27_6) (by decide) (by decide) (fun vm_ hw_ => ⟨rfl, N101, K101, _, _, sz_v101, Gv101, Gc101, Gn101, W101_, Jv101.warm hw_⟩)

theorem d31_0 : decode jdk_68_method_9_code 0 = .ok (.aload_n 0, 1) := by decide +kernel
theorem d31_1 : decode jdk_68_method_9_code 1 = .ok (.getfield 15, 3) := by decide +kernel
theorem d31_4 : decode jdk_68_method_9_code 4 = .ok (.arraylength, 1) := by decide +kernel
theorem d31_5 : decode jdk_68_method_9_code 5 = .ok (.aload_n 0, 1) := by decide +kernel
theorem d31_6 : decode jdk_68_method_9_code 6 = .ok (.getfield 22, 3) := by decide +kernel
theorem d31_9 : decode jdk_68_method_9_code 9 = .ok (.ishr, 1) := by decide +kernel
theorem d31_10 : decode jdk_68_method_9_code 10 = .ok (.istore_n 2, 1) := by decide +kernel
theorem d31_11 : decode jdk_68_method_9_code 11 = .ok (.iload_n 1, 1) := by decide +kernel
theorem d31_12 : decode jdk_68_method_9_code 12 = .ok (.iload_n 2, 1) := by decide +kernel
theorem d31_13 : decode jdk_68_method_9_code 13 = .ok (.isub, 1) := by decide +kernel
theorem d31_14 : decode jdk_68_method_9_code 14 = .ok (.ifCond .le 24, 3) := by decide +kernel
theorem d31_38 : decode jdk_68_method_9_code 38 = .ok (.return_, 1) := by decide +kernel
set_option maxRecDepth 65536 in
set_option maxHeartbeats 40000000 in
theorem rm31 (l : Launch) (Z : State) (a0 : Array Value) (hw : ∀ d ∈ tables_1, d.before a0 Z = true) (ws : List Jvm.Cond) (a1 v1 : Addr) (kv : ClassId) (bs : List Int32) (j : Nat) (ms : List Addr) (h0 : Heap) (n0 : Nat) (O0 : Old Z n0 h0) (nb : Nat) (hb0 : n0 ≤ nb) (hnb : nb ≤ h0.size) (Ea1 : Exa Z h0 a1 "java/lang/StringBuilder") (Gv : Fld Z h0 a1 "java/lang/AbstractStringBuilder" "value" "[B" (.ref v1)) (Gc : Fld Z h0 a1 "java/lang/AbstractStringBuilder" "coder" "B" (.int 0)) (Gn : Fld Z h0 a1 "java/lang/AbstractStringBuilder" "count" "I" (.int (Int32.ofNat bs.length))) (W1 : Arv Z h0 v1 kv .byte 16 (bs.map Value.int) (.int 0)) (hj : j ≤ 16) :
    Con l Z ms (⟨"java/lang/AbstractStringBuilder", "ensureCapacityInternal", "(I)V"⟩ : MethodName) jdk_68_method_9_code 3 none ws ({ frames := 0, cells := 0, slots := 0, locals := 0 } : Room) #[(.ref a1), (.int (Int32.ofNat j))] h0 (fun v vm h L => v = none ∧ Fr nb L ∧ h = h0) := by
  refine Con.mk (plainFor_of_name pn4) ?_
  intro p e s m below meth c s₁ Cc X0 e0 eb J0 B0 M0
  obtain ⟨hx, hZ, hown, hby, hml, hnm, hret, hlk⟩ := id Cc
  have N0 := Fr.nil h0.size
  have K0 := Keep.refl h0 []
  show Go p e s below _ _ _ _ s₁ (mkF m 0 #[.val (.ref a1), .val (.int (Int32.ofNat j)), .unset] [])
  refine Go.of (fun _ hr => XS.aloadN X0.here hx rfl (hb hby d31_0) rfl rfl hr) ?_
  show Go p e s below _ _ _ _ s₁ (mkF m 1 #[.val (.ref a1), .val (.int (Int32.ofNat j)), .unset] [(.ref a1)])
  obtain ⟨T101, X101, e101, st101⟩ := getF X0 hx hZ hown (host := "") (Or.inl (hw _ (List.mem_of_getElem? (i := 146) rfl))) Via.refl e0 Gv (g := (mkF m 1 #[.val (.ref a1), .val (.int (Int32.ofNat j)), .unset] [(.ref a1)])) rfl rfl (hb hby d31_1)
  refine Go.of (fun _ hr => st101 _ hr) ?_
  show Go p e s below _ _ _ _ T101 (mkF m 4 #[.val (.ref a1), .val (.int (Int32.ofNat j)), .unset] [(.ref v1)])
  obtain ⟨cl102, Ar102, q102, S102, N102_, H102, G102⟩ := id W1
  refine Go.of (fun _ hr => X101.arraylength hx (by rw [e101]; exact Ar102.1) (State.isArrayOf_alike hZ.alike Ar102.2.1) (g := (mkF m 4 #[.val (.ref a1), .val (.int (Int32.ofNat j)), .unset] [(.ref v1)])) rfl rfl (hb hby d31_4) _ hr) ?_
  rw [len_of S102 N102_]
  show Go p e s below _ _ _ _ T101 (mkF m 5 #[.val (.ref a1), .val (.int (Int32.ofNat j)), .unset] [(.int (16 : Int32))])
  refine Go.of (fun _ hr => XS.aloadN X101.here hx rfl (hb hby d31_5) rfl rfl hr) ?_
  show Go p e s below _ _ _ _ T101 (mkF m 6 #[.val (.ref a1), .val (.int (Int32.ofNat j)), .unset] [(.ref a1), (.int (16 : Int32))])
  obtain ⟨T103, X103, e103, st103⟩ := getF X101 hx hZ hown (host := "") (Or.inl (hw _ (List.mem_of_getElem? (i := 148) rfl))) Via.refl e101 Gc (g := (mkF m 6 #[.val (.ref a1), .val (.int (Int32.ofNat j)), .unset] [(.ref a1), (.int (16 : Int32))])) rfl rfl (hb hby d31_6)
  refine Go.of (fun _ hr => st103 _ hr) ?_
  show Go p e s below _ _ _ _ T103 (mkF m 9 #[.val (.ref a1), .val (.int (Int32.ofNat j)), .unset] [(.int (0 : Int32)), (.int (16 : Int32))])
  refine Go.of (fun _ hr => XS.ishr X103.here hx rfl (hb hby d31_9) rfl hr) ?_
  show Go p e s below _ _ _ _ T103 (mkF m 10 #[.val (.ref a1), .val (.int (Int32.ofNat j)), .unset] [(.int ((16 : Int32) >>> ((0 : Int32) &&& 31)))])
  rw [own_sh0]
  show Go p e s below _ _ _ _ T103 (mkF m 10 #[.val (.ref a1), .val (.int (Int32.ofNat j)), .unset] [(.int (16 : Int32))])
  refine Go.of (fun _ hr => XS.istoreN X103.here hx rfl (hb hby d31_10) rfl (l' := #[.val (.ref a1), .val (.int (Int32.ofNat j)), .val (.int (16 : Int32))]) rfl hr) ?_
  show Go p e s below _ _ _ _ T103 (mkF m 11 #[.val (.ref a1), .val (.int (Int32.ofNat j)), .val (.int (16 : Int32))] [])
  refine Go.of (fun _ hr => XS.iloadN X103.here hx rfl (hb hby d31_11) rfl  hr) ?_
  show Go p e s below _ _ _ _ T103 (mkF m 12 #[.val (.ref a1), .val (.int (Int32.ofNat j)), .val (.int (16 : Int32))] [(.int (Int32.ofNat j))])
  refine Go.of (fun _ hr => XS.iloadN X103.here hx rfl (hb hby d31_12) rfl  hr) ?_
  show Go p e s below _ _ _ _ T103 (mkF m 13 #[.val (.ref a1), .val (.int (Int32.ofNat j)), .val (.int (16 : Int32))] [(.int (16 : Int32)), (.int (Int32.ofNat j))])
  refine Go.of (fun _ hr => XS.isub X103.here hx rfl (hb hby d31_13) rfl hr) ?_
  show Go p e s below _ _ _ _ T103 (mkF m 14 #[.val (.ref a1), .val (.int (Int32.ofNat j)), .val (.int (16 : Int32))] [(.int ((Int32.ofNat j) - (16 : Int32)))])
  refine Go.of (fun _ hr => XS.ifYes X103.here hx rfl (pc0 := 14) (pc' := 38) rfl (hb hby d31_14) rfl ((if0 _ _).trans (flt (own_ens hj)).2.2.2) (by decide) (by decide) hr) ?_
  show Go p e s below _ _ _ _ T103 (mkF m 38 #[.val (.ref a1), .val (.int (Int32.ofNat j)), .val (.int (16 : Int32))] [])
  exact Go.retV X103 hx hlk B0 J0 e103 hret (hb hby d31_38) (by decide) (by decide) (fun vm_ hw_ => ⟨rfl, (fun y hy => Nat.le_trans hnb (N0 y hy)), rfl⟩)

theorem d33_0 : decode jdk_68_method_71_code 0 = .ok (.getstatic 18, 3) := by decide +kernel
theorem d33_3 : decode jdk_68_method_71_code 3 = .ok (.ifCond .eq 18, 3) := by decide +kernel
theorem d33_6 : decode jdk_68_method_71_code 6 = .ok (.aload_n 0, 1) := by decide +kernel
theorem d33_7 : decode jdk_68_method_71_code 7 = .ok (.getfield 22, 3) := by decide +kernel
theorem d33_10 : decode jdk_68_method_71_code 10 = .ok (.aload_n 1, 1) := by decide +kernel
theorem d33_11 : decode jdk_68_method_71_code 11 = .ok (.invokevirtual 40, 3) := by decide +kernel
theorem d33_14 : decode jdk_68_method_71_code 14 = .ok (.if_icmp .eq 7, 3) := by decide +kernel
theorem d33_21 : decode jdk_68_method_71_code 21 = .ok (.return_, 1) := by decide +kernel
set_option maxRecDepth 65536 in
set_option maxHeartbeats 40000000 in
theorem rm33 (l : Launch) (Z : State) (a0 : Array Value) (hw : ∀ d ∈ tables_1, d.before a0 Z = true) (ws : List Jvm.Cond) (a1 v1 : Addr) (kv : ClassId) (bs : List Int32) (s2 t2 : Addr) (k2 : ClassId) (b2 : List Int32) (zc : Int32) (ms : List Addr) (h0 : Heap) (n0 : Nat) (O0 : Old Z n0 h0) (nb : Nat) (hb0 : n0 ≤ nb) (hnb : nb ≤ h0.size) (Ea1 : Exa Z h0 a1 "java/lang/StringBuilder") (Gv : Fld Z h0 a1 "java/lang/AbstractStringBuilder" "value" "[B" (.ref v1)) (Gc : Fld Z h0 a1 "java/lang/AbstractStringBuilder" "coder" "B" (.int 0)) (Gn : Fld Z h0 a1 "java/lang/AbstractStringBuilder" "count" "I" (.int (Int32.ofNat bs.length))) (W1 : Arv Z h0 v1 kv .byte 16 (bs.map Value.int) (.int 0)) (Es2 : Exa Z h0 s2 "java/lang/String") (Fv2 : Fld Z h0 s2 "java/lang/String" "value" "[B" (.ref t2)) (Fc2 : Fld Z h0 s2 "java/lang/String" "coder" "B" (.int 0)) (V2 : Arv Z h0 t2 k2 .byte (Int32.ofNat b2.length) (b2.map Value.int) (.int 0)) (hn2 : b2.length ≤ 1000) (S_C : Sta Z Z.heap "java/lang/String" "COMPACT_STRINGS" "Z" (.int zc)) (hzc : ¬ zc = 0) :
    Con l Z ms (⟨"java/lang/AbstractStringBuilder", "inflateIfNeededFor", "(Ljava/lang/String;)V"⟩ : MethodName) jdk_68_method_71_code 2 none ws ({ frames := 1, cells := 0, slots := 0, locals := 13 } : Room) #[(.ref a1), (.ref s2)] h0 (fun v vm h L => v = none ∧ Fr nb L ∧ h = h0) := by
  refine Con.mk (plainFor_of_name pn4) ?_
  intro p e s m below meth c s₁ Cc X0 e0 eb J0 B0 M0
  obtain ⟨hx, hZ, hown, hby, hml, hnm, hret, hlk⟩ := id Cc
  have N0 := Fr.nil h0.size
  have K0 := Keep.refl h0 []
  show Go p e s below _ _ _ _ s₁ (mkF m 0 #[.val (.ref a1), .val (.ref s2)] [])
  obtain ⟨T101, X101, e101, st101⟩ := getS2 X0 hx hZ hown (host := "") (Or.inl (hw _ (List.mem_of_getElem? (i := 145) rfl))) Via.refl e0 (S_C.ext O0.2) (g := (mkF m 0 #[.val (.ref a1), .val (.ref s2)] [])) rfl (hb hby d33_0)
  refine Go.of (fun _ hr => st101 _ hr) ?_
  show Go p e s below _ _ _ _ T101 (mkF m 3 #[.val (.ref a1), .val (.ref s2)] [(.int zc)])
  refine Go.of (fun _ hr => XS.ifNo X101.here hx rfl (hb hby d33_3) rfl ((if0 _ _).trans (feq hzc).1) hr) ?_
  show Go p e s below _ _ _ _ T101 (mkF m 6 #[.val (.ref a1), .val (.ref s2)] [])
  refine Go.of (fun _ hr => XS.aloadN X101.here hx rfl (hb hby d33_6) rfl rfl hr) ?_
  show Go p e s below _ _ _ _ T101 (mkF m 7 #[.val (.ref a1), .val (.ref s2)] [(.ref a1)])
  obtain ⟨T102, X102, e102, st102⟩ := getF X101 hx hZ hown (host := "") (Or.inl (hw _ (List.mem_of_getElem? (i := 148) rfl))) Via.refl e101 Gc (g := (mkF m 7 #[.val (.ref a1), .val (.ref s2)] [(.ref a1)])) rfl rfl (hb hby d33_7)
  refine Go.of (fun _ hr => st102 _ hr) ?_
  show Go p e s below _ _ _ _ T102 (mkF m 10 #[.val (.ref a1), .val (.ref s2)] [(.int (0 : Int32))])
  refine Go.of (fun _ hr => XS.aloadN X102.here hx rfl (hb hby d33_10) rfl rfl hr) ?_
  show Go p e s below _ _ _ _ T102 (mkF m 11 #[.val (.ref a1), .val (.ref s2)] [(.ref s2), (.int (0 : Int32))])
  obtain ⟨_, b103, T103, h103, L103, e103, Cc103, X103, B103, J103, g103, hQ103, st103⟩ := own_callV Cc B0 J0 X102 (hw _ (List.mem_of_getElem? (i := 178) rfl)) (hw _ (List.mem_of_getElem? (i := 115) rfl)) (notFace_of_selects (args := #[]) (mvT hZ (hw _ (List.mem_of_getElem? (i := 117) rfl)))) (hw _ (List.mem_of_getElem? (i := 117) rfl)) (hw _ (List.mem_of_getElem? (i := 116) rfl)) (hw _ (List.mem_of_getElem? (i := 18) rfl)) (hw _ (List.mem_of_getElem? (i := 118) rfl)) (by decide) Es2 (rm24 l Z a0 hw [] s2 zc _ h0 n0 O0 h0.size (own_ole O0) K0.1 Fc2 S_C hzc) e102 (g := (mkF m 11 #[.val (.ref a1), .val (.ref s2)] [(.ref s2), (.int (0 : Int32))])) rfl (by rw [hml]; rfl) (argsL := []) (rest := [(.int (0 : Int32))]) (lenOf pd4 rfl) rfl (W := 1) (by show 2 * 0 + _ ≤ _; exact Nat.le_of_eq rfl) (hb hby d33_11) (by decide) (by decide) (by decide) (by decide)
  obtain ⟨rfl, Nq103, hh103⟩ := hQ103
  have N103 := Fr.app N0 Nq103
  obtain ⟨hx, hZ, hown, hby, hml, hnm, hret, hlk⟩ := id Cc103
  rw [hh103] at e103 B103 J103
  refine Go.of st103 ?_
  show Go p e s below _ _ _ _ T103 (mkF m 14 #[.val (.ref a1), .val (.ref s2)] [(.int (0 : Int32)), (.int (0 : Int32))])
  refine Go.of (fun _ hr => XS.icmpYes X103.here hx rfl (pc0 := 14) (pc' := 21) rfl (hb hby d33_14) rfl (teq (by decide : ((0 : Int32) = (0 : Int32)))).1 (by decide) (by decide) hr) ?_
  show Go p e s below _ _ _ _ T103 (mkF m 21 #[.val (.ref a1), .val (.ref s2)] [])
  exact Go.retV X103 hx hlk B103 J103 e103 hret (hb hby d33_21) (by decide) (by decide) (fun vm_ hw_ => ⟨rfl, (fun y hy => Nat.le_trans hnb (N103 y hy)), rfl⟩)

theorem d34_0 : decode jdk_42_method_147_code 0 = .ok (.aload_n 0, 1) := by decide +kernel
theorem d34_1 : decode jdk_42_method_147_code 1 = .ok (.invokevirtual 335, 3) := by decide +kernel
theorem d34_4 : decode jdk_42_method_147_code 4 = .ok (.iload_n 3, 1) := by decide +kernel
theorem d34_5 : decode jdk_42_method_147_code 5 = .ok (.if_icmp .ne 23, 3) := by decide +kernel
theorem d34_8 : decode jdk_42_method_147_code 8 = .ok (.aload_n 0, 1) := by decide +kernel
theorem d34_9 : decode jdk_42_method_147_code 9 = .ok (.getfield 9, 3) := by decide +kernel
theorem d34_12 : decode jdk_42_method_147_code 12 = .ok (.iconst 0, 1) := by decide +kernel
theorem d34_13 : decode jdk_42_method_147_code 13 = .ok (.aload_n 1, 1) := by decide +kernel
theorem d34_14 : decode jdk_42_method_147_code 14 = .ok (.iload_n 2, 1) := by decide +kernel
theorem d34_15 : decode jdk_42_method_147_code 15 = .ok (.iload_n 3, 1) := by decide +kernel
theorem d34_16 : decode jdk_42_method_147_code 16 = .ok (.ishl, 1) := by decide +kernel
theorem d34_17 : decode jdk_42_method_147_code 17 = .ok (.aload_n 0, 1) := by decide +kernel
theorem d34_18 : decode jdk_42_method_147_code 18 = .ok (.getfield 9, 3) := by decide +kernel
theorem d34_21 : decode jdk_42_method_147_code 21 = .ok (.arraylength, 1) := by decide +kernel
theorem d34_22 : decode jdk_42_method_147_code 22 = .ok (.invokestatic 212, 3) := by decide +kernel
theorem d34_25 : decode jdk_42_method_147_code 25 = .ok (.goto 18, 3) := by decide +kernel
theorem d34_43 : decode jdk_42_method_147_code 43 = .ok (.return_, 1) := by decide +kernel
set_option maxRecDepth 65536 in
set_option maxHeartbeats 40000000 in
theorem rm34 (l : Launch) (Z : State) (a0 : Array Value) (hw : ∀ d ∈ tables_1, d.before a0 Z = true) (ws : List Jvm.Cond) (v1 : Addr) (kv : ClassId) (bs : List Int32) (s2 t2 : Addr) (k2 : ClassId) (b2 : List Int32) (zc : Int32) (ms : List Addr) (h0 : Heap) (n0 : Nat) (O0 : Old Z n0 h0) (nb : Nat) (hb0 : n0 ≤ nb) (hnb : nb ≤ h0.size) (fr_v1 : nb ≤ v1) (hm_v1 : v1 ∈ ms) (W1 : Arv Z h0 v1 kv .byte 16 (bs.map Value.int) (.int 0)) (Es2 : Exa Z h0 s2 "java/lang/String") (Fv2 : Fld Z h0 s2 "java/lang/String" "value" "[B" (.ref t2)) (Fc2 : Fld Z h0 s2 "java/lang/String" "coder" "B" (.int 0)) (V2 : Arv Z h0 t2 k2 .byte (Int32.ofNat b2.length) (b2.map Value.int) (.int 0)) (hn2 : b2.length ≤ 1000) (hl : bs.length + b2.length ≤ 16) (ne2 : t2 ≠ v1) (S_C : Sta Z Z.heap "java/lang/String" "COMPACT_STRINGS" "Z" (.int zc)) (hzc : ¬ zc = 0) :
    Con l Z ms (⟨"java/lang/String", "getBytes", "([BIB)V"⟩ : MethodName) jdk_42_method_147_code 4 none ws ({ frames := 1, cells := 0, slots := 0, locals := 40 } : Room) #[(.ref s2), (.ref v1), (.int (Int32.ofNat bs.length)), (.int (0 : Int32))] h0 (fun v vm h L => v = none ∧ Fr nb L ∧ Keep h0 h [v1] ∧ Arv Z h v1 kv .byte 16 ((bs ++ b2).map Value.int) (.int 0)) := by
  refine Con.mk (plainFor_of_name pn1) ?_
  intro p e s m below meth c s₁ Cc X0 e0 eb J0 B0 M0
  obtain ⟨hx, hZ, hown, hby, hml, hnm, hret, hlk⟩ := id Cc
  have N0 := Fr.nil nb
  have K0 := Keep.refl h0 [v1]
  show Go p e s below _ _ _ _ s₁ (mkF m 0 #[.val (.ref s2), .val (.ref v1), .val (.int (Int32.ofNat bs.length)), .val (.int (0 : Int32))] [])
  refine Go.of (fun _ hr => XS.aloadN X0.here hx rfl (hb hby d34_0) rfl rfl hr) ?_
  show Go p e s below _ _ _ _ s₁ (mkF m 1 #[.val (.ref s2), .val (.ref v1), .val (.int (Int32.ofNat bs.length)), .val (.int (0 : Int32))] [(.ref s2)])
  obtain ⟨_, b101, T101, h101, L101, e101, Cc101, X101, B101, J101, g101, hQ101, st101⟩ := own_callV Cc B0 J0 X0 (hw _ (List.mem_of_getElem? (i := 114) rfl)) (hw _ (List.mem_of_getElem? (i := 115) rfl)) (notFace_of_selects (args := #[]) (mvT hZ (hw _ (List.mem_of_getElem? (i := 117) rfl)))) (hw _ (List.mem_of_getElem? (i := 117) rfl)) (hw _ (List.mem_of_getElem? (i := 116) rfl)) (hw _ (List.mem_of_getElem? (i := 18) rfl)) (hw _ (List.mem_of_getElem? (i := 118) rfl)) (by decide) Es2 (rm24 l Z a0 hw [] s2 zc _ h0 n0 O0 h0.size (own_ole O0) K0.1 Fc2 S_C hzc) e0 (g := (mkF m 1 #[.val (.ref s2), .val (.ref v1), .val (.int (Int32.ofNat bs.length)), .val (.int (0 : Int32))] [(.ref s2)])) rfl (by rw [hml]; rfl) (argsL := []) (rest := []) (lenOf pd4 rfl) rfl (W := 0) (by show 2 * 0 + _ ≤ _; exact Nat.le_of_eq rfl) (hb hby d34_1) (by decide) (by decide) (by decide) (by decide)
  obtain ⟨rfl, Nq101, hh101⟩ := hQ101
  have N101 := Fr.app N0 (show Fr nb _ from fun y hy => Nat.le_trans hnb (Nq101 y hy))
  have NS101 := Fr.app (Fr.nil _) Nq101
  obtain ⟨hx, hZ, hown, hby, hml, hnm, hret, hlk⟩ := id Cc101
  rw [hh101] at e101 B101 J101
  refine Go.of st101 ?_
  show Go p e s below _ _ _ _ T101 (mkF m 4 #[.val (.ref s2), .val (.ref v1), .val (.int (Int32.ofNat bs.length)), .val (.int (0 : Int32))] [(.int (0 : Int32))])
  refine Go.of (fun _ hr => XS.iloadN X101.here hx rfl (hb hby d34_4) rfl  hr) ?_
  show Go p e s below _ _ _ _ T101 (mkF m 5 #[.val (.ref s2), .val (.ref v1), .val (.int (Int32.ofNat bs.length)), .val (.int (0 : Int32))] [(.int (0 : Int32)), (.int (0 : Int32))])
  refine Go.of (fun _ hr => XS.icmpNo X101.here hx rfl (hb hby d34_5) rfl (teq (by decide : ((0 : Int32) = (0 : Int32)))).2 hr) ?_
  show Go p e s below _ _ _ _ T101 (mkF m 8 #[.val (.ref s2), .val (.ref v1), .val (.int (Int32.ofNat bs.length)), .val (.int (0 : Int32))] [])
  refine Go.of (fun _ hr => XS.aloadN X101.here hx rfl (hb hby d34_8) rfl rfl hr) ?_
  show Go p e s below _ _ _ _ T101 (mkF m 9 #[.val (.ref s2), .val (.ref v1), .val (.int (Int32.ofNat bs.length)), .val (.int (0 : Int32))] [(.ref s2)])
  obtain ⟨T102, X102, e102, st102⟩ := getF X101 hx hZ hown (host := "") (Or.inl (hw _ (List.mem_of_getElem? (i := 44) rfl))) Via.refl e101 Fv2 (g := (mkF m 9 #[.val (.ref s2), .val (.ref v1), .val (.int (Int32.ofNat bs.length)), .val (.int (0 : Int32))] [(.ref s2)])) rfl rfl (hb hby d34_9)
  refine Go.of (fun _ hr => st102 _ hr) ?_
  show Go p e s below _ _ _ _ T102 (mkF m 12 #[.val (.ref s2), .val (.ref v1), .val (.int (Int32.ofNat bs.length)), .val (.int (0 : Int32))] [(.ref t2)])
  refine Go.of (fun _ hr => XS.iconst X102.here hx rfl (hb hby d34_12) hr) ?_
  show Go p e s below _ _ _ _ T102 (mkF m 13 #[.val (.ref s2), .val (.ref v1), .val (.int (Int32.ofNat bs.length)), .val (.int (0 : Int32))] [(.int (0 : Int32)), (.ref t2)])
  refine Go.of (fun _ hr => XS.aloadN X102.here hx rfl (hb hby d34_13) rfl rfl hr) ?_
  show Go p e s below _ _ _ _ T102 (mkF m 14 #[.val (.ref s2), .val (.ref v1), .val (.int (Int32.ofNat bs.length)), .val (.int (0 : Int32))] [(.ref v1), (.int (0 : Int32)), (.ref t2)])
  refine Go.of (fun _ hr => XS.iloadN X102.here hx rfl (hb hby d34_14) rfl  hr) ?_
  show Go p e s below _ _ _ _ T102 (mkF m 15 #[.val (.ref s2), .val (.ref v1), .val (.int (Int32.ofNat bs.length)), .val (.int (0 : Int32))] [(.int (Int32.ofNat bs.length)), (.ref v1), (.int (0 : Int32)), (.ref t2)])
  refine Go.of (fun _ hr => XS.iloadN X102.here hx rfl (hb hby d34_15) rfl  hr) ?_
  show Go p e s below _ _ _ _ T102 (mkF m 16 #[.val (.ref s2), .val (.ref v1), .val (.int (Int32.ofNat bs.length)), .val (.int (0 : Int32))] [(.int (0 : Int32)), (.int (Int32.ofNat bs.length)), (.ref v1), (.int (0 : Int32)), (.ref t2)])
  refine Go.of (fun _ hr => XS.ishl X102.here hx rfl (hb hby d34_16) rfl hr) ?_
  show Go p e s below _ _ _ _ T102 (mkF m 17 #[.val (.ref s2), .val (.ref v1), .val (.int (Int32.ofNat bs.length)), .val (.int (0 : Int32))] [(.int ((Int32.ofNat bs.length) <<< ((0 : Int32) &&& 31))), (.ref v1), (.int (0 : Int32)), (.ref t2)])
  rw [own_sl0]
  show Go p e s below _ _ _ _ T102 (mkF m 17 #[.val (.ref s2), .val (.ref v1), .val (.int (Int32.ofNat bs.length)), .val (.int (0 : Int32))] [(.int (Int32.ofNat bs.length)), (.ref v1), (.int (0 : Int32)), (.ref t2)])
  refine Go.of (fun _ hr => XS.aloadN X102.here hx rfl (hb hby d34_17) rfl rfl hr) ?_
  show Go p e s below _ _ _ _ T102 (mkF m 18 #[.val (.ref s2), .val (.ref v1), .val (.int (Int32.ofNat bs.length)), .val (.int (0 : Int32))] [(.ref s2), (.int (Int32.ofNat bs.length)), (.ref v1), (.int (0 : Int32)), (.ref t2)])
  obtain ⟨T103, X103, e103, st103⟩ := getF X102 hx hZ hown (host := "") (Or.inl (hw _ (List.mem_of_getElem? (i := 44) rfl))) Via.refl e102 Fv2 (g := (mkF m 18 #[.val (.ref s2), .val (.ref v1), .val (.int (Int32.ofNat bs.length)), .val (.int (0 : Int32))] [(.ref s2), (.int (Int32.ofNat bs.length)), (.ref v1), (.int (0 : Int32)), (.ref t2)])) rfl rfl (hb hby d34_18)
  refine Go.of (fun _ hr => st103 _ hr) ?_
  show Go p e s below _ _ _ _ T103 (mkF m 21 #[.val (.ref s2), .val (.ref v1), .val (.int (Int32.ofNat bs.length)), .val (.int (0 : Int32))] [(.ref t2), (.int (Int32.ofNat bs.length)), (.ref v1), (.int (0 : Int32)), (.ref t2)])
  obtain ⟨cl104, Ar104, q104, S104, N104_, H104, G104⟩ := id V2
  refine Go.of (fun _ hr => X103.arraylength hx (by rw [e103]; exact Ar104.1) (State.isArrayOf_alike hZ.alike Ar104.2.1) (g := (mkF m 21 #[.val (.ref s2), .val (.ref v1), .val (.int (Int32.ofNat bs.length)), .val (.int (0 : Int32))] [(.ref t2), (.int (Int32.ofNat bs.length)), (.ref v1), (.int (0 : Int32)), (.ref t2)])) rfl rfl (hb hby d34_21) _ hr) ?_
  rw [len_of S104 N104_]
  show Go p e s below _ _ _ _ T103 (mkF m 22 #[.val (.ref s2), .val (.ref v1), .val (.int (Int32.ofNat bs.length)), .val (.int (0 : Int32))] [(.int (Int32.ofNat b2.length)), (.int (Int32.ofNat bs.length)), (.ref v1), (.int (0 : Int32)), (.ref t2)])
  obtain ⟨T105, h105, L105, X105, e105, N105, Kq105, V105, st105⟩ := cpA X103 hx hZ hown (hw _ (List.mem_of_getElem? (i := 184) rfl)) (hw _ (List.mem_of_getElem? (i := 187) rfl)) (hw _ (List.mem_of_getElem? (i := 185) rfl)) (hw _ (List.mem_of_getElem? (i := 186) rfl)) e103 V2 (W1.pad (pad_rep _ _ b2.length)) (us := b2.map Value.int) (Or.inl ⟨rfl, rfl⟩) (by decide) (oi_nn (by omega)) (oi_nn (by omega)) (cp4 (by omega) (by rw [oi_nat (by omega)]; exact Nat.le_refl _)) (cp5 (by omega) (by omega) (by show _ ≤ 16; omega)) (cpu b2 (by omega)) (cpl bs b2 (by omega) (by omega)) N101 fr_v1 (g := (mkF m 22 #[.val (.ref s2), .val (.ref v1), .val (.int (Int32.ofNat bs.length)), .val (.int (0 : Int32))] [(.int (Int32.ofNat b2.length)), (.int (Int32.ofNat bs.length)), (.ref v1), (.int (0 : Int32)), (.ref t2)])) rfl (by rw [hml]; rfl) rfl (hb hby d34_22) (by decide) (W := 0) (by show 2 * 0 + _ ≤ _; exact Nat.le_of_eq rfl) (by decide)
  have K105 := K0.trans Kq105 (allS (Or.inl (List.mem_of_getElem? (i := 0) rfl)) all0)
  have O105 := O0.keep Kq105 (allS (Nat.le_trans hb0 fr_v1) all0)
  have B105 := B101.mono Kq105.1
  have J105 := Hd.keep J101 Kq105 (allS hm_v1 all0)
  have Vc105 : Arv Z h105 v1 kv .byte (16 : Int32) ((bs ++ b2).map Value.int) (.int 0) := by have q := V105; exact cp_res bs b2 (by omega) (by omega) ▸ q
  refine Go.of (fun _ hr => st105 _ hr) ?_
  show Go p e s below _ _ _ _ T105 (mkF m 25 #[.val (.ref s2), .val (.ref v1), .val (.int (Int32.ofNat bs.length)), .val (.int (0 : Int32))] [])
  refine Go.of (fun _ hr => XS.goto X105.here hx rfl (pc0 := 25) (pc' := 43) rfl (hb hby d34_25) (by decide) (by decide) hr) ?_
  show Go p e s below _ _ _ _ T105 (mkF m 43 #[.val (.ref s2), .val (.ref v1), .val (.int (Int32.ofNat bs.length)), .val (.int (0 : Int32))] [])
  exact Go.retV X105 hx hlk B105 J105 e105 hret (hb hby d34_43) (by decide) (by decide) (fun vm_ hw_ => ⟨rfl, N105, K105, Vc105⟩)

theorem d32_0 : decode jdk_68_method_73_code 0 = .ok (.aload_n 0, 1) := by decide +kernel
theorem d32_1 : decode jdk_68_method_73_code 1 = .ok (.aload_n 2, 1) := by decide +kernel
theorem d32_2 : decode jdk_68_method_73_code 2 = .ok (.invokevirtual 397, 3) := by decide +kernel
theorem pd10 : parseMethodDescriptor "(Ljava/lang/String;)V" = some ⟨[(.object "java/lang/String")], none⟩ := by decide +kernel
theorem d32_5 : decode jdk_68_method_73_code 5 = .ok (.aload_n 2, 1) := by decide +kernel
theorem d32_6 : decode jdk_68_method_73_code 6 = .ok (.aload_n 0, 1) := by decide +kernel
theorem d32_7 : decode jdk_68_method_73_code 7 = .ok (.getfield 15, 3) := by decide +kernel
theorem d32_10 : decode jdk_68_method_73_code 10 = .ok (.iload_n 1, 1) := by decide +kernel
theorem d32_11 : decode jdk_68_method_73_code 11 = .ok (.aload_n 0, 1) := by decide +kernel
theorem d32_12 : decode jdk_68_method_73_code 12 = .ok (.getfield 22, 3) := by decide +kernel
theorem d32_15 : decode jdk_68_method_73_code 15 = .ok (.invokevirtual 399, 3) := by decide +kernel
theorem pd11 : parseMethodDescriptor "([BIB)V" = some ⟨[(.array .byte), .int, .byte], none⟩ := by decide +kernel
theorem d32_18 : decode jdk_68_method_73_code 18 = .ok (.return_, 1) := by decide +kernel
set_option maxRecDepth 65536 in
set_option maxHeartbeats 40000000 in
theorem rm32 (l : Launch) (Z : State) (a0 : Array Value) (hw : ∀ d ∈ tables_1, d.before a0 Z = true) (ws : List Jvm.Cond) (a1 v1 : Addr) (kv : ClassId) (bs : List Int32) (s2 t2 : Addr) (k2 : ClassId) (b2 : List Int32) (zc : Int32) (ms : List Addr) (h0 : Heap) (n0 : Nat) (O0 : Old Z n0 h0) (nb : Nat) (hb0 : n0 ≤ nb) (hnb : nb ≤ h0.size) (fr_v1 : nb ≤ v1) (hm_v1 : v1 ∈ ms) (Ea1 : Exa Z h0 a1 "java/lang/StringBuilder") (Gv : Fld Z h0 a1 "java/lang/AbstractStringBuilder" "value" "[B" (.ref v1)) (Gc : Fld Z h0 a1 "java/lang/AbstractStringBuilder" "coder" "B" (.int 0)) (Gn : Fld Z h0 a1 "java/lang/AbstractStringBuilder" "count" "I" (.int (Int32.ofNat bs.length))) (W1 : Arv Z h0 v1 kv .byte 16 (bs.map Value.int) (.int 0)) (Es2 : Exa Z h0 s2 "java/lang/String") (Fv2 : Fld Z h0 s2 "java/lang/String" "value" "[B" (.ref t2)) (Fc2 : Fld Z h0 s2 "java/lang/String" "coder" "B" (.int 0)) (V2 : Arv Z h0 t2 k2 .byte (Int32.ofNat b2.length) (b2.map Value.int) (.int 0)) (hn2 : b2.length ≤ 1000) (hl : bs.length + b2.length ≤ 16) (ne2 : t2 ≠ v1) (nea : a1 ≠ v1) (nes : s2 ≠ v1) (S_C : Sta Z Z.heap "java/lang/String" "COMPACT_STRINGS" "Z" (.int zc)) (hzc : ¬ zc = 0) :
    Con l Z ms (⟨"java/lang/AbstractStringBuilder", "putStringAt", "(ILjava/lang/String;)V"⟩ : MethodName) jdk_68_method_73_code 3 none ws ({ frames := 2, cells := 0, slots := 0, locals := 55 } : Room) #[(.ref a1), (.int (Int32.ofNat bs.length)), (.ref s2)] h0 (fun v vm h L => v = none ∧ Fr nb L ∧ Keep h0 h [v1] ∧ Arv Z h v1 kv .byte 16 ((bs ++ b2).map Value.int) (.int 0)) := by
  refine Con.mk (plainFor_of_name pn4) ?_
  intro p e s m below meth c s₁ Cc X0 e0 eb J0 B0 M0
  obtain ⟨hx, hZ, hown, hby, hml, hnm, hret, hlk⟩ := id Cc
  have N0 := Fr.nil nb
  have K0 := Keep.refl h0 [v1]
  show Go p e s below _ _ _ _ s₁ (mkF m 0 #[.val (.ref a1), .val (.int (Int32.ofNat bs.length)), .val (.ref s2)] [])
  refine Go.of (fun _ hr => XS.aloadN X0.here hx rfl (hb hby d32_0) rfl rfl hr) ?_
  show Go p e s below _ _ _ _ s₁ (mkF m 1 #[.val (.ref a1), .val (.int (Int32.ofNat bs.length)), .val (.ref s2)] [(.ref a1)])
  refine Go.of (fun _ hr => XS.aloadN X0.here hx rfl (hb hby d32_1) rfl rfl hr) ?_
  show Go p e s below _ _ _ _ s₁ (mkF m 2 #[.val (.ref a1), .val (.int (Int32.ofNat bs.length)), .val (.ref s2)] [(.ref s2), (.ref a1)])
  obtain ⟨_, b101, T101, h101, L101, e101, Cc101, X101, B101, J101, g101, hQ101, st101⟩ := own_callV Cc B0 J0 X0 (hw _ (List.mem_of_getElem? (i := 173) rfl)) (own_decl (hw _ (List.mem_of_getElem? (i := 174) rfl)) (hw _ (List.mem_of_getElem? (i := 177) rfl))) (notFace_of_selects (args := #[]) (mvT hZ (hw _ (List.mem_of_getElem? (i := 176) rfl)))) (hw _ (List.mem_of_getElem? (i := 176) rfl)) (hw _ (List.mem_of_getElem? (i := 174) rfl)) (hw _ (List.mem_of_getElem? (i := 142) rfl)) (hw _ (List.mem_of_getElem? (i := 177) rfl)) (by decide) Ea1 (rm33 l Z a0 hw [] a1 v1 _ bs s2 t2 _ b2 zc _ h0 n0 O0 h0.size (own_ole O0) K0.1 Ea1 Gv Gc Gn W1 Es2 Fv2 Fc2 V2 hn2 S_C hzc) e0 (g := (mkF m 2 #[.val (.ref a1), .val (.int (Int32.ofNat bs.length)), .val (.ref s2)] [(.ref s2), (.ref a1)])) rfl (by rw [hml]; rfl) (argsL := [(.ref s2)]) (rest := []) (lenOf pd10 rfl) rfl (W := 0) (by show 2 * 0 + _ ≤ _; exact Nat.le_of_eq rfl) (hb hby d32_2) (by decide) (by decide) (by decide) (by decide)
  obtain ⟨rfl, Nq101, hh101⟩ := hQ101
  have N101 := Fr.app N0 (show Fr nb _ from fun y hy => Nat.le_trans hnb (Nq101 y hy))
  have NS101 := Fr.app (Fr.nil _) Nq101
  obtain ⟨hx, hZ, hown, hby, hml, hnm, hret, hlk⟩ := id Cc101
  rw [hh101] at e101 B101 J101
  refine Go.of st101 ?_
  show Go p e s below _ _ _ _ T101 (mkF m 5 #[.val (.ref a1), .val (.int (Int32.ofNat bs.length)), .val (.ref s2)] [])
  refine Go.of (fun _ hr => XS.aloadN X101.here hx rfl (hb hby d32_5) rfl rfl hr) ?_
  show Go p e s below _ _ _ _ T101 (mkF m 6 #[.val (.ref a1), .val (.int (Int32.ofNat bs.length)), .val (.ref s2)] [(.ref s2)])
  refine Go.of (fun _ hr => XS.aloadN X101.here hx rfl (hb hby d32_6) rfl rfl hr) ?_
  show Go p e s below _ _ _ _ T101 (mkF m 7 #[.val (.ref a1), .val (.int (Int32.ofNat bs.length)), .val (.ref s2)] [(.ref a1), (.ref s2)])
  obtain ⟨T102, X102, e102, st102⟩ := getF X101 hx hZ hown (host := "") (Or.inl (hw _ (List.mem_of_getElem? (i := 146) rfl))) Via.refl e101 Gv (g := (mkF m 7 #[.val (.ref a1), .val (.int (Int32.ofNat bs.length)), .val (.ref s2)] [(.ref a1), (.ref s2)])) rfl rfl (hb hby d32_7)
  refine Go.of (fun _ hr => st102 _ hr) ?_
  show Go p e s below _ _ _ _ T102 (mkF m 10 #[.val (.ref a1), .val (.int (Int32.ofNat bs.length)), .val (.ref s2)] [(.ref v1), (.ref s2)])
  refine Go.of (fun _ hr => XS.iloadN X102.here hx rfl (hb hby d32_10) rfl  hr) ?_
  show Go p e s below _ _ _ _ T102 (mkF m 11 #[.val (.ref a1), .val (.int (Int32.ofNat bs.length)), .val (.ref s2)] [(.int (Int32.ofNat bs.length)), (.ref v1), (.ref s2)])
  refine Go.of (fun _ hr => XS.aloadN X102.here hx rfl (hb hby d32_11) rfl rfl hr) ?_
  show Go p e s below _ _ _ _ T102 (mkF m 12 #[.val (.ref a1), .val (.int (Int32.ofNat bs.length)), .val (.ref s2)] [(.ref a1), (.int (Int32.ofNat bs.length)), (.ref v1), (.ref s2)])
  obtain ⟨T103, X103, e103, st103⟩ := getF X102 hx hZ hown (host := "") (Or.inl (hw _ (List.mem_of_getElem? (i := 148) rfl))) Via.refl e102 Gc (g := (mkF m 12 #[.val (.ref a1), .val (.int (Int32.ofNat bs.length)), .val (.ref s2)] [(.ref a1), (.int (Int32.ofNat bs.length)), (.ref v1), (.ref s2)])) rfl rfl (hb hby d32_12)
  refine Go.of (fun _ hr => st103 _ hr) ?_
  show Go p e s below _ _ _ _ T103 (mkF m 15 #[.val (.ref a1), .val (.int (Int32.ofNat bs.length)), .val (.ref s2)] [(.int (0 : Int32)), (.int (Int32.ofNat bs.length)), (.ref v1), (.ref s2)])
  obtain ⟨_, b104, T104, h104, L104, e104, Cc104, X104, B104, J104, g104, hQ104, st104⟩ := own_callV Cc101 B101 J101 X103 (hw _ (List.mem_of_getElem? (i := 179) rfl)) (hw _ (List.mem_of_getElem? (i := 180) rfl)) (notFace_of_selects (args := #[]) (mvT hZ (hw _ (List.mem_of_getElem? (i := 182) rfl)))) (hw _ (List.mem_of_getElem? (i := 182) rfl)) (hw _ (List.mem_of_getElem? (i := 181) rfl)) (hw _ (List.mem_of_getElem? (i := 18) rfl)) (hw _ (List.mem_of_getElem? (i := 183) rfl)) (by decide) Es2 (rm34 l Z a0 hw [] v1 _ bs s2 t2 _ b2 zc _ h0 n0 O0 nb hb0 (Nat.le_trans hnb K0.1) fr_v1 hm_v1 W1 Es2 Fv2 Fc2 V2 hn2 hl ne2 S_C hzc) e103 (g := (mkF m 15 #[.val (.ref a1), .val (.int (Int32.ofNat bs.length)), .val (.ref s2)] [(.int (0 : Int32)), (.int (Int32.ofNat bs.length)), (.ref v1), (.ref s2)])) rfl (by rw [hml]; rfl) (argsL := [(.ref v1), (.int (Int32.ofNat bs.length)), (.int (0 : Int32))]) (rest := []) (lenOf pd11 rfl) rfl (W := 0) (by show 2 * 0 + _ ≤ _; exact Nat.le_of_eq rfl) (hb hby d32_15) (by decide) (by decide) (by decide) (by decide)
  obtain ⟨rfl, Nq104, Kq104, Wv104⟩ := hQ104
  have N104 := Fr.app N101 Nq104
  obtain ⟨hx, hZ, hown, hby, hml, hnm, hret, hlk⟩ := id Cc104
  have K104 := K0.trans Kq104 (allS (Or.inl (List.mem_of_getElem? (i := 0) rfl)) all0)
  have O104 := O0.keep Kq104 (allS (Nat.le_trans hb0 fr_v1) all0)
  refine Go.of st104 ?_
  show Go p e s below _ _ _ _ T104 (mkF m 18 #[.val (.ref a1), .val (.int (Int32.ofNat bs.length)), .val (.ref s2)] [])
  exact Go.retV X104 hx hlk B104 J104 e104 hret (hb hby d32_18) (by decide) (by decide) (fun vm_ hw_ => ⟨rfl, N104, K104, Wv104⟩)

theorem d30_0 : decode jdk_68_method_22_code 0 = .ok (.aload_n 1, 1) := by decide +kernel
theorem d30_1 : decode jdk_68_method_22_code 1 = .ok (.ifnonnull 8, 3) := by decide +kernel
theorem d30_9 : decode jdk_68_method_22_code 9 = .ok (.aload_n 1, 1) := by decide +kernel
theorem d30_10 : decode jdk_68_method_22_code 10 = .ok (.invokevirtual 32, 3) := by decide +kernel
theorem pd12 : parseMethodDescriptor "()I" = some ⟨[], some .int⟩ := by decide +kernel
theorem d30_13 : decode jdk_68_method_22_code 13 = .ok (.istore_n 2, 1) := by decide +kernel
theorem d30_14 : decode jdk_68_method_22_code 14 = .ok (.aload_n 0, 1) := by decide +kernel
theorem d30_15 : decode jdk_68_method_22_code 15 = .ok (.aload_n 0, 1) := by decide +kernel
theorem d30_16 : decode jdk_68_method_22_code 16 = .ok (.getfield 79, 3) := by decide +kernel
theorem d30_19 : decode jdk_68_method_22_code 19 = .ok (.iload_n 2, 1) := by decide +kernel
theorem d30_20 : decode jdk_68_method_22_code 20 = .ok (.iadd, 1) := by decide +kernel
theorem d30_21 : decode jdk_68_method_22_code 21 = .ok (.invokevirtual 100, 3) := by decide +kernel
theorem d30_24 : decode jdk_68_method_22_code 24 = .ok (.aload_n 0, 1) := by decide +kernel
theorem d30_25 : decode jdk_68_method_22_code 25 = .ok (.aload_n 0, 1) := by decide +kernel
theorem d30_26 : decode jdk_68_method_22_code 26 = .ok (.getfield 79, 3) := by decide +kernel
theorem d30_29 : decode jdk_68_method_22_code 29 = .ok (.aload_n 1, 1) := by decide +kernel
theorem d30_30 : decode jdk_68_method_22_code 30 = .ok (.invokevirtual 208, 3) := by decide +kernel
theorem pd13 : parseMethodDescriptor "(ILjava/lang/String;)V" = some ⟨[.int, (.object "java/lang/String")], none⟩ := by decide +kernel
theorem d30_33 : decode jdk_68_method_22_code 33 = .ok (.aload_n 0, 1) := by decide +kernel
theorem d30_34 : decode jdk_68_method_22_code 34 = .ok (.dup, 1) := by decide +kernel
theorem d30_35 : decode jdk_68_method_22_code 35 = .ok (.getfield 79, 3) := by decide +kernel
theorem d30_38 : decode jdk_68_method_22_code 38 = .ok (.iload_n 2, 1) := by decide +kernel
theorem d30_39 : decode jdk_68_method_22_code 39 = .ok (.iadd, 1) := by decide +kernel
theorem d30_40 : decode jdk_68_method_22_code 40 = .ok (.putfield 79, 3) := by decide +kernel
theorem d30_43 : decode jdk_68_method_22_code 43 = .ok (.aload_n 0, 1) := by decide +kernel
theorem d30_44 : decode jdk_68_method_22_code 44 = .ok (.areturn, 1) := by decide +kernel
set_option maxRecDepth 65536 in
set_option maxHeartbeats 40000000 in
theorem rm30 (l : Launch) (Z : State) (a0 : Array Value) (hw : ∀ d ∈ tables_1, d.before a0 Z = true) (ws : List Jvm.Cond) (a1 v1 : Addr) (kv : ClassId) (bs : List Int32) (s2 t2 : Addr) (k2 : ClassId) (b2 : List Int32) (zc : Int32) (ms : List Addr) (h0 : Heap) (n0 : Nat) (O0 : Old Z n0 h0) (nb : Nat) (hb0 : n0 ≤ nb) (hnb : nb ≤ h0.size) (fr_a1 : nb ≤ a1) (hm_a1 : a1 ∈ ms) (fr_v1 : nb ≤ v1) (hm_v1 : v1 ∈ ms) (Ea1 : Exa Z h0 a1 "java/lang/StringBuilder") (Gv : Fld Z h0 a1 "java/lang/AbstractStringBuilder" "value" "[B" (.ref v1)) (Gc : Fld Z h0 a1 "java/lang/AbstractStringBuilder" "coder" "B" (.int 0)) (Gn : Fld Z h0 a1 "java/lang/AbstractStringBuilder" "count" "I" (.int (Int32.ofNat bs.length))) (W1 : Arv Z h0 v1 kv .byte 16 (bs.map Value.int) (.int 0)) (Es2 : Exa Z h0 s2 "java/lang/String") (Fv2 : Fld Z h0 s2 "java/lang/String" "value" "[B" (.ref t2)) (Fc2 : Fld Z h0 s2 "java/lang/String" "coder" "B" (.int 0)) (V2 : Arv Z h0 t2 k2 .byte (Int32.ofNat b2.length) (b2.map Value.int) (.int 0)) (hn2 : b2.length ≤ 1000) (hl : bs.length + b2.length ≤ 16) (ne2 : t2 ≠ v1) (nea : a1 ≠ v1) (nes : s2 ≠ v1) (ne2a : t2 ≠ a1) (nesa : s2 ≠ a1) (S_C : Sta Z Z.heap "java/lang/String" "COMPACT_STRINGS" "Z" (.int zc)) (hzc : ¬ zc = 0) :
    Con l Z ms (⟨"java/lang/AbstractStringBuilder", "append", "(Ljava/lang/String;)Ljava/lang/AbstractStringBuilder;"⟩ : MethodName) jdk_68_method_22_code 3 (some (.object "java/lang/AbstractStringBuilder")) ws ({ frames := 3, cells := 0, slots := 0, locals := 69 } : Room) #[(.ref a1), (.ref s2)] h0 (fun v vm h L => v = some (.ref a1) ∧ Fr nb L ∧ Keep h0 h [a1, v1] ∧ Fld Z h a1 "java/lang/AbstractStringBuilder" "value" "[B" (.ref v1) ∧ Fld Z h a1 "java/lang/AbstractStringBuilder" "coder" "B" (.int 0) ∧ Fld Z h a1 "java/lang/AbstractStringBuilder" "count" "I" (.int (Int32.ofNat (bs ++ b2).length)) ∧ Arv Z h v1 kv .byte 16 ((bs ++ b2).map Value.int) (.int 0)) := by
  refine Con.mk (plainFor_of_name pn4) ?_
  intro p e s m below meth c s₁ Cc X0 e0 eb J0 B0 M0
  obtain ⟨hx, hZ, hown, hby, hml, hnm, hret, hlk⟩ := id Cc
  have N0 := Fr.nil nb
  have K0 := Keep.refl h0 [a1, v1]
  show Go p e s below _ _ _ _ s₁ (mkF m 0 #[.val (.ref a1), .val (.ref s2), .unset] [])
  refine Go.of (fun _ hr => XS.aloadN X0.here hx rfl (hb hby d30_0) rfl rfl hr) ?_
  show Go p e s below _ _ _ _ s₁ (mkF m 1 #[.val (.ref a1), .val (.ref s2), .unset] [(.ref s2)])
  refine Go.of (fun _ hr => XS.ifnonnullYes X0.here hx rfl (pc0 := 1) (pc' := 9) rfl (hb hby d30_1) rfl (by decide) (by decide) hr) ?_
  show Go p e s below _ _ _ _ s₁ (mkF m 9 #[.val (.ref a1), .val (.ref s2), .unset] [])
  refine Go.of (fun _ hr => XS.aloadN X0.here hx rfl (hb hby d30_9) rfl rfl hr) ?_
  show Go p e s below _ _ _ _ s₁ (mkF m 10 #[.val (.ref a1), .val (.ref s2), .unset] [(.ref s2)])
  obtain ⟨_, b101, T101, h101, L101, e101, Cc101, X101, B101, J101, g101, hQ101, st101⟩ := own_callV Cc B0 J0 X0 (hw _ (List.mem_of_getElem? (i := 160) rfl)) (hw _ (List.mem_of_getElem? (i := 110) rfl)) (notFace_of_selects (args := #[]) (mvT hZ (hw _ (List.mem_of_getElem? (i := 112) rfl)))) (hw _ (List.mem_of_getElem? (i := 112) rfl)) (hw _ (List.mem_of_getElem? (i := 111) rfl)) (hw _ (List.mem_of_getElem? (i := 18) rfl)) (hw _ (List.mem_of_getElem? (i := 113) rfl)) (by decide) Es2 (rm23 l Z a0 hw [] s2 t2 _ b2 zc _ h0 n0 O0 h0.size (own_ole O0) K0.1 Es2 Fv2 Fc2 V2 hn2 S_C hzc) e0 (g := (mkF m 10 #[.val (.ref a1), .val (.ref s2), .unset] [(.ref s2)])) rfl (by rw [hml]; rfl) (argsL := []) (rest := []) (lenOf pd12 rfl) rfl (W := 0) (by show 2 * 0 + _ ≤ _; exact Nat.le_of_eq rfl) (hb hby d30_10) (by decide) (by decide) (by decide) (by decide)
  obtain ⟨rfl, Nq101, hh101⟩ := hQ101
  have N101 := Fr.app N0 (show Fr nb _ from fun y hy => Nat.le_trans hnb (Nq101 y hy))
  have NS101 := Fr.app (Fr.nil _) Nq101
  obtain ⟨hx, hZ, hown, hby, hml, hnm, hret, hlk⟩ := id Cc101
  rw [hh101] at e101 B101 J101
  refine Go.of st101 ?_
  show Go p e s below _ _ _ _ T101 (mkF m 13 #[.val (.ref a1), .val (.ref s2), .unset] [(.int (Int32.ofNat b2.length))])
  refine Go.of (fun _ hr => XS.istoreN X101.here hx rfl (hb hby d30_13) rfl (l' := #[.val (.ref a1), .val (.ref s2), .val (.int (Int32.ofNat b2.length))]) rfl hr) ?_
  show Go p e s below _ _ _ _ T101 (mkF m 14 #[.val (.ref a1), .val (.ref s2), .val (.int (Int32.ofNat b2.length))] [])
  refine Go.of (fun _ hr => XS.aloadN X101.here hx rfl (hb hby d30_14) rfl rfl hr) ?_
  show Go p e s below _ _ _ _ T101 (mkF m 15 #[.val (.ref a1), .val (.ref s2), .val (.int (Int32.ofNat b2.length))] [(.ref a1)])
  refine Go.of (fun _ hr => XS.aloadN X101.here hx rfl (hb hby d30_15) rfl rfl hr) ?_
  show Go p e s below _ _ _ _ T101 (mkF m 16 #[.val (.ref a1), .val (.ref s2), .val (.int (Int32.ofNat b2.length))] [(.ref a1), (.ref a1)])
  obtain ⟨T102, X102, e102, st102⟩ := getF X101 hx hZ hown (host := "") (Or.inl (hw _ (List.mem_of_getElem? (i := 161) rfl))) Via.refl e101 Gn (g := (mkF m 16 #[.val (.ref a1), .val (.ref s2), .val (.int (Int32.ofNat b2.length))] [(.ref a1), (.ref a1)])) rfl rfl (hb hby d30_16)
  refine Go.of (fun _ hr => st102 _ hr) ?_
  show Go p e s below _ _ _ _ T102 (mkF m 19 #[.val (.ref a1), .val (.ref s2), .val (.int (Int32.ofNat b2.length))] [(.int (Int32.ofNat bs.length)), (.ref a1)])
  refine Go.of (fun _ hr => XS.iloadN X102.here hx rfl (hb hby d30_19) rfl  hr) ?_
  show Go p e s below _ _ _ _ T102 (mkF m 20 #[.val (.ref a1), .val (.ref s2), .val (.int (Int32.ofNat b2.length))] [(.int (Int32.ofNat b2.length)), (.int (Int32.ofNat bs.length)), (.ref a1)])
  refine Go.of (fun _ hr => XS.iadd X102.here hx rfl (hb hby d30_20) rfl hr) ?_
  show Go p e s below _ _ _ _ T102 (mkF m 21 #[.val (.ref a1), .val (.ref s2), .val (.int (Int32.ofNat b2.length))] [(.int ((Int32.ofNat bs.length) + (Int32.ofNat b2.length))), (.ref a1)])
  rw [oi_add (show bs.length + b2.length < 2147483648 by omega)]
  show Go p e s below _ _ _ _ T102 (mkF m 21 #[.val (.ref a1), .val (.ref s2), .val (.int (Int32.ofNat b2.length))] [(.int (Int32.ofNat (bs.length + b2.length))), (.ref a1)])
  obtain ⟨_, b103, T103, h103, L103, e103, Cc103, X103, B103, J103, g103, hQ103, st103⟩ := own_callV Cc101 B101 J101 X102 (hw _ (List.mem_of_getElem? (i := 163) rfl)) (own_decl (hw _ (List.mem_of_getElem? (i := 164) rfl)) (hw _ (List.mem_of_getElem? (i := 167) rfl))) (notFace_of_selects (args := #[]) (mvT hZ (hw _ (List.mem_of_getElem? (i := 166) rfl)))) (hw _ (List.mem_of_getElem? (i := 166) rfl)) (hw _ (List.mem_of_getElem? (i := 164) rfl)) (hw _ (List.mem_of_getElem? (i := 142) rfl)) (hw _ (List.mem_of_getElem? (i := 167) rfl)) (by decide) Ea1 (rm31 l Z a0 hw [] a1 v1 _ bs (bs.length + b2.length) _ h0 n0 O0 h0.size (own_ole O0) K0.1 Ea1 Gv Gc Gn W1 hl) e102 (g := (mkF m 21 #[.val (.ref a1), .val (.ref s2), .val (.int (Int32.ofNat b2.length))] [(.int (Int32.ofNat (bs.length + b2.length))), (.ref a1)])) rfl (by rw [hml]; rfl) (argsL := [(.int (Int32.ofNat (bs.length + b2.length)))]) (rest := []) (lenOf pd9 rfl) rfl (W := 0) (by show 2 * 0 + _ ≤ _; exact Nat.le_of_eq rfl) (hb hby d30_21) (by decide) (by decide) (by decide) (by decide)
  obtain ⟨rfl, Nq103, hh103⟩ := hQ103
  have N103 := Fr.app N101 (show Fr nb _ from fun y hy => Nat.le_trans hnb (Nq103 y hy))
  have NS103 := Fr.app NS101 Nq103
  obtain ⟨hx, hZ, hown, hby, hml, hnm, hret, hlk⟩ := id Cc103
  rw [hh103] at e103 B103 J103
  refine Go.of st103 ?_
  show Go p e s below _ _ _ _ T103 (mkF m 24 #[.val (.ref a1), .val (.ref s2), .val (.int (Int32.ofNat b2.length))] [])
  refine Go.of (fun _ hr => XS.aloadN X103.here hx rfl (hb hby d30_24) rfl rfl hr) ?_
  show Go p e s below _ _ _ _ T103 (mkF m 25 #[.val (.ref a1), .val (.ref s2), .val (.int (Int32.ofNat b2.length))] [(.ref a1)])
  refine Go.of (fun _ hr => XS.aloadN X103.here hx rfl (hb hby d30_25) rfl rfl hr) ?_
  show Go p e s below _ _ _ _ T103 (mkF m 26 #[.val (.ref a1), .val (.ref s2), .val (.int (Int32.ofNat b2.length))] [(.ref a1), (.ref a1)])
  obtain ⟨T104, X104, e104, st104⟩ := getF X103 hx hZ hown (host := "") (Or.inl (hw _ (List.mem_of_getElem? (i := 161) rfl))) Via.refl e103 Gn (g := (mkF m 26 #[.val (.ref a1), .val (.ref s2), .val (.int (Int32.ofNat b2.length))] [(.ref a1), (.ref a1)])) rfl rfl (hb hby d30_26)
  refine Go.of (fun _ hr => st104 _ hr) ?_
  show Go p e s below _ _ _ _ T104 (mkF m 29 #[.val (.ref a1), .val (.ref s2), .val (.int (Int32.ofNat b2.length))] [(.int (Int32.ofNat bs.length)), (.ref a1)])
  refine Go.of (fun _ hr => XS.aloadN X104.here hx rfl (hb hby d30_29) rfl rfl hr) ?_
  show Go p e s below _ _ _ _ T104 (mkF m 30 #[.val (.ref a1), .val (.ref s2), .val (.int (Int32.ofNat b2.length))] [(.ref s2), (.int (Int32.ofNat bs.length)), (.ref a1)])
  obtain ⟨_, b105, T105, h105, L105, e105, Cc105, X105, B105, J105, g105, hQ105, st105⟩ := own_callV Cc103 B103 J103 X104 (hw _ (List.mem_of_getElem? (i := 168) rfl)) (own_decl (hw _ (List.mem_of_getElem? (i := 169) rfl)) (hw _ (List.mem_of_getElem? (i := 172) rfl))) (notFace_of_selects (args := #[]) (mvT hZ (hw _ (List.mem_of_getElem? (i := 171) rfl)))) (hw _ (List.mem_of_getElem? (i := 171) rfl)) (hw _ (List.mem_of_getElem? (i := 169) rfl)) (hw _ (List.mem_of_getElem? (i := 142) rfl)) (hw _ (List.mem_of_getElem? (i := 172) rfl)) (by decide) Ea1 (rm32 l Z a0 hw [] a1 v1 _ bs s2 t2 _ b2 zc _ h0 n0 O0 nb hb0 (Nat.le_trans hnb K0.1) fr_v1 hm_v1 Ea1 Gv Gc Gn W1 Es2 Fv2 Fc2 V2 hn2 hl ne2 nea nes S_C hzc) e104 (g := (mkF m 30 #[.val (.ref a1), .val (.ref s2), .val (.int (Int32.ofNat b2.length))] [(.ref s2), (.int (Int32.ofNat bs.length)), (.ref a1)])) rfl (by rw [hml]; rfl) (argsL := [(.int (Int32.ofNat bs.length)), (.ref s2)]) (rest := []) (lenOf pd13 rfl) rfl (W := 0) (by show 2 * 0 + _ ≤ _; exact Nat.le_of_eq rfl) (hb hby d30_30) (by decide) (by decide) (by decide) (by decide)
  obtain ⟨rfl, Nq105, Kq105, Wv105⟩ := hQ105
  have N105 := Fr.app N103 Nq105
  obtain ⟨hx, hZ, hown, hby, hml, hnm, hret, hlk⟩ := id Cc105
  have K105 := K0.trans Kq105 (allS (Or.inl (List.mem_of_getElem? (i := 1) rfl)) all0)
  have O105 := O0.keep Kq105 (allS (Nat.le_trans hb0 fr_v1) all0)
  refine Go.of st105 ?_
  show Go p e s below _ _ _ _ T105 (mkF m 33 #[.val (.ref a1), .val (.ref s2), .val (.int (Int32.ofNat b2.length))] [])
  refine Go.of (fun _ hr => XS.aloadN X105.here hx rfl (hb hby d30_33) rfl rfl hr) ?_
  show Go p e s below _ _ _ _ T105 (mkF m 34 #[.val (.ref a1), .val (.ref s2), .val (.int (Int32.ofNat b2.length))] [(.ref a1)])
  refine Go.of (fun _ hr => XS.dup X105.here hx rfl (hb hby d30_34) rfl rfl hr) ?_
  show Go p e s below _ _ _ _ T105 (mkF m 35 #[.val (.ref a1), .val (.ref s2), .val (.int (Int32.ofNat b2.length))] [(.ref a1), (.ref a1)])
  have f107 := (Gn.keep Kq105 (ninS nea nin0))
  obtain ⟨T106, X106, e106, st106⟩ := getF X105 hx hZ hown (host := "") (Or.inl (hw _ (List.mem_of_getElem? (i := 161) rfl))) Via.refl e105 f107 (g := (mkF m 35 #[.val (.ref a1), .val (.ref s2), .val (.int (Int32.ofNat b2.length))] [(.ref a1), (.ref a1)])) rfl rfl (hb hby d30_35)
  refine Go.of (fun _ hr => st106 _ hr) ?_
  show Go p e s below _ _ _ _ T106 (mkF m 38 #[.val (.ref a1), .val (.ref s2), .val (.int (Int32.ofNat b2.length))] [(.int (Int32.ofNat bs.length)), (.ref a1)])
  refine Go.of (fun _ hr => XS.iloadN X106.here hx rfl (hb hby d30_38) rfl  hr) ?_
  show Go p e s below _ _ _ _ T106 (mkF m 39 #[.val (.ref a1), .val (.ref s2), .val (.int (Int32.ofNat b2.length))] [(.int (Int32.ofNat b2.length)), (.int (Int32.ofNat bs.length)), (.ref a1)])
  refine Go.of (fun _ hr => XS.iadd X106.here hx rfl (hb hby d30_39) rfl hr) ?_
  show Go p e s below _ _ _ _ T106 (mkF m 40 #[.val (.ref a1), .val (.ref s2), .val (.int (Int32.ofNat b2.length))] [(.int ((Int32.ofNat bs.length) + (Int32.ofNat b2.length))), (.ref a1)])
  rw [oi_add (show bs.length + b2.length < 2147483648 by omega), ← List.length_append]
  show Go p e s below _ _ _ _ T106 (mkF m 40 #[.val (.ref a1), .val (.ref s2), .val (.int (Int32.ofNat b2.length))] [(.int (Int32.ofNat (bs ++ b2).length)), (.ref a1)])
  have f109 := (Ea1.keep Kq105)
  obtain ⟨T108, h108, X108, e108, W108, st108⟩ := putF X106 hx hZ hown (host := "") (Or.inl (hw _ (List.mem_of_getElem? (i := 161) rfl))) Via.refl e106 f107 f109 (Or.inl (hw _ (List.mem_of_getElem? (i := 162) rfl))) (hw _ (List.mem_of_getElem? (i := 133) rfl)) (ty := .int) (by decide) rfl rfl (g := (mkF m 40 #[.val (.ref a1), .val (.ref s2), .val (.int (Int32.ofNat b2.length))] [(.int (Int32.ofNat (bs ++ b2).length)), (.ref a1)])) rfl rfl (hb hby d30_40)
  have N108 := Fr.snoc X108 N105 fr_a1
  have J108 := J105.wr W108 hm_a1
  have B108 := B105.mono (Nat.le_of_eq W108.size.symm)
  have O108 := O105.wr W108 (Nat.le_trans hb0 fr_a1)
  have K108 := K105.wr W108 (Or.inl (List.mem_of_getElem? (i := 0) rfl))
  have Fw108 := f107.same W108
  refine Go.of (fun _ hr => st108 _ hr) ?_
  show Go p e s below _ _ _ _ T108 (mkF m 43 #[.val (.ref a1), .val (.ref s2), .val (.int (Int32.ofNat b2.length))] [])
  refine Go.of (fun _ hr => XS.aloadN X108.here hx rfl (hb hby d30_43) rfl rfl hr) ?_
  show Go p e s below _ _ _ _ T108 (mkF m 44 #[.val (.ref a1), .val (.ref s2), .val (.int (Int32.ofNat b2.length))] [(.ref a1)])
  have f110 := ((Gv.keep Kq105 (ninS nea nin0)).other W108 (Or.inr (slot_ne (Or.inl (hw _ (List.mem_of_getElem? (i := 147) rfl))) (Or.inl (hw _ (List.mem_of_getElem? (i := 162) rfl))) (by decide) (t := (.array .byte)) (t' := .int) (by decide) (by decide))))
  have f111 := ((Gc.keep Kq105 (ninS nea nin0)).other W108 (Or.inr (slot_ne (Or.inl (hw _ (List.mem_of_getElem? (i := 149) rfl))) (Or.inl (hw _ (List.mem_of_getElem? (i := 162) rfl))) (by decide) (t := .byte) (t' := .int) (by decide) (by decide))))
  have f112 := (Wv105.other W108 (Ne.symm nea))
  exact Go.retA X108 hx hlk B108 J108 e108 hret rfl rfl (hb hby d30_44) (by decide) (by decide) (fun vm_ hw_ => ⟨rfl, N108, K108, f110, f111, Fw108, f112⟩)

theorem d29_0 : decode jdk_67_method_7_code 0 = .ok (.aload_n 0, 1) := by decide +kernel
theorem d29_1 : decode jdk_67_method_7_code 1 = .ok (.aload_n 1, 1) := by decide +kernel
theorem d29_2 : decode jdk_67_method_7_code 2 = .ok (.invokespecial 29, 3) := by decide +kernel
theorem pd14 : parseMethodDescriptor "(Ljava/lang/String;)Ljava/lang/AbstractStringBuilder;" = some ⟨[(.object "java/lang/String")], some (.object "java/lang/AbstractStringBuilder")⟩ := by decide +kernel
theorem d29_5 : decode jdk_67_method_7_code 5 = .ok (.pop, 1) := by decide +kernel
theorem d29_6 : decode jdk_67_method_7_code 6 = .ok (.aload_n 0, 1) := by decide +kernel
theorem d29_7 : decode jdk_67_method_7_code 7 = .ok (.areturn, 1) := by decide +kernel
set_option maxRecDepth 65536 in
set_option maxHeartbeats 40000000 in
theorem rm29 (l : Launch) (Z : State) (a0 : Array Value) (hw : ∀ d ∈ tables_1, d.before a0 Z = true) (ws : List Jvm.Cond) (a1 v1 : Addr) (kv : ClassId) (bs : List Int32) (s2 t2 : Addr) (k2 : ClassId) (b2 : List Int32) (zc : Int32) (ms : List Addr) (h0 : Heap) (n0 : Nat) (O0 : Old Z n0 h0) (nb : Nat) (hb0 : n0 ≤ nb) (hnb : nb ≤ h0.size) (fr_a1 : nb ≤ a1) (hm_a1 : a1 ∈ ms) (fr_v1 : nb ≤ v1) (hm_v1 : v1 ∈ ms) (Ea1 : Exa Z h0 a1 "java/lang/StringBuilder") (Gv : Fld Z h0 a1 "java/lang/AbstractStringBuilder" "value" "[B" (.ref v1)) (Gc : Fld Z h0 a1 "java/lang/AbstractStringBuilder" "coder" "B" (.int 0)) (Gn : Fld Z h0 a1 "java/lang/AbstractStringBuilder" "count" "I" (.int (Int32.ofNat bs.length))) (W1 : Arv Z h0 v1 kv .byte 16 (bs.map Value.int) (.int 0)) (Es2 : Exa Z h0 s2 "java/lang/String") (Fv2 : Fld Z h0 s2 "java/lang/String" "value" "[B" (.ref t2)) (Fc2 : Fld Z h0 s2 "java/lang/String" "coder" "B" (.int 0)) (V2 : Arv Z h0 t2 k2 .byte (Int32.ofNat b2.length) (b2.map Value.int) (.int 0)) (hn2 : b2.length ≤ 1000) (hl : bs.length + b2.length ≤ 16) (ne2 : t2 ≠ v1) (nea : a1 ≠ v1) (nes : s2 ≠ v1) (ne2a : t2 ≠ a1) (nesa : s2 ≠ a1) (S_C : Sta Z Z.heap "java/lang/String" "COMPACT_STRINGS" "Z" (.int zc)) (hzc : ¬ zc = 0) :
    Con l Z ms (⟨"java/lang/StringBuilder", "append", "(Ljava/lang/String;)Ljava/lang/StringBuilder;"⟩ : MethodName) jdk_67_method_7_code 2 (some (.object "java/lang/StringBuilder")) ws ({ frames := 4, cells := 0, slots := 0, locals := 83 } : Room) #[(.ref a1), (.ref s2)] h0 (fun v vm h L => v = some (.ref a1) ∧ Fr nb L ∧ Keep h0 h [a1, v1] ∧ Fld Z h a1 "java/lang/AbstractStringBuilder" "value" "[B" (.ref v1) ∧ Fld Z h a1 "java/lang/AbstractStringBuilder" "coder" "B" (.int 0) ∧ Fld Z h a1 "java/lang/AbstractStringBuilder" "count" "I" (.int (Int32.ofNat (bs ++ b2).length)) ∧ Arv Z h v1 kv .byte 16 ((bs ++ b2).map Value.int) (.int 0)) := by
  refine Con.mk (plainFor_of_name pn5) ?_
  intro p e s m below meth c s₁ Cc X0 e0 eb J0 B0 M0
  obtain ⟨hx, hZ, hown, hby, hml, hnm, hret, hlk⟩ := id Cc
  have N0 := Fr.nil nb
  have K0 := Keep.refl h0 [a1, v1]
  show Go p e s below _ _ _ _ s₁ (mkF m 0 #[.val (.ref a1), .val (.ref s2)] [])
  refine Go.of (fun _ hr => XS.aloadN X0.here hx rfl (hb hby d29_0) rfl rfl hr) ?_
  show Go p e s below _ _ _ _ s₁ (mkF m 1 #[.val (.ref a1), .val (.ref s2)] [(.ref a1)])
  refine Go.of (fun _ hr => XS.aloadN X0.here hx rfl (hb hby d29_1) rfl rfl hr) ?_
  show Go p e s below _ _ _ _ s₁ (mkF m 2 #[.val (.ref a1), .val (.ref s2)] [(.ref s2), (.ref a1)])
  obtain ⟨_, b101, T101, h101, L101, e101, Cc101, X101, B101, J101, g101, hQ101, st101⟩ := own_callP Cc B0 J0 X0 (y := (⟨"java/lang/AbstractStringBuilder", "append", "(Ljava/lang/String;)Ljava/lang/AbstractStringBuilder;"⟩ : MethodName)) (hw _ (List.mem_of_getElem? (i := 155) rfl)) (own_sm (hw _ (List.mem_of_getElem? (i := 156) rfl)) (own_nf (hw _ (List.mem_of_getElem? (i := 166) rfl)) rfl) (by decide)) (hw _ (List.mem_of_getElem? (i := 156) rfl)) (hw _ (List.mem_of_getElem? (i := 157) rfl)) (by decide) (hw _ (List.mem_of_getElem? (i := 142) rfl)) (hw _ (List.mem_of_getElem? (i := 159) rfl)) Ea1 (rm30 l Z a0 hw [] a1 v1 _ bs s2 t2 _ b2 zc _ h0 n0 O0 nb hb0 (Nat.le_trans hnb K0.1) fr_a1 hm_a1 fr_v1 hm_v1 Ea1 Gv Gc Gn W1 Es2 Fv2 Fc2 V2 hn2 hl ne2 nea nes ne2a nesa S_C hzc) e0 (g := (mkF m 2 #[.val (.ref a1), .val (.ref s2)] [(.ref s2), (.ref a1)])) rfl (by rw [hml]; rfl) (argsL := [(.ref s2)]) (rest := []) (lenOf pd14 rfl) rfl (W := 0) (by show 2 * 0 + _ ≤ _; exact Nat.le_of_eq rfl) (hb hby d29_2) (by decide) (by decide) (by decide) (by decide)
  obtain ⟨rfl, Nq101, Kq101, Gv101, Gc101, Gn101, Wv101⟩ := hQ101
  have N101 := Fr.app N0 Nq101
  obtain ⟨hx, hZ, hown, hby, hml, hnm, hret, hlk⟩ := id Cc101
  have K101 := K0.trans Kq101 (allS (Or.inl (List.mem_of_getElem? (i := 0) rfl)) (allS (Or.inl (List.mem_of_getElem? (i := 1) rfl)) all0))
  have O101 := O0.keep Kq101 (allS (Nat.le_trans hb0 fr_a1) (allS (Nat.le_trans hb0 fr_v1) all0))
  refine Go.of st101 ?_
  show Go p e s below _ _ _ _ T101 (mkF m 5 #[.val (.ref a1), .val (.ref s2)] [(.ref a1)])
  refine Go.of (fun _ hr => XS.pop X101.here hx rfl (hb hby d29_5) rfl rfl hr) ?_
  show Go p e s below _ _ _ _ T101 (mkF m 6 #[.val (.ref a1), .val (.ref s2)] [])
  refine Go.of (fun _ hr => XS.aloadN X101.here hx rfl (hb hby d29_6) rfl rfl hr) ?_
  show Go p e s below _ _ _ _ T101 (mkF m 7 #[.val (.ref a1), .val (.ref s2)] [(.ref a1)])
  exact Go.retA X101 hx hlk B101 J101 e101 hret rfl rfl (hb hby d29_7) (by decide) (by decide) (fun vm_ hw_ => ⟨rfl, N101, K101, Gv101, Gc101, Gn101, Wv101⟩)

theorem d38_0 : decode jdk_68_method_64_code 0 = .ok (.aload_n 0, 1) := by decide +kernel
theorem d38_1 : decode jdk_68_method_64_code 1 = .ok (.getfield 15, 3) := by decide +kernel
theorem d38_4 : decode jdk_68_method_64_code 4 = .ok (.areturn, 1) := by decide +kernel
set_option maxRecDepth 65536 in
set_option maxHeartbeats 40000000 in
theorem rm38 (l : Launch) (Z : State) (a0 : Array Value) (hw : ∀ d ∈ tables_1, d.before a0 Z = true) (ws : List Jvm.Cond) (a1 v1 : Addr) (kv : ClassId) (bs : List Int32) (ms : List Addr) (h0 : Heap) (n0 : Nat) (O0 : Old Z n0 h0) (nb : Nat) (hb0 : n0 ≤ nb) (hnb : nb ≤ h0.size) (Ea1 : Exa Z h0 a1 "java/lang/StringBuilder") (Gv : Fld Z h0 a1 "java/lang/AbstractStringBuilder" "value" "[B" (.ref v1)) (Gc : Fld Z h0 a1 "java/lang/AbstractStringBuilder" "coder" "B" (.int 0)) (Gn : Fld Z h0 a1 "java/lang/AbstractStringBuilder" "count" "I" (.int (Int32.ofNat bs.length))) (W1 : Arv Z h0 v1 kv .byte 16 (bs.map Value.int) (.int 0)) :
    Con l Z ms (⟨"java/lang/AbstractStringBuilder", "getValue", "()[B"⟩ : MethodName) jdk_68_method_64_code 1 (some (.array .byte)) ws ({ frames := 0, cells := 0, slots := 0, locals := 0 } : Room) #[(.ref a1)] h0 (fun v vm h L => v = some (.ref v1) ∧ Fr nb L ∧ h = h0) := by
  refine Con.mk (plainFor_of_name pn4) ?_
  intro p e s m below meth c s₁ Cc X0 e0 eb J0 B0 M0
  obtain ⟨hx, hZ, hown, hby, hml, hnm, hret, hlk⟩ := id Cc
  have N0 := Fr.nil h0.size
  have K0 := Keep.refl h0 []
  show Go p e s below _ _ _ _ s₁ (mkF m 0 #[.val (.ref a1)] [])
  refine Go.of (fun _ hr => XS.aloadN X0.here hx rfl (hb hby d38_0) rfl rfl hr) ?_
  show Go p e s below _ _ _ _ s₁ (mkF m 1 #[.val (.ref a1)] [(.ref a1)])
  obtain ⟨T101, X101, e101, st101⟩ := getF X0 hx hZ hown (host := "") (Or.inl (hw _ (List.mem_of_getElem? (i := 146) rfl))) Via.refl e0 Gv (g := (mkF m 1 #[.val (.ref a1)] [(.ref a1)])) rfl rfl (hb hby d38_1)
  refine Go.of (fun _ hr => st101 _ hr) ?_
  show Go p e s below _ _ _ _ T101 (mkF m 4 #[.val (.ref a1)] [(.ref v1)])
  exact Go.retA X101 hx hlk B0 J0 e101 hret rfl rfl (hb hby d38_4) (by decide) (by decide) (fun vm_ hw_ => ⟨rfl, (fun y hy => Nat.le_trans hnb (N0 y hy)), rfl⟩)

theorem d40_0 : decode jdk_68_method_6_code 0 = .ok (.aload_n 0, 1) := by decide +kernel
theorem d40_1 : decode jdk_68_method_6_code 1 = .ok (.getfield 79, 3) := by decide +kernel
theorem d40_4 : decode jdk_68_method_6_code 4 = .ok (.ireturn, 1) := by decide +kernel
set_option maxRecDepth 65536 in
set_option maxHeartbeats 40000000 in
theorem rm40 (l : Launch) (Z : State) (a0 : Array Value) (hw : ∀ d ∈ tables_1, d.before a0 Z = true) (ws : List Jvm.Cond) (a1 v1 : Addr) (kv : ClassId) (bs : List Int32) (ms : List Addr) (h0 : Heap) (n0 : Nat) (O0 : Old Z n0 h0) (nb : Nat) (hb0 : n0 ≤ nb) (hnb : nb ≤ h0.size) (Ea1 : Exa Z h0 a1 "java/lang/StringBuilder") (Gv : Fld Z h0 a1 "java/lang/AbstractStringBuilder" "value" "[B" (.ref v1)) (Gc : Fld Z h0 a1 "java/lang/AbstractStringBuilder" "coder" "B" (.int 0)) (Gn : Fld Z h0 a1 "java/lang/AbstractStringBuilder" "count" "I" (.int (Int32.ofNat bs.length))) (W1 : Arv Z h0 v1 kv .byte 16 (bs.map Value.int) (.int 0)) :
    Con l Z ms (⟨"java/lang/AbstractStringBuilder", "length", "()I"⟩ : MethodName) jdk_68_method_6_code 1 (some .int) ws ({ frames := 0, cells := 0, slots := 0, locals := 0 } : Room) #[(.ref a1)] h0 (fun v vm h L => v = some (.int (Int32.ofNat bs.length)) ∧ Fr nb L ∧ h = h0) := by
  refine Con.mk (plainFor_of_name pn4) ?_
  intro p e s m below meth c s₁ Cc X0 e0 eb J0 B0 M0
  obtain ⟨hx, hZ, hown, hby, hml, hnm, hret, hlk⟩ := id Cc
  have N0 := Fr.nil h0.size
  have K0 := Keep.refl h0 []
  show Go p e s below _ _ _ _ s₁ (mkF m 0 #[.val (.ref a1)] [])
  refine Go.of (fun _ hr => XS.aloadN X0.here hx rfl (hb hby d40_0) rfl rfl hr) ?_
  show Go p e s below _ _ _ _ s₁ (mkF m 1 #[.val (.ref a1)] [(.ref a1)])
  obtain ⟨T101, X101, e101, st101⟩ := getF X0 hx hZ hown (host := "") (Or.inl (hw _ (List.mem_of_getElem? (i := 161) rfl))) Via.refl e0 Gn (g := (mkF m 1 #[.val (.ref a1)] [(.ref a1)])) rfl rfl (hb hby d40_1)
  refine Go.of (fun _ hr => st101 _ hr) ?_
  show Go p e s below _ _ _ _ T101 (mkF m 4 #[.val (.ref a1)] [(.int (Int32.ofNat bs.length))])
  exact Go.retI X101 hx hlk B0 J0 e101 hret (hb hby d40_4) (by decide) (by decide) (fun vm_ hw_ => ⟨rfl, (fun y hy => Nat.le_trans hnb (N0 y hy)), rfl⟩)

theorem d39_0 : decode jdk_67_method_93_code 0 = .ok (.aload_n 0, 1) := by decide +kernel
theorem d39_1 : decode jdk_67_method_93_code 1 = .ok (.invokespecial 343, 3) := by decide +kernel
theorem d39_4 : decode jdk_67_method_93_code 4 = .ok (.ireturn, 1) := by decide +kernel
set_option maxRecDepth 65536 in
set_option maxHeartbeats 40000000 in
theorem rm39 (l : Launch) (Z : State) (a0 : Array Value) (hw : ∀ d ∈ tables_1, d.before a0 Z = true) (ws : List Jvm.Cond) (a1 v1 : Addr) (kv : ClassId) (bs : List Int32) (ms : List Addr) (h0 : Heap) (n0 : Nat) (O0 : Old Z n0 h0) (nb : Nat) (hb0 : n0 ≤ nb) (hnb : nb ≤ h0.size) (Ea1 : Exa Z h0 a1 "java/lang/StringBuilder") (Gv : Fld Z h0 a1 "java/lang/AbstractStringBuilder" "value" "[B" (.ref v1)) (Gc : Fld Z h0 a1 "java/lang/AbstractStringBuilder" "coder" "B" (.int 0)) (Gn : Fld Z h0 a1 "java/lang/AbstractStringBuilder" "count" "I" (.int (Int32.ofNat bs.length))) (W1 : Arv Z h0 v1 kv .byte 16 (bs.map Value.int) (.int 0)) :
    Con l Z ms (⟨"java/lang/StringBuilder", "length", "()I"⟩ : MethodName) jdk_67_method_93_code 1 (some .int) ws ({ frames := 1, cells := 0, slots := 0, locals := 12 } : Room) #[(.ref a1)] h0 (fun v vm h L => v = some (.int (Int32.ofNat bs.length)) ∧ Fr nb L ∧ h = h0) := by
  refine Con.mk (plainFor_of_name pn5) ?_
  intro p e s m below meth c s₁ Cc X0 e0 eb J0 B0 M0
  obtain ⟨hx, hZ, hown, hby, hml, hnm, hret, hlk⟩ := id Cc
  have N0 := Fr.nil h0.size
  have K0 := Keep.refl h0 []
  show Go p e s below _ _ _ _ s₁ (mkF m 0 #[.val (.ref a1)] [])
  refine Go.of (fun _ hr => XS.aloadN X0.here hx rfl (hb hby d39_0) rfl rfl hr) ?_
  show Go p e s below _ _ _ _ s₁ (mkF m 1 #[.val (.ref a1)] [(.ref a1)])
  obtain ⟨_, b101, T101, h101, L101, e101, Cc101, X101, B101, J101, g101, hQ101, st101⟩ := own_callP Cc B0 J0 X0 (y := (⟨"java/lang/AbstractStringBuilder", "length", "()I"⟩ : MethodName)) (hw _ (List.mem_of_getElem? (i := 212) rfl)) (own_sm (hw _ (List.mem_of_getElem? (i := 208) rfl)) (own_nf (hw _ (List.mem_of_getElem? (i := 166) rfl)) rfl) (by decide)) (hw _ (List.mem_of_getElem? (i := 208) rfl)) (hw _ (List.mem_of_getElem? (i := 157) rfl)) (by decide) (hw _ (List.mem_of_getElem? (i := 142) rfl)) (hw _ (List.mem_of_getElem? (i := 213) rfl)) Ea1 (rm40 l Z a0 hw [] a1 v1 _ bs _ h0 n0 O0 h0.size (own_ole O0) K0.1 Ea1 Gv Gc Gn W1) e0 (g := (mkF m 1 #[.val (.ref a1)] [(.ref a1)])) rfl (by rw [hml]; rfl) (argsL := []) (rest := []) (lenOf pd12 rfl) rfl (W := 0) (by show 2 * 0 + _ ≤ _; exact Nat.le_of_eq rfl) (hb hby d39_1) (by decide) (by decide) (by decide) (by decide)
  obtain ⟨rfl, Nq101, hh101⟩ := hQ101
  have N101 := Fr.app N0 Nq101
  obtain ⟨hx, hZ, hown, hby, hml, hnm, hret, hlk⟩ := id Cc101
  rw [hh101] at e101 B101 J101
  refine Go.of st101 ?_
  show Go p e s below _ _ _ _ T101 (mkF m 4 #[.val (.ref a1)] [(.int (Int32.ofNat bs.length))])
  exact Go.retI X101 hx hlk B101 J101 e101 hret (hb hby d39_4) (by decide) (by decide) (fun vm_ hw_ => ⟨rfl, (fun y hy => Nat.le_trans hnb (N101 y hy)), rfl⟩)

theorem d41_0 : decode jdk_68_method_68_code 0 = .ok (.getstatic 18, 3) := by decide +kernel
theorem d41_3 : decode jdk_68_method_68_code 3 = .ok (.ifCond .eq 14, 3) := by decide +kernel
theorem d41_6 : decode jdk_68_method_68_code 6 = .ok (.aload_n 0, 1) := by decide +kernel
theorem d41_7 : decode jdk_68_method_68_code 7 = .ok (.getfield 22, 3) := by decide +kernel
theorem d41_10 : decode jdk_68_method_68_code 10 = .ok (.ifCond .ne 7, 3) := by decide +kernel
theorem d41_13 : decode jdk_68_method_68_code 13 = .ok (.iconst 1, 1) := by decide +kernel
theorem d41_14 : decode jdk_68_method_68_code 14 = .ok (.goto 4, 3) := by decide +kernel
theorem d41_18 : decode jdk_68_method_68_code 18 = .ok (.ireturn, 1) := by decide +kernel
set_option maxRecDepth 65536 in
set_option maxHeartbeats 40000000 in
theorem rm41 (l : Launch) (Z : State) (a0 : Array Value) (hw : ∀ d ∈ tables_1, d.before a0 Z = true) (ws : List Jvm.Cond) (a1 v1 : Addr) (kv : ClassId) (bs : List Int32) (zc : Int32) (ms : List Addr) (h0 : Heap) (n0 : Nat) (O0 : Old Z n0 h0) (nb : Nat) (hb0 : n0 ≤ nb) (hnb : nb ≤ h0.size) (Ea1 : Exa Z h0 a1 "java/lang/StringBuilder") (Gv : Fld Z h0 a1 "java/lang/AbstractStringBuilder" "value" "[B" (.ref v1)) (Gc : Fld Z h0 a1 "java/lang/AbstractStringBuilder" "coder" "B" (.int 0)) (Gn : Fld Z h0 a1 "java/lang/AbstractStringBuilder" "count" "I" (.int (Int32.ofNat bs.length))) (W1 : Arv Z h0 v1 kv .byte 16 (bs.map Value.int) (.int 0)) (S_C : Sta Z Z.heap "java/lang/String" "COMPACT_STRINGS" "Z" (.int zc)) (hzc : ¬ zc = 0) :
    Con l Z ms (⟨"java/lang/AbstractStringBuilder", "isLatin1", "()Z"⟩ : MethodName) jdk_68_method_68_code 1 (some .boolean) ws ({ frames := 0, cells := 0, slots := 0, locals := 0 } : Room) #[(.ref a1)] h0 (fun v vm h L => v = some (.int 1) ∧ Fr nb L ∧ h = h0) := by
  refine Con.mk (plainFor_of_name pn4) ?_
  intro p e s m below meth c s₁ Cc X0 e0 eb J0 B0 M0
  obtain ⟨hx, hZ, hown, hby, hml, hnm, hret, hlk⟩ := id Cc
  have N0 := Fr.nil h0.size
  have K0 := Keep.refl h0 []
  show Go p e s below _ _ _ _ s₁ (mkF m 0 #[.val (.ref a1)] [])
  obtain ⟨T101, X101, e101, st101⟩ := getS2 X0 hx hZ hown (host := "") (Or.inl (hw _ (List.mem_of_getElem? (i := 145) rfl))) Via.refl e0 (S_C.ext O0.2) (g := (mkF m 0 #[.val (.ref a1)] [])) rfl (hb hby d41_0)
  refine Go.of (fun _ hr => st101 _ hr) ?_
  show Go p e s below _ _ _ _ T101 (mkF m 3 #[.val (.ref a1)] [(.int zc)])
  refine Go.of (fun _ hr => XS.ifNo X101.here hx rfl (hb hby d41_3) rfl ((if0 _ _).trans (feq hzc).1) hr) ?_
  show Go p e s below _ _ _ _ T101 (mkF m 6 #[.val (.ref a1)] [])
  refine Go.of (fun _ hr => XS.aloadN X101.here hx rfl (hb hby d41_6) rfl rfl hr) ?_
  show Go p e s below _ _ _ _ T101 (mkF m 7 #[.val (.ref a1)] [(.ref a1)])
  obtain ⟨T102, X102, e102, st102⟩ := getF X101 hx hZ hown (host := "") (Or.inl (hw _ (List.mem_of_getElem? (i := 148) rfl))) Via.refl e101 Gc (g := (mkF m 7 #[.val (.ref a1)] [(.ref a1)])) rfl rfl (hb hby d41_7)
  refine Go.of (fun _ hr => st102 _ hr) ?_
  show Go p e s below _ _ _ _ T102 (mkF m 10 #[.val (.ref a1)] [(.int (0 : Int32))])
  refine Go.of (fun _ hr => XS.ifNo X102.here hx rfl (hb hby d41_10) rfl ((if0 _ _).trans (teq (by decide : ((0 : Int32) = (0 : Int32)))).2) hr) ?_
  show Go p e s below _ _ _ _ T102 (mkF m 13 #[.val (.ref a1)] [])
  refine Go.of (fun _ hr => XS.iconst X102.here hx rfl (hb hby d41_13) hr) ?_
  show Go p e s below _ _ _ _ T102 (mkF m 14 #[.val (.ref a1)] [(.int (1 : Int32))])
  refine Go.of (fun _ hr => XS.goto X102.here hx rfl (pc0 := 14) (pc' := 18) rfl (hb hby d41_14) (by decide) (by decide) hr) ?_
  show Go p e s below _ _ _ _ T102 (mkF m 18 #[.val (.ref a1)] [(.int (1 : Int32))])
  exact Go.retN X102 hx hlk B0 J0 e102 (t := .boolean) (z' := (1 : Int32)) hret (by simp) (hb hby d41_18) rfl (by decide) (by decide) (fun vm_ hw_ => ⟨rfl, (fun y hy => Nat.le_trans hnb (N0 y hy)), rfl⟩)

theorem pn6 : plainName "java/util/Arrays" = true := by first | (simp [plainName, overriddenIn]; done) | decide +kernel
theorem d44_0 : decode jdk_65_method_131_code 0 = .ok (.iload_n 1, 1) := by decide +kernel
theorem d44_1 : decode jdk_65_method_131_code 1 = .ok (.iload_n 0, 1) := by decide +kernel
theorem d44_2 : decode jdk_65_method_131_code 2 = .ok (.if_icmp .ge 35, 3) := by decide +kernel
theorem d44_37 : decode jdk_65_method_131_code 37 = .ok (.return_, 1) := by decide +kernel
set_option maxRecDepth 65536 in
set_option maxHeartbeats 40000000 in
theorem rm44 (l : Launch) (Z : State) (a0 : Array Value) (hw : ∀ d ∈ tables_1, d.before a0 Z = true) (ws : List Jvm.Cond) (j : Nat) (ms : List Addr) (h0 : Heap) (n0 : Nat) (O0 : Old Z n0 h0) (nb : Nat) (hb0 : n0 ≤ nb) (hnb : nb ≤ h0.size) (hj : j ≤ 1000) :
    Con l Z ms (⟨"java/util/Arrays", "checkLength", "(II)V"⟩ : MethodName) jdk_65_method_131_code 2 none ws ({ frames := 0, cells := 0, slots := 0, locals := 0 } : Room) #[(.int (0 : Int32)), (.int (Int32.ofNat j))] h0 (fun v vm h L => v = none ∧ Fr nb L ∧ h = h0) := by
  refine Con.mk (plainFor_of_name pn6) ?_
  intro p e s m below meth c s₁ Cc X0 e0 eb J0 B0 M0
  obtain ⟨hx, hZ, hown, hby, hml, hnm, hret, hlk⟩ := id Cc
  have N0 := Fr.nil h0.size
  have K0 := Keep.refl h0 []
  show Go p e s below _ _ _ _ s₁ (mkF m 0 #[.val (.int (0 : Int32)), .val (.int (Int32.ofNat j))] [])
  refine Go.of (fun _ hr => XS.iloadN X0.here hx rfl (hb hby d44_0) rfl  hr) ?_
  show Go p e s below _ _ _ _ s₁ (mkF m 1 #[.val (.int (0 : Int32)), .val (.int (Int32.ofNat j))] [(.int (Int32.ofNat j))])
  refine Go.of (fun _ hr => XS.iloadN X0.here hx rfl (hb hby d44_1) rfl  hr) ?_
  show Go p e s below _ _ _ _ s₁ (mkF m 2 #[.val (.int (0 : Int32)), .val (.int (Int32.ofNat j))] [(.int (0 : Int32)), (.int (Int32.ofNat j))])
  refine Go.of (fun _ hr => XS.icmpYes X0.here hx rfl (pc0 := 2) (pc' := 37) rfl (hb hby d44_2) rfl (flt (oi_nn (by omega))).2.1 (by decide) (by decide) hr) ?_
  show Go p e s below _ _ _ _ s₁ (mkF m 37 #[.val (.int (0 : Int32)), .val (.int (Int32.ofNat j))] [])
  exact Go.retV X0 hx hlk B0 J0 e0 hret (hb hby d44_37) (by decide) (by decide) (fun vm_ hw_ => ⟨rfl, (fun y hy => Nat.le_trans hnb (N0 y hy)), rfl⟩)

theorem d45_0 : decode jdk_29_method_69_code 0 = .ok (.iload_n 0, 1) := by decide +kernel
theorem d45_1 : decode jdk_29_method_69_code 1 = .ok (.iload_n 1, 1) := by decide +kernel
theorem d45_2 : decode jdk_29_method_69_code 2 = .ok (.if_icmp .gt 7, 3) := by decide +kernel
theorem d45_9 : decode jdk_29_method_69_code 9 = .ok (.iload_n 1, 1) := by decide +kernel
theorem d45_10 : decode jdk_29_method_69_code 10 = .ok (.ireturn, 1) := by decide +kernel
set_option maxRecDepth 65536 in
set_option maxHeartbeats 40000000 in
theorem rm45 (l : Launch) (Z : State) (a0 : Array Value) (hw : ∀ d ∈ tables_1, d.before a0 Z = true) (ws : List Jvm.Cond) (j : Nat) (ms : List Addr) (h0 : Heap) (n0 : Nat) (O0 : Old Z n0 h0) (nb : Nat) (hb0 : n0 ≤ nb) (hnb : nb ≤ h0.size) (hj : j < 16) :
    Con l Z ms (⟨"java/lang/Math", "min", "(II)I"⟩ : MethodName) jdk_29_method_69_code 2 (some .int) ws ({ frames := 0, cells := 0, slots := 0, locals := 0 } : Room) #[(.int (16 : Int32)), (.int (Int32.ofNat j))] h0 (fun v vm h L => v = some (.int (Int32.ofNat j)) ∧ Fr nb L ∧ h = h0) := by
  refine Con.mk (by decide +kernel) ?_
  intro p e s m below meth c s₁ Cc X0 e0 eb J0 B0 M0
  obtain ⟨hx, hZ, hown, hby, hml, hnm, hret, hlk⟩ := id Cc
  have N0 := Fr.nil h0.size
  have K0 := Keep.refl h0 []
  show Go p e s below _ _ _ _ s₁ (mkF m 0 #[.val (.int (16 : Int32)), .val (.int (Int32.ofNat j))] [])
  refine Go.of (fun _ hr => XS.iloadN X0.here hx rfl (hb hby d45_0) rfl  hr) ?_
  show Go p e s below _ _ _ _ s₁ (mkF m 1 #[.val (.int (16 : Int32)), .val (.int (Int32.ofNat j))] [(.int (16 : Int32))])
  refine Go.of (fun _ hr => XS.iloadN X0.here hx rfl (hb hby d45_1) rfl  hr) ?_
  show Go p e s below _ _ _ _ s₁ (mkF m 2 #[.val (.int (16 : Int32)), .val (.int (Int32.ofNat j))] [(.int (Int32.ofNat j)), (.int (16 : Int32))])
  refine Go.of (fun _ hr => XS.icmpYes X0.here hx rfl (pc0 := 2) (pc' := 9) rfl (hb hby d45_2) rfl (tlt (own_lt16 hj)).2.2.1 (by decide) (by decide) hr) ?_
  show Go p e s below _ _ _ _ s₁ (mkF m 9 #[.val (.int (16 : Int32)), .val (.int (Int32.ofNat j))] [])
  refine Go.of (fun _ hr => XS.iloadN X0.here hx rfl (hb hby d45_9) rfl  hr) ?_
  show Go p e s below _ _ _ _ s₁ (mkF m 10 #[.val (.int (16 : Int32)), .val (.int (Int32.ofNat j))] [(.int (Int32.ofNat j))])
  exact Go.retI X0 hx hlk B0 J0 e0 hret (hb hby d45_10) (by decide) (by decide) (fun vm_ hw_ => ⟨rfl, (fun y hy => Nat.le_trans hnb (N0 y hy)), rfl⟩)

theorem d43_0 : decode jdk_65_method_133_code 0 = .ok (.iload_n 1, 1) := by decide +kernel
theorem d43_1 : decode jdk_65_method_133_code 1 = .ok (.iload_n 2, 1) := by decide +kernel
theorem d43_2 : decode jdk_65_method_133_code 2 = .ok (.invokestatic 343, 3) := by decide +kernel
theorem d43_5 : decode jdk_65_method_133_code 5 = .ok (.iload_n 2, 1) := by decide +kernel
theorem d43_6 : decode jdk_65_method_133_code 6 = .ok (.iload_n 1, 1) := by decide +kernel
theorem d43_7 : decode jdk_65_method_133_code 7 = .ok (.isub, 1) := by decide +kernel
theorem d43_8 : decode jdk_65_method_133_code 8 = .ok (.istore_n 3, 1) := by decide +kernel
theorem d43_9 : decode jdk_65_method_133_code 9 = .ok (.iload_n 3, 1) := by decide +kernel
theorem d43_10 : decode jdk_65_method_133_code 10 = .ok (.newarray .byte, 2) := by decide +kernel
theorem d43_12 : decode jdk_65_method_133_code 12 = .ok (.astore 4, 2) := by decide +kernel
theorem d43_14 : decode jdk_65_method_133_code 14 = .ok (.aload_n 0, 1) := by decide +kernel
theorem d43_15 : decode jdk_65_method_133_code 15 = .ok (.iload_n 1, 1) := by decide +kernel
theorem d43_16 : decode jdk_65_method_133_code 16 = .ok (.aload 4, 2) := by decide +kernel
theorem d43_18 : decode jdk_65_method_133_code 18 = .ok (.iconst 0, 1) := by decide +kernel
theorem d43_19 : decode jdk_65_method_133_code 19 = .ok (.aload_n 0, 1) := by decide +kernel
theorem d43_20 : decode jdk_65_method_133_code 20 = .ok (.arraylength, 1) := by decide +kernel
theorem d43_21 : decode jdk_65_method_133_code 21 = .ok (.iload_n 1, 1) := by decide +kernel
theorem d43_22 : decode jdk_65_method_133_code 22 = .ok (.isub, 1) := by decide +kernel
theorem d43_23 : decode jdk_65_method_133_code 23 = .ok (.iload_n 3, 1) := by decide +kernel
theorem d43_24 : decode jdk_65_method_133_code 24 = .ok (.invokestatic 304, 3) := by decide +kernel
theorem pd15 : parseMethodDescriptor "(II)I" = some ⟨[.int, .int], some .int⟩ := by decide +kernel
theorem d43_27 : decode jdk_65_method_133_code 27 = .ok (.invokestatic 150, 3) := by decide +kernel
theorem d43_30 : decode jdk_65_method_133_code 30 = .ok (.aload 4, 2) := by decide +kernel
theorem d43_32 : decode jdk_65_method_133_code 32 = .ok (.areturn, 1) := by decide +kernel
set_option maxRecDepth 65536 in
set_option maxHeartbeats 40000000 in
theorem rm43 (l : Launch) (Z : State) (a0 : Array Value) (hw : ∀ d ∈ tables_1, d.before a0 Z = true) (ws : List Jvm.Cond) (v1 : Addr) (kv : ClassId) (bs : List Int32) (ms : List Addr) (h0 : Heap) (n0 : Nat) (O0 : Old Z n0 h0) (nb : Nat) (hb0 : n0 ≤ nb) (hnb : nb ≤ h0.size) (W1 : Arv Z h0 v1 kv .byte 16 (bs.map Value.int) (.int 0)) (hj : bs.length < 16) :
    Con l Z ms (⟨"java/util/Arrays", "copyOfRangeByte", "([BII)[B"⟩ : MethodName) jdk_65_method_133_code 5 (some (.array .byte)) ws ({ frames := 1, cells := 1, slots := 16, locals := 40 } : Room) #[(.ref v1), (.int (0 : Int32)), (.int (Int32.ofNat bs.length))] h0 (fun v vm h L => ∃ r k, v = some (.ref r) ∧ Fr nb L ∧ Ext h0 h ∧ h0.size ≤ r ∧ Arv Z h r k .byte (Int32.ofNat bs.length) (bs.map Value.int) (.int 0)) := by
  refine Con.mk (plainFor_of_name pn6) ?_
  intro p e s m below meth c s₁ Cc X0 e0 eb J0 B0 M0
  obtain ⟨hx, hZ, hown, hby, hml, hnm, hret, hlk⟩ := id Cc
  have N0 := Fr.nil h0.size
  have K0 := Keep.refl h0 []
  show Go p e s below _ _ _ _ s₁ (mkF m 0 #[.val (.ref v1), .val (.int (0 : Int32)), .val (.int (Int32.ofNat bs.length)), .unset, .unset] [])
  refine Go.of (fun _ hr => XS.iloadN X0.here hx rfl (hb hby d43_0) rfl  hr) ?_
  show Go p e s below _ _ _ _ s₁ (mkF m 1 #[.val (.ref v1), .val (.int (0 : Int32)), .val (.int (Int32.ofNat bs.length)), .unset, .unset] [(.int (0 : Int32))])
  refine Go.of (fun _ hr => XS.iloadN X0.here hx rfl (hb hby d43_1) rfl  hr) ?_
  show Go p e s below _ _ _ _ s₁ (mkF m 2 #[.val (.ref v1), .val (.int (0 : Int32)), .val (.int (Int32.ofNat bs.length)), .unset, .unset] [(.int (Int32.ofNat bs.length)), (.int (0 : Int32))])
  obtain ⟨_, b101, T101, h101, L101, e101, Cc101, X101, B101, J101, g101, hQ101, st101⟩ := own_callS Cc B0 J0 X0 (hw _ (List.mem_of_getElem? (i := 226) rfl)) (hw _ (List.mem_of_getElem? (i := 227) rfl)) (hw _ (List.mem_of_getElem? (i := 221) rfl)) (hw _ (List.mem_of_getElem? (i := 228) rfl)) (by decide) (rm44 l Z a0 hw [] bs.length _ h0 n0 O0 h0.size (own_ole O0) K0.1 (by omega)) e0 (g := (mkF m 2 #[.val (.ref v1), .val (.int (0 : Int32)), .val (.int (Int32.ofNat bs.length)), .unset, .unset] [(.int (Int32.ofNat bs.length)), (.int (0 : Int32))])) rfl (by rw [hml]; rfl) (argsL := [(.int (0 : Int32)), (.int (Int32.ofNat bs.length))]) (rest := []) (lenOf pd6 rfl) rfl (W := 0) (by show 2 * 0 + _ ≤ _; exact Nat.le_of_eq rfl) (hb hby d43_2) (by decide) (by decide) (by decide) (by decide)
  obtain ⟨rfl, Nq101, hh101⟩ := hQ101
  have N101 := Fr.app N0 Nq101
  obtain ⟨hx, hZ, hown, hby, hml, hnm, hret, hlk⟩ := id Cc101
  rw [hh101] at e101 B101 J101
  refine Go.of st101 ?_
  show Go p e s below _ _ _ _ T101 (mkF m 5 #[.val (.ref v1), .val (.int (0 : Int32)), .val (.int (Int32.ofNat bs.length)), .unset, .unset] [])
  refine Go.of (fun _ hr => XS.iloadN X101.here hx rfl (hb hby d43_5) rfl  hr) ?_
  show Go p e s below _ _ _ _ T101 (mkF m 6 #[.val (.ref v1), .val (.int (0 : Int32)), .val (.int (Int32.ofNat bs.length)), .unset, .unset] [(.int (Int32.ofNat bs.length))])
  refine Go.of (fun _ hr => XS.iloadN X101.here hx rfl (hb hby d43_6) rfl  hr) ?_
  show Go p e s below _ _ _ _ T101 (mkF m 7 #[.val (.ref v1), .val (.int (0 : Int32)), .val (.int (Int32.ofNat bs.length)), .unset, .unset] [(.int (0 : Int32)), (.int (Int32.ofNat bs.length))])
  refine Go.of (fun _ hr => XS.isub X101.here hx rfl (hb hby d43_7) rfl hr) ?_
  show Go p e s below _ _ _ _ T101 (mkF m 8 #[.val (.ref v1), .val (.int (0 : Int32)), .val (.int (Int32.ofNat bs.length)), .unset, .unset] [(.int ((Int32.ofNat bs.length) - (0 : Int32)))])
  rw [Int32.sub_zero]
  show Go p e s below _ _ _ _ T101 (mkF m 8 #[.val (.ref v1), .val (.int (0 : Int32)), .val (.int (Int32.ofNat bs.length)), .unset, .unset] [(.int (Int32.ofNat bs.length))])
  refine Go.of (fun _ hr => XS.istoreN X101.here hx rfl (hb hby d43_8) rfl (l' := #[.val (.ref v1), .val (.int (0 : Int32)), .val (.int (Int32.ofNat bs.length)), .val (.int (Int32.ofNat bs.length)), .unset]) rfl hr) ?_
  show Go p e s below _ _ _ _ T101 (mkF m 9 #[.val (.ref v1), .val (.int (0 : Int32)), .val (.int (Int32.ofNat bs.length)), .val (.int (Int32.ofNat bs.length)), .unset] [])
  refine Go.of (fun _ hr => XS.iloadN X101.here hx rfl (hb hby d43_9) rfl  hr) ?_
  show Go p e s below _ _ _ _ T101 (mkF m 10 #[.val (.ref v1), .val (.int (0 : Int32)), .val (.int (Int32.ofNat bs.length)), .val (.int (Int32.ofNat bs.length)), .unset] [(.int (Int32.ofNat bs.length))])
  obtain ⟨T102, h102, k102, X102, e102, E102, A102, st102⟩ := newP X101 hx hZ (hw _ (List.mem_of_getElem? (i := 35) rfl)) e101 (g := (mkF m 10 #[.val (.ref v1), .val (.int (0 : Int32)), .val (.int (Int32.ofNat bs.length)), .val (.int (Int32.ofNat bs.length)), .unset] [(.int (Int32.ofNat bs.length))])) rfl (hb hby d43_10) rfl (oi_nn (by omega)) (cap := 16) (by rw [oi_nat (by omega)]; omega) (by decide) (by decide) (by decide)
  obtain ⟨o102, g102⟩ : ∃ z, z = h0.size := ⟨_, rfl⟩
  rw [← g102] at A102 st102
  have ne_v1_o102 : v1 ≠ o102 := Nat.ne_of_lt (Nat.lt_of_lt_of_le W1.lt (Nat.le_of_eq g102.symm))
  have V102 := Arv.new A102 (oi_nn (by omega))
  have lt102 : o102 < h102.size := A102.lt
  have J102 := J101.add E102 g102 lt102
  have B102 := B101.mono E102.1
  have O102 := O0.ext E102
  have sz102 : h0.size ≤ o102 := Nat.le_trans K0.1 (Nat.le_of_eq g102.symm)
  have fr102 : h0.size ≤ o102 := sz102
  have K102 := K0.ext E102
  refine Go.of (fun _ hr => st102 _ hr) ?_
  show Go p e s below _ _ _ _ T102 (mkF m 12 #[.val (.ref v1), .val (.int (0 : Int32)), .val (.int (Int32.ofNat bs.length)), .val (.int (Int32.ofNat bs.length)), .unset] [(.ref o102)])
  refine Go.of (fun _ hr => XS.astore X102.here hx rfl (hb hby d43_12) rfl rfl (l' := #[.val (.ref v1), .val (.int (0 : Int32)), .val (.int (Int32.ofNat bs.length)), .val (.int (Int32.ofNat bs.length)), .val (.ref o102)]) rfl hr) ?_
  show Go p e s below _ _ _ _ T102 (mkF m 14 #[.val (.ref v1), .val (.int (0 : Int32)), .val (.int (Int32.ofNat bs.length)), .val (.int (Int32.ofNat bs.length)), .val (.ref o102)] [])
  refine Go.of (fun _ hr => XS.aloadN X102.here hx rfl (hb hby d43_14) rfl rfl hr) ?_
  show Go p e s below _ _ _ _ T102 (mkF m 15 #[.val (.ref v1), .val (.int (0 : Int32)), .val (.int (Int32.ofNat bs.length)), .val (.int (Int32.ofNat bs.length)), .val (.ref o102)] [(.ref v1)])
  refine Go.of (fun _ hr => XS.iloadN X102.here hx rfl (hb hby d43_15) rfl  hr) ?_
  show Go p e s below _ _ _ _ T102 (mkF m 16 #[.val (.ref v1), .val (.int (0 : Int32)), .val (.int (Int32.ofNat bs.length)), .val (.int (Int32.ofNat bs.length)), .val (.ref o102)] [(.int (0 : Int32)), (.ref v1)])
  refine Go.of (fun _ hr => XS.aload X102.here hx rfl (hb hby d43_16) rfl rfl hr) ?_
  show Go p e s below _ _ _ _ T102 (mkF m 18 #[.val (.ref v1), .val (.int (0 : Int32)), .val (.int (Int32.ofNat bs.length)), .val (.int (Int32.ofNat bs.length)), .val (.ref o102)] [(.ref o102), (.int (0 : Int32)), (.ref v1)])
  refine Go.of (fun _ hr => XS.iconst X102.here hx rfl (hb hby d43_18) hr) ?_
  show Go p e s below _ _ _ _ T102 (mkF m 19 #[.val (.ref v1), .val (.int (0 : Int32)), .val (.int (Int32.ofNat bs.length)), .val (.int (Int32.ofNat bs.length)), .val (.ref o102)] [(.int (0 : Int32)), (.ref o102), (.int (0 : Int32)), (.ref v1)])
  refine Go.of (fun _ hr => XS.aloadN X102.here hx rfl (hb hby d43_19) rfl rfl hr) ?_
  show Go p e s below _ _ _ _ T102 (mkF m 20 #[.val (.ref v1), .val (.int (0 : Int32)), .val (.int (Int32.ofNat bs.length)), .val (.int (Int32.ofNat bs.length)), .val (.ref o102)] [(.ref v1), (.int (0 : Int32)), (.ref o102), (.int (0 : Int32)), (.ref v1)])
  have f104 := (W1.ext E102)
  obtain ⟨cl103, Ar103, q103, S103, N103_, H103, G103⟩ := id f104
  refine Go.of (fun _ hr => X102.arraylength hx (by rw [e102]; exact Ar103.1) (State.isArrayOf_alike hZ.alike Ar103.2.1) (g := (mkF m 20 #[.val (.ref v1), .val (.int (0 : Int32)), .val (.int (Int32.ofNat bs.length)), .val (.int (Int32.ofNat bs.length)), .val (.ref o102)] [(.ref v1), (.int (0 : Int32)), (.ref o102), (.int (0 : Int32)), (.ref v1)])) rfl rfl (hb hby d43_20) _ hr) ?_
  rw [len_of S103 N103_]
  show Go p e s below _ _ _ _ T102 (mkF m 21 #[.val (.ref v1), .val (.int (0 : Int32)), .val (.int (Int32.ofNat bs.length)), .val (.int (Int32.ofNat bs.length)), .val (.ref o102)] [(.int (16 : Int32)), (.int (0 : Int32)), (.ref o102), (.int (0 : Int32)), (.ref v1)])
  refine Go.of (fun _ hr => XS.iloadN X102.here hx rfl (hb hby d43_21) rfl  hr) ?_
  show Go p e s below _ _ _ _ T102 (mkF m 22 #[.val (.ref v1), .val (.int (0 : Int32)), .val (.int (Int32.ofNat bs.length)), .val (.int (Int32.ofNat bs.length)), .val (.ref o102)] [(.int (0 : Int32)), (.int (16 : Int32)), (.int (0 : Int32)), (.ref o102), (.int (0 : Int32)), (.ref v1)])
  refine Go.of (fun _ hr => XS.isub X102.here hx rfl (hb hby d43_22) rfl hr) ?_
  show Go p e s below _ _ _ _ T102 (mkF m 23 #[.val (.ref v1), .val (.int (0 : Int32)), .val (.int (Int32.ofNat bs.length)), .val (.int (Int32.ofNat bs.length)), .val (.ref o102)] [(.int (16 : Int32)), (.int (0 : Int32)), (.ref o102), (.int (0 : Int32)), (.ref v1)])
  refine Go.of (fun _ hr => XS.iloadN X102.here hx rfl (hb hby d43_23) rfl  hr) ?_
  show Go p e s below _ _ _ _ T102 (mkF m 24 #[.val (.ref v1), .val (.int (0 : Int32)), .val (.int (Int32.ofNat bs.length)), .val (.int (Int32.ofNat bs.length)), .val (.ref o102)] [(.int (Int32.ofNat bs.length)), (.int (16 : Int32)), (.int (0 : Int32)), (.ref o102), (.int (0 : Int32)), (.ref v1)])
  obtain ⟨_, b105, T105, h105, L105, e105, Cc105, X105, B105, J105, g105, hQ105, st105⟩ := own_callS Cc101 B102 J102 X102 (hw _ (List.mem_of_getElem? (i := 229) rfl)) (hw _ (List.mem_of_getElem? (i := 230) rfl)) (hw _ (List.mem_of_getElem? (i := 231) rfl)) (hw _ (List.mem_of_getElem? (i := 232) rfl)) (by decide) (rm45 l Z a0 hw [] bs.length _ h102 n0 O102 h0.size (own_ole O0) K102.1 hj) e102 (g := (mkF m 24 #[.val (.ref v1), .val (.int (0 : Int32)), .val (.int (Int32.ofNat bs.length)), .val (.int (Int32.ofNat bs.length)), .val (.ref o102)] [(.int (Int32.ofNat bs.length)), (.int (16 : Int32)), (.int (0 : Int32)), (.ref o102), (.int (0 : Int32)), (.ref v1)])) rfl (by rw [hml]; rfl) (argsL := [(.int (16 : Int32)), (.int (Int32.ofNat bs.length))]) (rest := [(.int (0 : Int32)), (.ref o102), (.int (0 : Int32)), (.ref v1)]) (lenOf pd15 rfl) rfl (W := 4) (by show 2 * 0 + _ ≤ _; exact Nat.le_of_eq rfl) (hb hby d43_24) (by decide) (by decide) (by decide) (by decide)
  obtain ⟨rfl, Nq105, hh105⟩ := hQ105
  have N105 := Fr.app N101 Nq105
  obtain ⟨hx, hZ, hown, hby, hml, hnm, hret, hlk⟩ := id Cc105
  rw [hh105] at e105 B105 J105
  refine Go.of st105 ?_
  show Go p e s below _ _ _ _ T105 (mkF m 27 #[.val (.ref v1), .val (.int (0 : Int32)), .val (.int (Int32.ofNat bs.length)), .val (.int (Int32.ofNat bs.length)), .val (.ref o102)] [(.int (Int32.ofNat bs.length)), (.int (0 : Int32)), (.ref o102), (.int (0 : Int32)), (.ref v1)])
  obtain ⟨T106, h106, L106, X106, e106, N106, Kq106, V106, st106⟩ := cpA X105 hx hZ hown (hw _ (List.mem_of_getElem? (i := 233) rfl)) (hw _ (List.mem_of_getElem? (i := 187) rfl)) (hw _ (List.mem_of_getElem? (i := 185) rfl)) (hw _ (List.mem_of_getElem? (i := 186) rfl)) e105 f104 (V102.pad (pad_rep _ _ bs.length)) (us := bs.map Value.int) (Or.inl ⟨rfl, rfl⟩) (by decide) (by decide) (oi_nn (by omega)) (cp4 (by omega) (by show _ ≤ 16; omega)) (cp4 (by omega) (by rw [oi_nat (by omega)]; exact Nat.le_refl _)) (cpu bs (by omega)) (cpl [] bs (by decide) (by omega)) N105 fr102 (g := (mkF m 27 #[.val (.ref v1), .val (.int (0 : Int32)), .val (.int (Int32.ofNat bs.length)), .val (.int (Int32.ofNat bs.length)), .val (.ref o102)] [(.int (Int32.ofNat bs.length)), (.int (0 : Int32)), (.ref o102), (.int (0 : Int32)), (.ref v1)])) rfl (by rw [hml]; rfl) rfl (hb hby d43_27) (by decide) (W := 0) (by show 2 * 0 + _ ≤ _; exact Nat.le_of_eq rfl) (by decide)
  have K106 := K102.trans Kq106 (allS (Or.inr sz102) all0)
  have O106 := O102.keep Kq106 (allS (Nat.le_trans (own_ole O0) fr102) all0)
  have B106 := B105.mono Kq106.1
  have J106 := Hd.keep J105 Kq106 (allS (List.mem_cons_self ..) all0)
  have Vc106 : Arv Z h106 o102 k102 .byte (Int32.ofNat bs.length) (bs.map Value.int) (.int (0 : Int32)) := by have q := V106; exact cp_res [] bs (by decide) (by omega) ▸ q
  refine Go.of (fun _ hr => st106 _ hr) ?_
  show Go p e s below _ _ _ _ T106 (mkF m 30 #[.val (.ref v1), .val (.int (0 : Int32)), .val (.int (Int32.ofNat bs.length)), .val (.int (Int32.ofNat bs.length)), .val (.ref o102)] [])
  refine Go.of (fun _ hr => XS.aload X106.here hx rfl (hb hby d43_30) rfl rfl hr) ?_
  show Go p e s below _ _ _ _ T106 (mkF m 32 #[.val (.ref v1), .val (.int (0 : Int32)), .val (.int (Int32.ofNat bs.length)), .val (.int (Int32.ofNat bs.length)), .val (.ref o102)] [(.ref o102)])
  exact Go.retA X106 hx hlk B106 (J106.sub fun x hx => (List.mem_cons_of_mem _ hx)) e106 hret rfl rfl (hb hby d43_32) (by decide) (by decide) (fun vm_ hw_ => ⟨_, _, rfl, (fun y hy => Nat.le_trans hnb (N106 y hy)), keep_ext K106, sz102, Vc106⟩)

theorem d42_0 : decode jdk_65_method_132_code 0 = .ok (.iload_n 1, 1) := by decide +kernel
theorem d42_1 : decode jdk_65_method_132_code 1 = .ok (.ifCond .ne 9, 3) := by decide +kernel
theorem d42_4 : decode jdk_65_method_132_code 4 = .ok (.iload_n 2, 1) := by decide +kernel
theorem d42_5 : decode jdk_65_method_132_code 5 = .ok (.aload_n 0, 1) := by decide +kernel
theorem d42_6 : decode jdk_65_method_132_code 6 = .ok (.arraylength, 1) := by decide +kernel
theorem d42_7 : decode jdk_65_method_132_code 7 = .ok (.if_icmp .eq 10, 3) := by decide +kernel
theorem d42_10 : decode jdk_65_method_132_code 10 = .ok (.aload_n 0, 1) := by decide +kernel
theorem d42_11 : decode jdk_65_method_132_code 11 = .ok (.iload_n 1, 1) := by decide +kernel
theorem d42_12 : decode jdk_65_method_132_code 12 = .ok (.iload_n 2, 1) := by decide +kernel
theorem d42_13 : decode jdk_65_method_132_code 13 = .ok (.invokestatic 339, 3) := by decide +kernel
theorem pd16 : parseMethodDescriptor "([BII)[B" = some ⟨[(.array .byte), .int, .int], some (.array .byte)⟩ := by decide +kernel
theorem d42_16 : decode jdk_65_method_132_code 16 = .ok (.areturn, 1) := by decide +kernel
set_option maxRecDepth 65536 in
set_option maxHeartbeats 40000000 in
theorem rm42 (l : Launch) (Z : State) (a0 : Array Value) (hw : ∀ d ∈ tables_1, d.before a0 Z = true) (ws : List Jvm.Cond) (v1 : Addr) (kv : ClassId) (bs : List Int32) (ms : List Addr) (h0 : Heap) (n0 : Nat) (O0 : Old Z n0 h0) (nb : Nat) (hb0 : n0 ≤ nb) (hnb : nb ≤ h0.size) (W1 : Arv Z h0 v1 kv .byte 16 (bs.map Value.int) (.int 0)) (hj : bs.length < 16) :
    Con l Z ms (⟨"java/util/Arrays", "copyOfRange", "([BII)[B"⟩ : MethodName) jdk_65_method_132_code 3 (some (.array .byte)) ws ({ frames := 2, cells := 1, slots := 16, locals := 56 } : Room) #[(.ref v1), (.int (0 : Int32)), (.int (Int32.ofNat bs.length))] h0 (fun v vm h L => ∃ r k, v = some (.ref r) ∧ Fr nb L ∧ Ext h0 h ∧ h0.size ≤ r ∧ Arv Z h r k .byte (Int32.ofNat bs.length) (bs.map Value.int) (.int 0)) := by
  refine Con.mk (plainFor_of_name pn6) ?_
  intro p e s m below meth c s₁ Cc X0 e0 eb J0 B0 M0
  obtain ⟨hx, hZ, hown, hby, hml, hnm, hret, hlk⟩ := id Cc
  have N0 := Fr.nil h0.size
  have K0 := Keep.refl h0 []
  show Go p e s below _ _ _ _ s₁ (mkF m 0 #[.val (.ref v1), .val (.int (0 : Int32)), .val (.int (Int32.ofNat bs.length))] [])
  refine Go.of (fun _ hr => XS.iloadN X0.here hx rfl (hb hby d42_0) rfl  hr) ?_
  show Go p e s below _ _ _ _ s₁ (mkF m 1 #[.val (.ref v1), .val (.int (0 : Int32)), .val (.int (Int32.ofNat bs.length))] [(.int (0 : Int32))])
  refine Go.of (fun _ hr => XS.ifNo X0.here hx rfl (hb hby d42_1) rfl ((if0 _ _).trans (teq (by decide : ((0 : Int32) = (0 : Int32)))).2) hr) ?_
  show Go p e s below _ _ _ _ s₁ (mkF m 4 #[.val (.ref v1), .val (.int (0 : Int32)), .val (.int (Int32.ofNat bs.length))] [])
  refine Go.of (fun _ hr => XS.iloadN X0.here hx rfl (hb hby d42_4) rfl  hr) ?_
  show Go p e s below _ _ _ _ s₁ (mkF m 5 #[.val (.ref v1), .val (.int (0 : Int32)), .val (.int (Int32.ofNat bs.length))] [(.int (Int32.ofNat bs.length))])
  refine Go.of (fun _ hr => XS.aloadN X0.here hx rfl (hb hby d42_5) rfl rfl hr) ?_
  show Go p e s below _ _ _ _ s₁ (mkF m 6 #[.val (.ref v1), .val (.int (0 : Int32)), .val (.int (Int32.ofNat bs.length))] [(.ref v1), (.int (Int32.ofNat bs.length))])
  obtain ⟨cl101, Ar101, q101, S101, N101_, H101, G101⟩ := id W1
  refine Go.of (fun _ hr => X0.arraylength hx (by rw [e0]; exact Ar101.1) (State.isArrayOf_alike hZ.alike Ar101.2.1) (g := (mkF m 6 #[.val (.ref v1), .val (.int (0 : Int32)), .val (.int (Int32.ofNat bs.length))] [(.ref v1), (.int (Int32.ofNat bs.length))])) rfl rfl (hb hby d42_6) _ hr) ?_
  rw [len_of S101 N101_]
  show Go p e s below _ _ _ _ s₁ (mkF m 7 #[.val (.ref v1), .val (.int (0 : Int32)), .val (.int (Int32.ofNat bs.length))] [(.int (16 : Int32)), (.int (Int32.ofNat bs.length))])
  refine Go.of (fun _ hr => XS.icmpNo X0.here hx rfl (hb hby d42_7) rfl (feq (own_ne16 hj)).1 hr) ?_
  show Go p e s below _ _ _ _ s₁ (mkF m 10 #[.val (.ref v1), .val (.int (0 : Int32)), .val (.int (Int32.ofNat bs.length))] [])
  refine Go.of (fun _ hr => XS.aloadN X0.here hx rfl (hb hby d42_10) rfl rfl hr) ?_
  show Go p e s below _ _ _ _ s₁ (mkF m 11 #[.val (.ref v1), .val (.int (0 : Int32)), .val (.int (Int32.ofNat bs.length))] [(.ref v1)])
  refine Go.of (fun _ hr => XS.iloadN X0.here hx rfl (hb hby d42_11) rfl  hr) ?_
  show Go p e s below _ _ _ _ s₁ (mkF m 12 #[.val (.ref v1), .val (.int (0 : Int32)), .val (.int (Int32.ofNat bs.length))] [(.int (0 : Int32)), (.ref v1)])
  refine Go.of (fun _ hr => XS.iloadN X0.here hx rfl (hb hby d42_12) rfl  hr) ?_
  show Go p e s below _ _ _ _ s₁ (mkF m 13 #[.val (.ref v1), .val (.int (0 : Int32)), .val (.int (Int32.ofNat bs.length))] [(.int (Int32.ofNat bs.length)), (.int (0 : Int32)), (.ref v1)])
  obtain ⟨_, b102, T102, h102, L102, e102, Cc102, X102, B102, J102, g102, hQ102, st102⟩ := own_callS Cc B0 J0 X0 (hw _ (List.mem_of_getElem? (i := 223) rfl)) (hw _ (List.mem_of_getElem? (i := 224) rfl)) (hw _ (List.mem_of_getElem? (i := 221) rfl)) (hw _ (List.mem_of_getElem? (i := 225) rfl)) (by decide) (rm43 l Z a0 hw [] v1 _ bs _ h0 n0 O0 h0.size (own_ole O0) K0.1 W1 hj) e0 (g := (mkF m 13 #[.val (.ref v1), .val (.int (0 : Int32)), .val (.int (Int32.ofNat bs.length))] [(.int (Int32.ofNat bs.length)), (.int (0 : Int32)), (.ref v1)])) rfl (by rw [hml]; rfl) (argsL := [(.ref v1), (.int (0 : Int32)), (.int (Int32.ofNat bs.length))]) (rest := []) (lenOf pd16 rfl) rfl (W := 0) (by show 2 * 0 + _ ≤ _; exact Nat.le_of_eq rfl) (hb hby d42_13) (by decide) (by decide) (by decide) (by decide)
  obtain ⟨r102, kr102, rfl, Nq102, Eq102, R_r102, Vr102⟩ := hQ102
  have N102 := Fr.app N0 Nq102
  obtain ⟨hx, hZ, hown, hby, hml, hnm, hret, hlk⟩ := id Cc102
  have sz_r102 : h0.size ≤ r102 := Nat.le_trans K0.1 R_r102
  have fr_r102 : h0.size ≤ r102 := sz_r102
  have ne_v1_r102 : v1 ≠ r102 := Nat.ne_of_lt (Nat.lt_of_lt_of_le W1.lt R_r102)
  have K102 := K0.ext Eq102
  have O102 := O0.ext Eq102
  refine Go.of st102 ?_
  show Go p e s below _ _ _ _ T102 (mkF m 16 #[.val (.ref v1), .val (.int (0 : Int32)), .val (.int (Int32.ofNat bs.length))] [(.ref r102)])
  exact Go.retA X102 hx hlk B102 J102 e102 hret rfl rfl (hb hby d42_16) (by decide) (by decide) (fun vm_ hw_ => ⟨_, _, rfl, (fun y hy => Nat.le_trans hnb (N102 y hy)), keep_ext K102, sz_r102, Vr102⟩)

theorem d37_0 : decode jdk_42_method_150_code 0 = .ok (.aload_n 0, 1) := by decide +kernel
theorem d37_1 : decode jdk_42_method_150_code 1 = .ok (.invokespecial 1, 3) := by decide +kernel
theorem d37_4 : decode jdk_42_method_150_code 4 = .ok (.aload_n 1, 1) := by decide +kernel
theorem d37_5 : decode jdk_42_method_150_code 5 = .ok (.invokevirtual 552, 3) := by decide +kernel
theorem pd17 : parseMethodDescriptor "()[B" = some ⟨[], some (.array .byte)⟩ := by decide +kernel
theorem d37_8 : decode jdk_42_method_150_code 8 = .ok (.astore_n 3, 1) := by decide +kernel
theorem d37_9 : decode jdk_42_method_150_code 9 = .ok (.aload_n 1, 1) := by decide +kernel
theorem d37_10 : decode jdk_42_method_150_code 10 = .ok (.invokevirtual 549, 3) := by decide +kernel
theorem d37_13 : decode jdk_42_method_150_code 13 = .ok (.istore 4, 2) := by decide +kernel
theorem d37_15 : decode jdk_42_method_150_code 15 = .ok (.aload_n 1, 1) := by decide +kernel
theorem d37_16 : decode jdk_42_method_150_code 16 = .ok (.invokevirtual 1047, 3) := by decide +kernel
theorem d37_19 : decode jdk_42_method_150_code 19 = .ok (.ifCond .eq 22, 3) := by decide +kernel
theorem d37_22 : decode jdk_42_method_150_code 22 = .ok (.aload_n 0, 1) := by decide +kernel
theorem d37_23 : decode jdk_42_method_150_code 23 = .ok (.iconst 0, 1) := by decide +kernel
theorem d37_24 : decode jdk_42_method_150_code 24 = .ok (.putfield 15, 3) := by decide +kernel
theorem d37_27 : decode jdk_42_method_150_code 27 = .ok (.aload_n 0, 1) := by decide +kernel
theorem d37_28 : decode jdk_42_method_150_code 28 = .ok (.aload_n 3, 1) := by decide +kernel
theorem d37_29 : decode jdk_42_method_150_code 29 = .ok (.iconst 0, 1) := by decide +kernel
theorem d37_30 : decode jdk_42_method_150_code 30 = .ok (.iload 4, 2) := by decide +kernel
theorem d37_32 : decode jdk_42_method_150_code 32 = .ok (.invokestatic 54, 3) := by decide +kernel
theorem d37_35 : decode jdk_42_method_150_code 35 = .ok (.putfield 9, 3) := by decide +kernel
theorem d37_38 : decode jdk_42_method_150_code 38 = .ok (.goto 59, 3) := by decide +kernel
theorem d37_97 : decode jdk_42_method_150_code 97 = .ok (.return_, 1) := by decide +kernel
set_option maxRecDepth 65536 in
set_option maxHeartbeats 40000000 in
theorem rm37 (l : Launch) (Z : State) (a0 : Array Value) (hw : ∀ d ∈ tables_1, d.before a0 Z = true) (ws : List Jvm.Cond) (x1 : Addr) (u1 u2 : Value) (a1 v1 : Addr) (kv : ClassId) (bs : List Int32) (zc : Int32) (ms : List Addr) (h0 : Heap) (n0 : Nat) (O0 : Old Z n0 h0) (nb : Nat) (hb0 : n0 ≤ nb) (hnb : nb ≤ h0.size) (fr_x1 : nb ≤ x1) (hm_x1 : x1 ∈ ms) (Ea1 : Exa Z h0 a1 "java/lang/StringBuilder") (Gv : Fld Z h0 a1 "java/lang/AbstractStringBuilder" "value" "[B" (.ref v1)) (Gc : Fld Z h0 a1 "java/lang/AbstractStringBuilder" "coder" "B" (.int 0)) (Gn : Fld Z h0 a1 "java/lang/AbstractStringBuilder" "count" "I" (.int (Int32.ofNat bs.length))) (W1 : Arv Z h0 v1 kv .byte 16 (bs.map Value.int) (.int 0)) (E1 : Exa Z h0 x1 "java/lang/String") (F1 : Fld Z h0 x1 "java/lang/String" "value" "[B" u1) (F2 : Fld Z h0 x1 "java/lang/String" "coder" "B" u2) (hj : bs.length < 16) (nex : a1 ≠ x1) (nev : v1 ≠ x1) (S_C : Sta Z Z.heap "java/lang/String" "COMPACT_STRINGS" "Z" (.int zc)) (hzc : ¬ zc = 0) :
    Con l Z ms (⟨"java/lang/String", "<init>", "(Ljava/lang/AbstractStringBuilder;Ljava/lang/Void;)V"⟩ : MethodName) jdk_42_method_150_code 5 none ws ({ frames := 3, cells := 1, slots := 16, locals := 71 } : Room) #[(.ref x1), (.ref a1), .null] h0 (fun v vm h L => v = none ∧ Fr nb L ∧ Keep h0 h [x1] ∧ ∃ t k, h0.size ≤ t ∧ Fld Z h x1 "java/lang/String" "value" "[B" (.ref t) ∧ Fld Z h x1 "java/lang/String" "coder" "B" (.int 0) ∧ Arv Z h t k .byte (Int32.ofNat bs.length) (bs.map Value.int) (.int 0)) := by
  refine Con.mk (plainFor_of_name pn1) ?_
  intro p e s m below meth c s₁ Cc X0 e0 eb J0 B0 M0
  obtain ⟨hx, hZ, hown, hby, hml, hnm, hret, hlk⟩ := id Cc
  have N0 := Fr.nil nb
  have K0 := Keep.refl h0 [x1]
  show Go p e s below _ _ _ _ s₁ (mkF m 0 #[.val (.ref x1), .val (.ref a1), .val .null, .unset, .unset] [])
  refine Go.of (fun _ hr => XS.aloadN X0.here hx rfl (hb hby d37_0) rfl rfl hr) ?_
  show Go p e s below _ _ _ _ s₁ (mkF m 1 #[.val (.ref x1), .val (.ref a1), .val .null, .unset, .unset] [(.ref x1)])
  obtain ⟨T101, X101, e101, st101⟩ := initO X0 hx hZ hown (hw _ (List.mem_of_getElem? (i := 27) rfl)) (hw _ (List.mem_of_getElem? (i := 28) rfl)) (hw _ (List.mem_of_getElem? (i := 29) rfl)) e0 (g := (mkF m 1 #[.val (.ref x1), .val (.ref a1), .val .null, .unset, .unset] [(.ref x1)])) rfl (by rw [hml]; rfl) rfl (hb hby d37_1) (by decide) (W := 0) (by show 2 * 0 + _ ≤ _; exact Nat.le_of_eq rfl) (by decide)
  refine Go.of (fun _ hr => st101 _ hr) ?_
  show Go p e s below _ _ _ _ T101 (mkF m 4 #[.val (.ref x1), .val (.ref a1), .val .null, .unset, .unset] [])
  refine Go.of (fun _ hr => XS.aloadN X101.here hx rfl (hb hby d37_4) rfl rfl hr) ?_
  show Go p e s below _ _ _ _ T101 (mkF m 5 #[.val (.ref x1), .val (.ref a1), .val .null, .unset, .unset] [(.ref a1)])
  obtain ⟨_, b102, T102, h102, L102, e102, Cc102, X102, B102, J102, g102, hQ102, st102⟩ := own_callV Cc B0 J0 X101 (hw _ (List.mem_of_getElem? (i := 201) rfl)) (hw _ (List.mem_of_getElem? (i := 202) rfl)) (notFace_of_selects (args := #[]) (mvT hZ (hw _ (List.mem_of_getElem? (i := 204) rfl)))) (hw _ (List.mem_of_getElem? (i := 204) rfl)) (hw _ (List.mem_of_getElem? (i := 203) rfl)) (hw _ (List.mem_of_getElem? (i := 142) rfl)) (hw _ (List.mem_of_getElem? (i := 205) rfl)) (by decide) Ea1 (rm38 l Z a0 hw [] a1 v1 _ bs _ h0 n0 O0 h0.size (own_ole O0) K0.1 Ea1 Gv Gc Gn W1) e101 (g := (mkF m 5 #[.val (.ref x1), .val (.ref a1), .val .null, .unset, .unset] [(.ref a1)])) rfl (by rw [hml]; rfl) (argsL := []) (rest := []) (lenOf pd17 rfl) rfl (W := 0) (by show 2 * 0 + _ ≤ _; exact Nat.le_of_eq rfl) (hb hby d37_5) (by decide) (by decide) (by decide) (by decide)
  obtain ⟨rfl, Nq102, hh102⟩ := hQ102
  have N102 := Fr.app N0 (show Fr nb _ from fun y hy => Nat.le_trans hnb (Nq102 y hy))
  have NS102 := Fr.app (Fr.nil _) Nq102
  obtain ⟨hx, hZ, hown, hby, hml, hnm, hret, hlk⟩ := id Cc102
  rw [hh102] at e102 B102 J102
  refine Go.of st102 ?_
  show Go p e s below _ _ _ _ T102 (mkF m 8 #[.val (.ref x1), .val (.ref a1), .val .null, .unset, .unset] [(.ref v1)])
  refine Go.of (fun _ hr => XS.astoreN X102.here hx rfl (hb hby d37_8) rfl rfl (l' := #[.val (.ref x1), .val (.ref a1), .val .null, .val (.ref v1), .unset]) rfl hr) ?_
  show Go p e s below _ _ _ _ T102 (mkF m 9 #[.val (.ref x1), .val (.ref a1), .val .null, .val (.ref v1), .unset] [])
  refine Go.of (fun _ hr => XS.aloadN X102.here hx rfl (hb hby d37_9) rfl rfl hr) ?_
  show Go p e s below _ _ _ _ T102 (mkF m 10 #[.val (.ref x1), .val (.ref a1), .val .null, .val (.ref v1), .unset] [(.ref a1)])
  obtain ⟨_, b103, T103, h103, L103, e103, Cc103, X103, B103, J103, g103, hQ103, st103⟩ := own_callV Cc102 B102 J102 X102 (hw _ (List.mem_of_getElem? (i := 206) rfl)) (hw _ (List.mem_of_getElem? (i := 207) rfl)) (own_nf (args := #[]) (mvT hZ (hw _ (List.mem_of_getElem? (i := 166) rfl))) rfl) (hw _ (List.mem_of_getElem? (i := 209) rfl)) (hw _ (List.mem_of_getElem? (i := 210) rfl)) (hw _ (List.mem_of_getElem? (i := 134) rfl)) (hw _ (List.mem_of_getElem? (i := 211) rfl)) (by decide) Ea1 (rm39 l Z a0 hw [] a1 v1 _ bs _ h0 n0 O0 h0.size (own_ole O0) K0.1 Ea1 Gv Gc Gn W1) e102 (g := (mkF m 10 #[.val (.ref x1), .val (.ref a1), .val .null, .val (.ref v1), .unset] [(.ref a1)])) rfl (by rw [hml]; rfl) (argsL := []) (rest := []) (lenOf pd12 rfl) rfl (W := 0) (by show 2 * 0 + _ ≤ _; exact Nat.le_of_eq rfl) (hb hby d37_10) (by decide) (by decide) (by decide) (by decide)
  obtain ⟨rfl, Nq103, hh103⟩ := hQ103
  have N103 := Fr.app N102 (show Fr nb _ from fun y hy => Nat.le_trans hnb (Nq103 y hy))
  have NS103 := Fr.app NS102 Nq103
  obtain ⟨hx, hZ, hown, hby, hml, hnm, hret, hlk⟩ := id Cc103
  rw [hh103] at e103 B103 J103
  refine Go.of st103 ?_
  show Go p e s below _ _ _ _ T103 (mkF m 13 #[.val (.ref x1), .val (.ref a1), .val .null, .val (.ref v1), .unset] [(.int (Int32.ofNat bs.length))])
  refine Go.of (fun _ hr => XS.istore X103.here hx rfl (hb hby d37_13) rfl (l' := #[.val (.ref x1), .val (.ref a1), .val .null, .val (.ref v1), .val (.int (Int32.ofNat bs.length))]) rfl hr) ?_
  show Go p e s below _ _ _ _ T103 (mkF m 15 #[.val (.ref x1), .val (.ref a1), .val .null, .val (.ref v1), .val (.int (Int32.ofNat bs.length))] [])
  refine Go.of (fun _ hr => XS.aloadN X103.here hx rfl (hb hby d37_15) rfl rfl hr) ?_
  show Go p e s below _ _ _ _ T103 (mkF m 16 #[.val (.ref x1), .val (.ref a1), .val .null, .val (.ref v1), .val (.int (Int32.ofNat bs.length))] [(.ref a1)])
  obtain ⟨_, b104, T104, h104, L104, e104, Cc104, X104, B104, J104, g104, hQ104, st104⟩ := own_callV Cc103 B103 J103 X103 (hw _ (List.mem_of_getElem? (i := 214) rfl)) (hw _ (List.mem_of_getElem? (i := 215) rfl)) (notFace_of_selects (args := #[]) (mvT hZ (hw _ (List.mem_of_getElem? (i := 217) rfl)))) (hw _ (List.mem_of_getElem? (i := 217) rfl)) (hw _ (List.mem_of_getElem? (i := 216) rfl)) (hw _ (List.mem_of_getElem? (i := 142) rfl)) (hw _ (List.mem_of_getElem? (i := 218) rfl)) (by decide) Ea1 (rm41 l Z a0 hw [] a1 v1 _ bs zc _ h0 n0 O0 h0.size (own_ole O0) K0.1 Ea1 Gv Gc Gn W1 S_C hzc) e103 (g := (mkF m 16 #[.val (.ref x1), .val (.ref a1), .val .null, .val (.ref v1), .val (.int (Int32.ofNat bs.length))] [(.ref a1)])) rfl (by rw [hml]; rfl) (argsL := []) (rest := []) (lenOf pd7 rfl) rfl (W := 0) (by show 2 * 0 + _ ≤ _; exact Nat.le_of_eq rfl) (hb hby d37_16) (by decide) (by decide) (by decide) (by decide)
  obtain ⟨rfl, Nq104, hh104⟩ := hQ104
  have N104 := Fr.app N103 (show Fr nb _ from fun y hy => Nat.le_trans hnb (Nq104 y hy))
  have NS104 := Fr.app NS103 Nq104
  obtain ⟨hx, hZ, hown, hby, hml, hnm, hret, hlk⟩ := id Cc104
  rw [hh104] at e104 B104 J104
  refine Go.of st104 ?_
  show Go p e s below _ _ _ _ T104 (mkF m 19 #[.val (.ref x1), .val (.ref a1), .val .null, .val (.ref v1), .val (.int (Int32.ofNat bs.length))] [(.int (1 : Int32))])
  refine Go.of (fun _ hr => XS.ifNo X104.here hx rfl (hb hby d37_19) rfl ((if0 _ _).trans (feq (by decide : ¬ ((1 : Int32) = (0 : Int32)))).1) hr) ?_
  show Go p e s below _ _ _ _ T104 (mkF m 22 #[.val (.ref x1), .val (.ref a1), .val .null, .val (.ref v1), .val (.int (Int32.ofNat bs.length))] [])
  refine Go.of (fun _ hr => XS.aloadN X104.here hx rfl (hb hby d37_22) rfl rfl hr) ?_
  show Go p e s below _ _ _ _ T104 (mkF m 23 #[.val (.ref x1), .val (.ref a1), .val .null, .val (.ref v1), .val (.int (Int32.ofNat bs.length))] [(.ref x1)])
  refine Go.of (fun _ hr => XS.iconst X104.here hx rfl (hb hby d37_23) hr) ?_
  show Go p e s below _ _ _ _ T104 (mkF m 24 #[.val (.ref x1), .val (.ref a1), .val .null, .val (.ref v1), .val (.int (Int32.ofNat bs.length))] [(.int (0 : Int32)), (.ref x1)])
  obtain ⟨T105, h105, X105, e105, W105, st105⟩ := putFN X104 hx hZ hown (hw _ (List.mem_of_getElem? (i := 42) rfl)) Via.refl e104 F2 E1 (Or.inr ⟨(hw _ (List.mem_of_getElem? (i := 43) rfl)), rfl, hnm⟩) (hw _ (List.mem_of_getElem? (i := 17) rfl)) (ty := .byte) (v := (.int (0 : Int32))) (v' := (.int (0 : Int32))) (by decide) rfl rfl (g := (mkF m 24 #[.val (.ref x1), .val (.ref a1), .val .null, .val (.ref v1), .val (.int (Int32.ofNat bs.length))] [(.int (0 : Int32)), (.ref x1)])) rfl rfl (hb hby d37_24)
  have N105 := Fr.snoc X105 N104 fr_x1
  have J105 := J104.wr W105 hm_x1
  have B105 := B104.mono (Nat.le_of_eq W105.size.symm)
  have O105 := O0.wr W105 (Nat.le_trans hb0 fr_x1)
  have K105 := K0.wr W105 (Or.inl (List.mem_of_getElem? (i := 0) rfl))
  have Fw105 := F2.same W105
  refine Go.of (fun _ hr => st105 _ hr) ?_
  show Go p e s below _ _ _ _ T105 (mkF m 27 #[.val (.ref x1), .val (.ref a1), .val .null, .val (.ref v1), .val (.int (Int32.ofNat bs.length))] [])
  refine Go.of (fun _ hr => XS.aloadN X105.here hx rfl (hb hby d37_27) rfl rfl hr) ?_
  show Go p e s below _ _ _ _ T105 (mkF m 28 #[.val (.ref x1), .val (.ref a1), .val .null, .val (.ref v1), .val (.int (Int32.ofNat bs.length))] [(.ref x1)])
  refine Go.of (fun _ hr => XS.aloadN X105.here hx rfl (hb hby d37_28) rfl rfl hr) ?_
  show Go p e s below _ _ _ _ T105 (mkF m 29 #[.val (.ref x1), .val (.ref a1), .val .null, .val (.ref v1), .val (.int (Int32.ofNat bs.length))] [(.ref v1), (.ref x1)])
  refine Go.of (fun _ hr => XS.iconst X105.here hx rfl (hb hby d37_29) hr) ?_
  show Go p e s below _ _ _ _ T105 (mkF m 30 #[.val (.ref x1), .val (.ref a1), .val .null, .val (.ref v1), .val (.int (Int32.ofNat bs.length))] [(.int (0 : Int32)), (.ref v1), (.ref x1)])
  refine Go.of (fun _ hr => XS.iload X105.here hx rfl (hb hby d37_30) rfl  hr) ?_
  show Go p e s below _ _ _ _ T105 (mkF m 32 #[.val (.ref x1), .val (.ref a1), .val .null, .val (.ref v1), .val (.int (Int32.ofNat bs.length))] [(.int (Int32.ofNat bs.length)), (.int (0 : Int32)), (.ref v1), (.ref x1)])
  have f107 := (W1.other W105 nev)
  obtain ⟨_, b106, T106, h106, L106, e106, Cc106, X106, B106, J106, g106, hQ106, st106⟩ := own_callS Cc104 B105 J105 X105 (hw _ (List.mem_of_getElem? (i := 219) rfl)) (hw _ (List.mem_of_getElem? (i := 220) rfl)) (hw _ (List.mem_of_getElem? (i := 221) rfl)) (hw _ (List.mem_of_getElem? (i := 222) rfl)) (by decide) (rm42 l Z a0 hw [] v1 _ bs _ h105 n0 O105 h0.size (own_ole O0) K105.1 f107 hj) e105 (g := (mkF m 32 #[.val (.ref x1), .val (.ref a1), .val .null, .val (.ref v1), .val (.int (Int32.ofNat bs.length))] [(.int (Int32.ofNat bs.length)), (.int (0 : Int32)), (.ref v1), (.ref x1)])) rfl (by rw [hml]; rfl) (argsL := [(.ref v1), (.int (0 : Int32)), (.int (Int32.ofNat bs.length))]) (rest := [(.ref x1)]) (lenOf pd16 rfl) rfl (W := 1) (by show 2 * 0 + _ ≤ _; exact Nat.le_of_eq rfl) (hb hby d37_32) (by decide) (by decide) (by decide) (by decide)
  have f108 := (Ea1.wr W105)
  have f109 := (E1.wr W105)
  obtain ⟨r106, kr106, rfl, Nq106, Eq106, R_r106, Vr106⟩ := hQ106
  have N106 := Fr.app N105 (show Fr nb _ from fun y hy => Nat.le_trans hnb (Nq106 y hy))
  obtain ⟨hx, hZ, hown, hby, hml, hnm, hret, hlk⟩ := id Cc106
  have sz_r106 : h0.size ≤ r106 := Nat.le_trans K105.1 R_r106
  have fr_r106 : nb ≤ r106 := Nat.le_trans hnb sz_r106
  have ne_a1_r106 : a1 ≠ r106 := Nat.ne_of_lt (Nat.lt_of_lt_of_le f108.lt R_r106)
  have ne_v1_r106 : v1 ≠ r106 := Nat.ne_of_lt (Nat.lt_of_lt_of_le f107.lt R_r106)
  have ne_x1_r106 : x1 ≠ r106 := Nat.ne_of_lt (Nat.lt_of_lt_of_le f109.lt R_r106)
  have K106 := K105.ext Eq106
  have O106 := O105.ext Eq106
  refine Go.of st106 ?_
  show Go p e s below _ _ _ _ T106 (mkF m 35 #[.val (.ref x1), .val (.ref a1), .val .null, .val (.ref v1), .val (.int (Int32.ofNat bs.length))] [(.ref r106), (.ref x1)])
  have f111 := ((F1.other W105 (Or.inr (slot_ne (Or.inr (hw _ (List.mem_of_getElem? (i := 45) rfl))) (Or.inr (hw _ (List.mem_of_getElem? (i := 43) rfl))) (by decide) (t := (.array .byte)) (t' := .byte) (by decide) (by decide)))).ext Eq106)
  have f112 := (f109.ext Eq106)
  obtain ⟨T110, h110, X110, e110, W110, st110⟩ := putF X106 hx hZ hown (host := "") (Or.inl (hw _ (List.mem_of_getElem? (i := 44) rfl))) Via.refl e106 f111 f112 (Or.inr ⟨(hw _ (List.mem_of_getElem? (i := 45) rfl)), rfl, hnm⟩) (hw _ (List.mem_of_getElem? (i := 17) rfl)) (ty := (.array .byte)) (by decide) rfl rfl (g := (mkF m 35 #[.val (.ref x1), .val (.ref a1), .val .null, .val (.ref v1), .val (.int (Int32.ofNat bs.length))] [(.ref r106), (.ref x1)])) rfl rfl (hb hby d37_35)
  have N110 := Fr.snoc X110 N106 fr_x1
  have J110 := J106.wr W110 hm_x1
  have B110 := B106.mono (Nat.le_of_eq W110.size.symm)
  have O110 := O106.wr W110 (Nat.le_trans hb0 fr_x1)
  have K110 := K106.wr W110 (Or.inl (List.mem_of_getElem? (i := 0) rfl))
  have Fw110 := f111.same W110
  refine Go.of (fun _ hr => st110 _ hr) ?_
  show Go p e s below _ _ _ _ T110 (mkF m 38 #[.val (.ref x1), .val (.ref a1), .val .null, .val (.ref v1), .val (.int (Int32.ofNat bs.length))] [])
  refine Go.of (fun _ hr => XS.goto X110.here hx rfl (pc0 := 38) (pc' := 97) rfl (hb hby d37_38) (by decide) (by decide) hr) ?_
  show Go p e s below _ _ _ _ T110 (mkF m 97 #[.val (.ref x1), .val (.ref a1), .val .null, .val (.ref v1), .val (.int (Int32.ofNat bs.length))] [])
  have f113 := ((Fw105.ext Eq106).other W110 (Or.inr (slot_ne (Or.inr (hw _ (List.mem_of_getElem? (i := 43) rfl))) (Or.inr (hw _ (List.mem_of_getElem? (i := 45) rfl))) (by decide) (t := .byte) (t' := (.array .byte)) (by decide) (by decide))))
  have f114 := (Vr106.other W110 (Ne.symm ne_x1_r106))
  exact Go.retV X110 hx hlk B110 J110 e110 hret (hb hby d37_97) (by decide) (by decide) (fun vm_ hw_ => ⟨rfl, N110, K110, _, _, sz_r106, Fw110, f113, f114⟩)

theorem d36_0 : decode jdk_42_method_53_code 0 = .ok (.aload_n 0, 1) := by decide +kernel
theorem d36_1 : decode jdk_42_method_53_code 1 = .ok (.aload_n 1, 1) := by decide +kernel
theorem d36_2 : decode jdk_42_method_53_code 2 = .ok (.aconst_null, 1) := by decide +kernel
theorem d36_3 : decode jdk_42_method_53_code 3 = .ok (.invokespecial 489, 3) := by decide +kernel
theorem pd18 : parseMethodDescriptor "(Ljava/lang/AbstractStringBuilder;Ljava/lang/Void;)V" = some ⟨[(.object "java/lang/AbstractStringBuilder"), (.object "java/lang/Void")], none⟩ := by decide +kernel
theorem d36_6 : decode jdk_42_method_53_code 6 = .ok (.return_, 1) := by decide +kernel
set_option maxRecDepth 65536 in
set_option maxHeartbeats 40000000 in
theorem rm36 (l : Launch) (Z : State) (a0 : Array Value) (hw : ∀ d ∈ tables_1, d.before a0 Z = true) (ws : List Jvm.Cond) (x1 : Addr) (u1 u2 : Value) (a1 v1 : Addr) (kv : ClassId) (bs : List Int32) (zc : Int32) (ms : List Addr) (h0 : Heap) (n0 : Nat) (O0 : Old Z n0 h0) (nb : Nat) (hb0 : n0 ≤ nb) (hnb : nb ≤ h0.size) (fr_x1 : nb ≤ x1) (hm_x1 : x1 ∈ ms) (Ea1 : Exa Z h0 a1 "java/lang/StringBuilder") (Gv : Fld Z h0 a1 "java/lang/AbstractStringBuilder" "value" "[B" (.ref v1)) (Gc : Fld Z h0 a1 "java/lang/AbstractStringBuilder" "coder" "B" (.int 0)) (Gn : Fld Z h0 a1 "java/lang/AbstractStringBuilder" "count" "I" (.int (Int32.ofNat bs.length))) (W1 : Arv Z h0 v1 kv .byte 16 (bs.map Value.int) (.int 0)) (E1 : Exa Z h0 x1 "java/lang/String") (F1 : Fld Z h0 x1 "java/lang/String" "value" "[B" u1) (F2 : Fld Z h0 x1 "java/lang/String" "coder" "B" u2) (hj : bs.length < 16) (nex : a1 ≠ x1) (nev : v1 ≠ x1) (S_C : Sta Z Z.heap "java/lang/String" "COMPACT_STRINGS" "Z" (.int zc)) (hzc : ¬ zc = 0) :
    Con l Z ms (⟨"java/lang/String", "<init>", "(Ljava/lang/StringBuilder;)V"⟩ : MethodName) jdk_42_method_53_code 2 none ws ({ frames := 4, cells := 1, slots := 16, locals := 87 } : Room) #[(.ref x1), (.ref a1)] h0 (fun v vm h L => v = none ∧ Fr nb L ∧ Keep h0 h [x1] ∧ ∃ t k, h0.size ≤ t ∧ Fld Z h x1 "java/lang/String" "value" "[B" (.ref t) ∧ Fld Z h x1 "java/lang/String" "coder" "B" (.int 0) ∧ Arv Z h t k .byte (Int32.ofNat bs.length) (bs.map Value.int) (.int 0)) := by
  refine Con.mk (plainFor_of_name pn1) ?_
  intro p e s m below meth c s₁ Cc X0 e0 eb J0 B0 M0
  obtain ⟨hx, hZ, hown, hby, hml, hnm, hret, hlk⟩ := id Cc
  have N0 := Fr.nil nb
  have K0 := Keep.refl h0 [x1]
  show Go p e s below _ _ _ _ s₁ (mkF m 0 #[.val (.ref x1), .val (.ref a1)] [])
  refine Go.of (fun _ hr => XS.aloadN X0.here hx rfl (hb hby d36_0) rfl rfl hr) ?_
  show Go p e s below _ _ _ _ s₁ (mkF m 1 #[.val (.ref x1), .val (.ref a1)] [(.ref x1)])
  refine Go.of (fun _ hr => XS.aloadN X0.here hx rfl (hb hby d36_1) rfl rfl hr) ?_
  show Go p e s below _ _ _ _ s₁ (mkF m 2 #[.val (.ref x1), .val (.ref a1)] [(.ref a1), (.ref x1)])
  refine Go.of (fun _ hr => XS.aconstNull X0.here hx rfl (hb hby d36_2) hr) ?_
  show Go p e s below _ _ _ _ s₁ (mkF m 3 #[.val (.ref x1), .val (.ref a1)] [.null, (.ref a1), (.ref x1)])
  obtain ⟨_, b101, T101, h101, L101, e101, Cc101, X101, B101, J101, g101, hQ101, st101⟩ := own_callI Cc B0 J0 X0 rfl (hw _ (List.mem_of_getElem? (i := 198) rfl)) (hw _ (List.mem_of_getElem? (i := 199) rfl)) (hw _ (List.mem_of_getElem? (i := 18) rfl)) (hw _ (List.mem_of_getElem? (i := 200) rfl)) (by decide) (rm37 l Z a0 hw [] x1 _ _ a1 v1 _ bs zc _ h0 n0 O0 nb hb0 (Nat.le_trans hnb K0.1) fr_x1 hm_x1 Ea1 Gv Gc Gn W1 E1 F1 F2 hj nex nev S_C hzc) e0 (g := (mkF m 3 #[.val (.ref x1), .val (.ref a1)] [.null, (.ref a1), (.ref x1)])) rfl (by rw [hml]; rfl) (argsL := [(.ref a1), .null]) (rest := []) (lenOf pd18 rfl) rfl (W := 0) (by show 2 * 0 + _ ≤ _; exact Nat.le_of_eq rfl) (hb hby d36_3) (by decide) (by decide) (by decide) (by decide)
  obtain ⟨rfl, Nq101, Kq101, t101, kt101, R_t101, Fv101, Fc101, Vt101⟩ := hQ101
  have N101 := Fr.app N0 Nq101
  obtain ⟨hx, hZ, hown, hby, hml, hnm, hret, hlk⟩ := id Cc101
  have sz_t101 : h0.size ≤ t101 := Nat.le_trans K0.1 R_t101
  have fr_t101 : nb ≤ t101 := Nat.le_trans hnb sz_t101
  have ne_a1_t101 : a1 ≠ t101 := Nat.ne_of_lt (Nat.lt_of_lt_of_le Ea1.lt R_t101)
  have ne_v1_t101 : v1 ≠ t101 := Nat.ne_of_lt (Nat.lt_of_lt_of_le W1.lt R_t101)
  have ne_x1_t101 : x1 ≠ t101 := Nat.ne_of_lt (Nat.lt_of_lt_of_le E1.lt R_t101)
  have K101 := K0.trans Kq101 (allS (Or.inl (List.mem_of_getElem? (i := 0) rfl)) all0)
  have O101 := O0.keep Kq101 (allS (Nat.le_trans hb0 fr_x1) all0)
  refine Go.of st101 ?_
  show Go p e s below _ _ _ _ T101 (mkF m 6 #[.val (.ref x1), .val (.ref a1)] [])
  exact Go.retV X101 hx hlk B101 J101 e101 hret (hb hby d36_6) (by decide) (by decide) (fun vm_ hw_ => ⟨rfl, N101, K101, _, _, sz_t101, Fv101, Fc101, Vt101⟩)

theorem d35_0 : decode jdk_67_method_42_code 0 = .ok (.new 18, 3) := by decide +kernel
theorem d35_3 : decode jdk_67_method_42_code 3 = .ok (.dup, 1) := by decide +kernel
theorem d35_4 : decode jdk_67_method_42_code 4 = .ok (.aload_n 0, 1) := by decide +kernel
theorem d35_5 : decode jdk_67_method_42_code 5 = .ok (.invokespecial 137, 3) := by decide +kernel
theorem pd19 : parseMethodDescriptor "(Ljava/lang/StringBuilder;)V" = some ⟨[(.object "java/lang/StringBuilder")], none⟩ := by decide +kernel
theorem d35_8 : decode jdk_67_method_42_code 8 = .ok (.areturn, 1) := by decide +kernel
set_option maxRecDepth 65536 in
set_option maxHeartbeats 40000000 in
theorem rm35 (l : Launch) (Z : State) (a0 : Array Value) (hw : ∀ d ∈ tables_1, d.before a0 Z = true) (ws : List Jvm.Cond) (a1 v1 : Addr) (kv : ClassId) (bs : List Int32) (zc : Int32) (ms : List Addr) (h0 : Heap) (n0 : Nat) (O0 : Old Z n0 h0) (nb : Nat) (hb0 : n0 ≤ nb) (hnb : nb ≤ h0.size) (Ea1 : Exa Z h0 a1 "java/lang/StringBuilder") (Gv : Fld Z h0 a1 "java/lang/AbstractStringBuilder" "value" "[B" (.ref v1)) (Gc : Fld Z h0 a1 "java/lang/AbstractStringBuilder" "coder" "B" (.int 0)) (Gn : Fld Z h0 a1 "java/lang/AbstractStringBuilder" "count" "I" (.int (Int32.ofNat bs.length))) (W1 : Arv Z h0 v1 kv .byte 16 (bs.map Value.int) (.int 0)) (hj : bs.length < 16) (S_C : Sta Z Z.heap "java/lang/String" "COMPACT_STRINGS" "Z" (.int zc)) (hzc : ¬ zc = 0) :
    Con l Z ms (⟨"java/lang/StringBuilder", "toString", "()Ljava/lang/String;"⟩ : MethodName) jdk_67_method_42_code 1 (some (.object "java/lang/String")) ws ({ frames := 5, cells := 2, slots := 20, locals := 101 } : Room) #[(.ref a1)] h0 (fun v vm h L => ∃ r t k, v = some (.ref r) ∧ Fr nb L ∧ Ext h0 h ∧ h0.size ≤ r ∧ h0.size ≤ t ∧ Exa Z h r "java/lang/String" ∧ Fld Z h r "java/lang/String" "value" "[B" (.ref t) ∧ Fld Z h r "java/lang/String" "coder" "B" (.int 0) ∧ Arv Z h t k .byte (Int32.ofNat bs.length) (bs.map Value.int) (.int 0)) := by
  refine Con.mk (plainFor_of_name pn5) ?_
  intro p e s m below meth c s₁ Cc X0 e0 eb J0 B0 M0
  obtain ⟨hx, hZ, hown, hby, hml, hnm, hret, hlk⟩ := id Cc
  have N0 := Fr.nil h0.size
  have K0 := Keep.refl h0 []
  show Go p e s below _ _ _ _ s₁ (mkF m 0 #[.val (.ref a1)] [])
  obtain ⟨T101, h101, X101, e101, E101, A101, D101, -, st101⟩ := newO X0 hx hZ hown (hw _ (List.mem_of_getElem? (i := 194) rfl)) (hw _ (List.mem_of_getElem? (i := 17) rfl)) (hw _ (List.mem_of_getElem? (i := 18) rfl)) e0 (g := (mkF m 0 #[.val (.ref a1)] [])) rfl (hb hby d35_0) (by decide) (by decide)
  obtain ⟨o101, g101⟩ : ∃ z, z = h0.size := ⟨_, rfl⟩
  rw [← g101] at A101 D101 st101
  have ne_a1_o101 : a1 ≠ o101 := Nat.ne_of_lt (Nat.lt_of_lt_of_le Ea1.lt (Nat.le_of_eq g101.symm))
  have ne_v1_o101 : v1 ≠ o101 := Nat.ne_of_lt (Nat.lt_of_lt_of_le W1.lt (Nat.le_of_eq g101.symm))
  have lt101 : o101 < h101.size := A101.lt
  have J101 := J0.add E101 g101 lt101
  have B101 := B0.mono E101.1
  have O101 := O0.ext E101
  have sz101 : h0.size ≤ o101 := Nat.le_trans K0.1 (Nat.le_of_eq g101.symm)
  have fr101 : h0.size ≤ o101 := sz101
  have K101 := K0.ext E101
  have F101_coder : Fld Z h101 o101 "java/lang/String" "coder" "B" (.int (0 : Int32)) := D101 (Or.inr (hw _ (List.mem_of_getElem? (i := 43) rfl))) (ty := .byte) (by decide)
  have F101_value : Fld Z h101 o101 "java/lang/String" "value" "[B" .null := D101 (Or.inr (hw _ (List.mem_of_getElem? (i := 45) rfl))) (ty := (.array .byte)) (by decide)
  refine Go.of (fun _ hr => st101 _ hr) ?_
  show Go p e s below _ _ _ _ T101 (mkF m 3 #[.val (.ref a1)] [(.ref o101)])
  refine Go.of (fun _ hr => XS.dup X101.here hx rfl (hb hby d35_3) rfl rfl hr) ?_
  show Go p e s below _ _ _ _ T101 (mkF m 4 #[.val (.ref a1)] [(.ref o101), (.ref o101)])
  refine Go.of (fun _ hr => XS.aloadN X101.here hx rfl (hb hby d35_4) rfl rfl hr) ?_
  show Go p e s below _ _ _ _ T101 (mkF m 5 #[.val (.ref a1)] [(.ref a1), (.ref o101), (.ref o101)])
  have f103 := (Ea1.ext E101)
  have f104 := (Gv.ext E101)
  have f105 := (Gc.ext E101)
  have f106 := (Gn.ext E101)
  have f107 := (W1.ext E101)
  obtain ⟨_, b102, T102, h102, L102, e102, Cc102, X102, B102, J102, g102, hQ102, st102⟩ := own_callI Cc B101 J101 X101 rfl (hw _ (List.mem_of_getElem? (i := 195) rfl)) (hw _ (List.mem_of_getElem? (i := 196) rfl)) (hw _ (List.mem_of_getElem? (i := 18) rfl)) (hw _ (List.mem_of_getElem? (i := 197) rfl)) (by decide) (rm36 l Z a0 hw [] o101 _ _ a1 v1 _ bs zc _ h101 n0 O101 h0.size (own_ole O0) K101.1 fr101 (List.mem_cons_self ..) f103 f104 f105 f106 f107 A101 F101_value F101_coder hj ne_a1_o101 ne_v1_o101 S_C hzc) e101 (g := (mkF m 5 #[.val (.ref a1)] [(.ref a1), (.ref o101), (.ref o101)])) rfl (by rw [hml]; rfl) (argsL := [(.ref a1)]) (rest := [(.ref o101)]) (lenOf pd19 rfl) rfl (W := 1) (by show 2 * 0 + _ ≤ _; exact Nat.le_of_eq rfl) (hb hby d35_5) (by decide) (by decide) (by decide) (by decide)
  obtain ⟨rfl, Nq102, Kq102, t102, kt102, R_t102, Fv102, Fc102, Vt102⟩ := hQ102
  have N102 := Fr.app N0 Nq102
  obtain ⟨hx, hZ, hown, hby, hml, hnm, hret, hlk⟩ := id Cc102
  have sz_t102 : h0.size ≤ t102 := Nat.le_trans K101.1 R_t102
  have fr_t102 : h0.size ≤ t102 := sz_t102
  have ne_a1_t102 : a1 ≠ t102 := Nat.ne_of_lt (Nat.lt_of_lt_of_le f103.lt R_t102)
  have ne_v1_t102 : v1 ≠ t102 := Nat.ne_of_lt (Nat.lt_of_lt_of_le f107.lt R_t102)
  have ne_o101_t102 : o101 ≠ t102 := Nat.ne_of_lt (Nat.lt_of_lt_of_le A101.lt R_t102)
  have K102 := K101.trans Kq102 (allS (Or.inr sz101) all0)
  have O102 := O101.keep Kq102 (allS (Nat.le_trans (own_ole O0) fr101) all0)
  refine Go.of st102 ?_
  show Go p e s below _ _ _ _ T102 (mkF m 8 #[.val (.ref a1)] [(.ref o101)])
  have f108 := (A101.keep Kq102)
  exact Go.retA X102 hx hlk B102 (J102.sub fun x hx => (List.mem_cons_of_mem _ hx)) e102 hret rfl rfl (hb hby d35_8) (by decide) (by decide) (fun vm_ hw_ => ⟨_, _, _, rfl, (fun y hy => Nat.le_trans hnb (N102 y hy)), keep_ext K102, sz101, sz_t102, f108, Fv102, Fc102, Vt102⟩)

def tabA : List Int32 := [1207963663, 1207963663, 1207963663, 1207963663, 1207963663, 1207963663, 1207963663, 1207963663, 1207963663, 1476411407, 1342193679, 1476411407, 1610629135, 1342193679, 1207963663, 1207963663, 1207963663, 1207963663, 1207963663, 1207963663, 1207963663, 1207963663, 1207963663, 1207963663, 1207963663, 1207963663, 1207963663, 1207963663, 1342193679, 1342193679, 1342193679, 1476411407, 1610629132, 1744830488, 1744830488, 671088664, 671113242, 671088664, 1744830488, 1744830488, (-402653163), (-402653162), 1744830488, 536870937, 939524120, 536870932, 939524120, 939524120, 402667017, 402667017, 402667017, 402667017, 402667017, 402667017, 402667017, 402667017, 402667017, 402667017, 939524120, 1744830488, (-402653159), 1744830489, (-402653159), 1744830488, 1744830488, 8552417, 8552417, 8552417, 8552417, 8552417, 8552417, 8552417, 8552417, 8552417, 8552417, 8552417, 8552417, 8552417, 8552417, 8552417, 8552417, 8552417, 8552417, 8552417, 8552417, 8552417, 8552417, 8552417, 8552417, 8552417, 8552417, (-402653163), 1744830488, (-402653162), 1744830491, 1744850967, 1744830491, 8486882, 8486882, 8486882, 8486882, 8486882, 8486882, 8486882, 8486882, 8486882, 8486882, 8486882, 8486882, 8486882, 8486882, 8486882, 8486882, 8486882, 8486882, 8486882, 8486882, 8486882, 8486882, 8486882, 8486882, 8486882, 8486882, (-402653163), 1744830489, (-402653162), 1744830489, 1207963663, 1207963663, 1207963663, 1207963663, 1207963663, 1207963663, 1342181391, 1207963663, 1207963663, 1207963663, 1207963663, 1207963663, 1207963663, 1207963663, 1207963663, 1207963663, 1207963663, 1207963663, 1207963663, 1207963663, 1207963663, 1207963663, 1207963663, 1207963663, 1207963663, 1207963663, 1207963663, 1207963663, 1207963663, 1207963663, 1207963663, 1207963663, 1207963663, 939524108, 1744830488, 671113242, 671113242, 671113242, 671113242, 1744830492, 1744830488, 1744830491, 1744830492, 28677, (-402653155), 1744830489, 1207963664, 1744830492, 1744830491, 671088668, 671088665, 402654731, 402654731, 1744830491, 134049794, 1744830488, 1744830488, 1744830491, 402654475, 28677, (-402653154), 1744832523, 1744832523, 1744832523, 1744830488, 8548353, 8548353, 8548353, 8548353, 8548353, 8548353, 8548353, 8548353, 8548353, 8548353, 8548353, 8548353, 8548353, 8548353, 8548353, 8548353, 8548353, 8548353, 8548353, 8548353, 8548353, 8548353, 8548353, 1744830489, 8548353, 8548353, 8548353, 8548353, 8548353, 8548353, 8548353, 134049794, 8482818, 8482818, 8482818, 8482818, 8482818, 8482818, 8482818, 8482818, 8482818, 8482818, 8482818, 8482818, 8482818, 8482818, 8482818, 8482818, 8482818, 8482818, 8482818, 8482818, 8482818, 8482818, 8482818, 1744830489, 8482818, 8482818, 8482818, 8482818, 8482818, 8482818, 8482818, 102592514]
abbrev rng (x : Int32) : Prop := ¬ x < 0 ∧ ¬ 255 < x
/-- the JDK's word on white space -/
def spV (c : Int32) : Prop := c = 32 ∨ c = 9 ∨ (tabA.getD c.toNatClampNeg 0 &&& (28672 : Int32)) = (16384 : Int32)
/-- the law's own word -/
def wsP (c : Int32) : Prop := (¬ c < 9 ∧ ¬ 13 < c) ∨ (¬ c < 28 ∧ ¬ 32 < c)
theorem sp_all : ∀ n : Fin 256, ¬ ((¬ Int32.ofNat n.val < 9 ∧ ¬ 13 < Int32.ofNat n.val) ∨ (¬ Int32.ofNat n.val < 28 ∧ ¬ 32 < Int32.ofNat n.val)) → ¬ (Int32.ofNat n.val = 32 ∨ Int32.ofNat n.val = 9 ∨ (tabA.getD n.val 0 &&& (28672 : Int32)) = (16384 : Int32)) := by decide +kernel
theorem sp_of_ws {c : Int32} (h : rng c) (q : ¬ wsP c) : ¬ spV c := by
  have e := q_back h.1
  have hn : c.toNatClampNeg < 256 := by
    have a := nat_of h.1
    have b := h.2
    rw [Int32.lt_iff_toInt_lt, show (255 : Int32).toInt = 255 from rfl] at b; omega
  have r := sp_all ⟨c.toNatClampNeg, hn⟩
  simp only [e] at r
  exact r q
theorem i2c_id {x : Int32} (h : rng x) : x.toUInt32.toUInt16.toUInt32.toInt32 = x := nar_c h.1 (le255 h.2)
theorem chV_rng (b : List Int32) (i : Int32) : rng (chV b i) := chr8 _

theorem d20_0 : decode jdk_43_method_44_code 0 = .ok (.aload_n 0, 1) := by decide +kernel
theorem d20_1 : decode jdk_43_method_44_code 1 = .ok (.iload_n 1, 1) := by decide +kernel
theorem d20_2 : decode jdk_43_method_44_code 2 = .ok (.baload, 1) := by decide +kernel
theorem d20_3 : decode jdk_43_method_44_code 3 = .ok (.sipush 255, 3) := by decide +kernel
theorem d20_6 : decode jdk_43_method_44_code 6 = .ok (.iand, 1) := by decide +kernel
theorem d20_7 : decode jdk_43_method_44_code 7 = .ok (.i2c, 1) := by decide +kernel
theorem d20_8 : decode jdk_43_method_44_code 8 = .ok (.ireturn, 1) := by decide +kernel
set_option maxRecDepth 65536 in
set_option maxHeartbeats 40000000 in
theorem rm20 (l : Launch) (Z : State) (a0 : Array Value) (hw : ∀ d ∈ tables_1, d.before a0 Z = true) (ws : List Jvm.Cond) (t1 : Addr) (k1 : ClassId) (b1 : List Int32) (i1 : Int32) (ms : List Addr) (h0 : Heap) (n0 : Nat) (O0 : Old Z n0 h0) (nb : Nat) (hb0 : n0 ≤ nb) (hnb : nb ≤ h0.size) (V1 : Arv Z h0 t1 k1 .byte (Int32.ofNat b1.length) (b1.map Value.int) (.int 0)) (i0 : ¬ i1 < 0) (i9 : i1 < Int32.ofNat b1.length) :
    Con l Z ms (⟨"java/lang/StringLatin1", "getChar", "([BI)C"⟩ : MethodName) jdk_43_method_44_code 2 (some .char) ws ({ frames := 0, cells := 0, slots := 0, locals := 0 } : Room) #[(.ref t1), (.int i1)] h0 (fun v vm h L => v = some (.int (chV b1 i1)) ∧ Fr nb L ∧ h = h0) := by
  refine Con.mk (plainFor_of_name pn3) ?_
  intro p e s m below meth c s₁ Cc X0 e0 eb J0 B0 M0
  obtain ⟨hx, hZ, hown, hby, hml, hnm, hret, hlk⟩ := id Cc
  have N0 := Fr.nil h0.size
  have K0 := Keep.refl h0 []
  show Go p e s below _ _ _ _ s₁ (mkF m 0 #[.val (.ref t1), .val (.int i1)] [])
  refine Go.of (fun _ hr => XS.aloadN X0.here hx rfl (hb hby d20_0) rfl rfl hr) ?_
  show Go p e s below _ _ _ _ s₁ (mkF m 1 #[.val (.ref t1), .val (.int i1)] [(.ref t1)])
  refine Go.of (fun _ hr => XS.iloadN X0.here hx rfl (hb hby d20_1) rfl  hr) ?_
  show Go p e s below _ _ _ _ s₁ (mkF m 2 #[.val (.ref t1), .val (.int i1)] [(.int i1), (.ref t1)])
  obtain ⟨cl101, Ar101, q101, S101, N101_, H101, G101⟩ := id V1
  have hin101 : ¬ (i1 < 0 ∨ cl101.slots.size ≤ (i1).toNatClampNeg) := inb_of S101 ⟨i0, i9⟩
  refine Go.of (fun _ hr => X0.baloadBytes hx (j := i1) (v := (.int (b1.getD i1.toNatClampNeg 0))) (by rw [e0]; exact Ar101.1) (State.isArrayOf_alike hZ.alike Ar101.2.1) Ar101.2.2 hin101 (H101.at hin101 (getD_int b1 _)) (g := (mkF m 2 #[.val (.ref t1), .val (.int i1)] [(.int i1), (.ref t1)])) rfl rfl (hb hby d20_2) _ hr) ?_
  show Go p e s below _ _ _ _ s₁ (mkF m 3 #[.val (.ref t1), .val (.int i1)] [(.int (b1.getD i1.toNatClampNeg 0))])
  refine Go.of (fun _ hr => XS.sipush X0.here hx rfl (hb hby d20_3) hr) ?_
  show Go p e s below _ _ _ _ s₁ (mkF m 6 #[.val (.ref t1), .val (.int i1)] [(.int (255 : Int32)), (.int (b1.getD i1.toNatClampNeg 0))])
  refine Go.of (fun _ hr => XS.iand X0.here hx rfl (hb hby d20_6) rfl hr) ?_
  show Go p e s below _ _ _ _ s₁ (mkF m 7 #[.val (.ref t1), .val (.int i1)] [(.int ((b1.getD i1.toNatClampNeg 0) &&& (255 : Int32)))])
  refine Go.of (fun _ hr => XS.i2c X0.here hx rfl (hb hby d20_7) rfl hr) ?_
  show Go p e s below _ _ _ _ s₁ (mkF m 8 #[.val (.ref t1), .val (.int i1)] [(.int (((b1.getD i1.toNatClampNeg 0) &&& (255 : Int32)).toUInt32.toUInt16.toUInt32.toInt32))])
  exact Go.retN X0 hx hlk B0 J0 e0 (t := .char) (z' := (((b1.getD i1.toNatClampNeg 0) &&& (255 : Int32)).toUInt32.toUInt16.toUInt32.toInt32)) hret (by simp) (hb hby d20_8) (own_c2 _) (by decide) (by decide) (fun vm_ hw_ => ⟨rfl, (fun y hy => Nat.le_trans hnb (N0 y hy)), rfl⟩)

theorem own_lt256 {x : Int32} (h : rng x) : x < 256 := by
  have b := h.2
  rw [Int32.lt_iff_toInt_lt, show (255 : Int32).toInt = 255 from rfl] at b
  rw [Int32.lt_iff_toInt_lt, show (256 : Int32).toInt = 256 from rfl]; omega

theorem pn7 : plainName "java/lang/CharacterDataLatin1" = true := by first | (simp [plainName, overriddenIn]; done) | decide +kernel
theorem d22_0 : decode jdk_116_method_1_code 0 = .ok (.iload_n 1, 1) := by decide +kernel
theorem d22_1 : decode jdk_116_method_1_code 1 = .ok (.i2c, 1) := by decide +kernel
theorem d22_2 : decode jdk_116_method_1_code 2 = .ok (.istore_n 2, 1) := by decide +kernel
theorem d22_3 : decode jdk_116_method_1_code 3 = .ok (.getstatic 1, 3) := by decide +kernel
theorem d22_6 : decode jdk_116_method_1_code 6 = .ok (.iload_n 2, 1) := by decide +kernel
theorem d22_7 : decode jdk_116_method_1_code 7 = .ok (.iaload, 1) := by decide +kernel
theorem d22_8 : decode jdk_116_method_1_code 8 = .ok (.istore_n 3, 1) := by decide +kernel
theorem d22_9 : decode jdk_116_method_1_code 9 = .ok (.iload_n 3, 1) := by decide +kernel
theorem d22_10 : decode jdk_116_method_1_code 10 = .ok (.ireturn, 1) := by decide +kernel
set_option maxRecDepth 65536 in
set_option maxHeartbeats 40000000 in
theorem rm22 (l : Launch) (Z : State) (a0 : Array Value) (hw : ∀ d ∈ tables_1, d.before a0 Z = true) (ws : List Jvm.Cond) (a1 : Addr) (c1 : Int32) (ms : List Addr) (h0 : Heap) (n0 : Nat) (O0 : Old Z n0 h0) (nb : Nat) (hb0 : n0 ≤ nb) (hnb : nb ≤ h0.size) (hc : rng c1) (wi wa : Addr) (ka : ClassId) (S_I : Sta Z Z.heap "java/lang/CharacterDataLatin1" "instance" "Ljava/lang/CharacterDataLatin1;" (.ref wi)) (E_I : Exa Z Z.heap wi "java/lang/CharacterDataLatin1") (S_A : Sta Z Z.heap "java/lang/CharacterDataLatin1" "A" "[I" (.ref wa)) (V_A : Arv Z Z.heap wa ka .int 256 (tabA.map Value.int) (.int 0)) :
    Con l Z ms (⟨"java/lang/CharacterDataLatin1", "getProperties", "(I)I"⟩ : MethodName) jdk_116_method_1_code 4 (some .int) ws ({ frames := 0, cells := 0, slots := 0, locals := 0 } : Room) #[(.ref a1), (.int c1)] h0 (fun v vm h L => v = some (.int (tabA.getD c1.toNatClampNeg 0)) ∧ Fr nb L ∧ h = h0) := by
  refine Con.mk (plainFor_of_name pn7) ?_
  intro p e s m below meth c s₁ Cc X0 e0 eb J0 B0 M0
  obtain ⟨hx, hZ, hown, hby, hml, hnm, hret, hlk⟩ := id Cc
  have N0 := Fr.nil h0.size
  have K0 := Keep.refl h0 []
  show Go p e s below _ _ _ _ s₁ (mkF m 0 #[.val (.ref a1), .val (.int c1), .unset, .unset] [])
  refine Go.of (fun _ hr => XS.iloadN X0.here hx rfl (hb hby d22_0) rfl  hr) ?_
  show Go p e s below _ _ _ _ s₁ (mkF m 1 #[.val (.ref a1), .val (.int c1), .unset, .unset] [(.int c1)])
  refine Go.of (fun _ hr => XS.i2c X0.here hx rfl (hb hby d22_1) rfl hr) ?_
  show Go p e s below _ _ _ _ s₁ (mkF m 2 #[.val (.ref a1), .val (.int c1), .unset, .unset] [(.int (c1.toUInt32.toUInt16.toUInt32.toInt32))])
  rw [i2c_id hc]
  show Go p e s below _ _ _ _ s₁ (mkF m 2 #[.val (.ref a1), .val (.int c1), .unset, .unset] [(.int c1)])
  refine Go.of (fun _ hr => XS.istoreN X0.here hx rfl (hb hby d22_2) rfl (l' := #[.val (.ref a1), .val (.int c1), .val (.int c1), .unset]) rfl hr) ?_
  show Go p e s below _ _ _ _ s₁ (mkF m 3 #[.val (.ref a1), .val (.int c1), .val (.int c1), .unset] [])
  obtain ⟨T101, X101, e101, st101⟩ := getS2 X0 hx hZ hown (host := "") (Or.inl (hw _ (List.mem_of_getElem? (i := 108) rfl))) Via.refl e0 (S_A.ext O0.2) (g := (mkF m 3 #[.val (.ref a1), .val (.int c1), .val (.int c1), .unset] [])) rfl (hb hby d22_3)
  refine Go.of (fun _ hr => st101 _ hr) ?_
  show Go p e s below _ _ _ _ T101 (mkF m 6 #[.val (.ref a1), .val (.int c1), .val (.int c1), .unset] [(.ref wa)])
  refine Go.of (fun _ hr => XS.iloadN X101.here hx rfl (hb hby d22_6) rfl  hr) ?_
  show Go p e s below _ _ _ _ T101 (mkF m 7 #[.val (.ref a1), .val (.int c1), .val (.int c1), .unset] [(.int c1), (.ref wa)])
  obtain ⟨cl102, Ar102, q102, S102, N102_, H102, G102⟩ := id (V_A.ext O0.2)
  have hin102 : ¬ (c1 < 0 ∨ cl102.slots.size ≤ (c1).toNatClampNeg) := inb_of S102 ⟨hc.1, own_lt256 hc⟩
  refine Go.of (fun _ hr => X101.iaload hx (j := c1) (v := (.int (tabA.getD c1.toNatClampNeg 0))) (by rw [e101]; exact Ar102.1) (State.isArrayOf_alike hZ.alike Ar102.2.1) Ar102.2.2 hin102 (H102.at hin102 (getD_int tabA _)) (g := (mkF m 7 #[.val (.ref a1), .val (.int c1), .val (.int c1), .unset] [(.int c1), (.ref wa)])) rfl rfl (hb hby d22_7) _ hr) ?_
  show Go p e s below _ _ _ _ T101 (mkF m 8 #[.val (.ref a1), .val (.int c1), .val (.int c1), .unset] [(.int (tabA.getD c1.toNatClampNeg 0))])
  refine Go.of (fun _ hr => XS.istoreN X101.here hx rfl (hb hby d22_8) rfl (l' := #[.val (.ref a1), .val (.int c1), .val (.int c1), .val (.int (tabA.getD c1.toNatClampNeg 0))]) rfl hr) ?_
  show Go p e s below _ _ _ _ T101 (mkF m 9 #[.val (.ref a1), .val (.int c1), .val (.int c1), .val (.int (tabA.getD c1.toNatClampNeg 0))] [])
  refine Go.of (fun _ hr => XS.iloadN X101.here hx rfl (hb hby d22_9) rfl  hr) ?_
  show Go p e s below _ _ _ _ T101 (mkF m 10 #[.val (.ref a1), .val (.int c1), .val (.int c1), .val (.int (tabA.getD c1.toNatClampNeg 0))] [(.int (tabA.getD c1.toNatClampNeg 0))])
  exact Go.retI X101 hx hlk B0 J0 e101 hret (hb hby d22_10) (by decide) (by decide) (fun vm_ hw_ => ⟨rfl, (fun y hy => Nat.le_trans hnb (N0 y hy)), rfl⟩)

def wtV (c : Int32) : Int32 := if (tabA.getD c.toNatClampNeg 0 &&& (28672 : Int32)) = (16384 : Int32) then 1 else 0

theorem d21_0 : decode jdk_116_method_26_code 0 = .ok (.aload_n 0, 1) := by decide +kernel
theorem d21_1 : decode jdk_116_method_26_code 1 = .ok (.iload_n 1, 1) := by decide +kernel
theorem d21_2 : decode jdk_116_method_26_code 2 = .ok (.invokevirtual 15, 3) := by decide +kernel
theorem pd20 : parseMethodDescriptor "(I)I" = some ⟨[.int], some .int⟩ := by decide +kernel
theorem d21_5 : decode jdk_116_method_26_code 5 = .ok (.istore_n 2, 1) := by decide +kernel
theorem d21_6 : decode jdk_116_method_26_code 6 = .ok (.iload_n 2, 1) := by decide +kernel
theorem d21_7 : decode jdk_116_method_26_code 7 = .ok (.sipush 28672, 3) := by decide +kernel
theorem d21_10 : decode jdk_116_method_26_code 10 = .ok (.iand, 1) := by decide +kernel
theorem d21_11 : decode jdk_116_method_26_code 11 = .ok (.sipush 16384, 3) := by decide +kernel
theorem d21_14 : decode jdk_116_method_26_code 14 = .ok (.if_icmp .ne 7, 3) := by decide +kernel
theorem d21_17 : decode jdk_116_method_26_code 17 = .ok (.iconst 1, 1) := by decide +kernel
theorem d21_18 : decode jdk_116_method_26_code 18 = .ok (.goto 4, 3) := by decide +kernel
theorem d21_22 : decode jdk_116_method_26_code 22 = .ok (.ireturn, 1) := by decide +kernel
theorem d21_21 : decode jdk_116_method_26_code 21 = .ok (.iconst 0, 1) := by decide +kernel
set_option maxRecDepth 65536 in
set_option maxHeartbeats 40000000 in
theorem rm21 (l : Launch) (Z : State) (a0 : Array Value) (hw : ∀ d ∈ tables_1, d.before a0 Z = true) (ws : List Jvm.Cond) (c1 : Int32) (ms : List Addr) (h0 : Heap) (n0 : Nat) (O0 : Old Z n0 h0) (nb : Nat) (hb0 : n0 ≤ nb) (hnb : nb ≤ h0.size) (wi wa : Addr) (ka : ClassId) (S_I : Sta Z Z.heap "java/lang/CharacterDataLatin1" "instance" "Ljava/lang/CharacterDataLatin1;" (.ref wi)) (E_I : Exa Z Z.heap wi "java/lang/CharacterDataLatin1") (S_A : Sta Z Z.heap "java/lang/CharacterDataLatin1" "A" "[I" (.ref wa)) (V_A : Arv Z Z.heap wa ka .int 256 (tabA.map Value.int) (.int 0)) (hc : rng c1) :
    Con l Z ms (⟨"java/lang/CharacterDataLatin1", "isWhitespace", "(I)Z"⟩ : MethodName) jdk_116_method_26_code 3 (some .boolean) ws ({ frames := 1, cells := 0, slots := 0, locals := 15 } : Room) #[(.ref wi), (.int c1)] h0 (fun v vm h L => v = some (.int (wtV c1)) ∧ Fr nb L ∧ h = h0) := by
  refine Con.mk (plainFor_of_name pn7) ?_
  intro p e s m below meth c s₁ Cc X0 e0 eb J0 B0 M0
  obtain ⟨hx, hZ, hown, hby, hml, hnm, hret, hlk⟩ := id Cc
  have N0 := Fr.nil h0.size
  have K0 := Keep.refl h0 []
  show Go p e s below _ _ _ _ s₁ (mkF m 0 #[.val (.ref wi), .val (.int c1), .unset] [])
  refine Go.of (fun _ hr => XS.aloadN X0.here hx rfl (hb hby d21_0) rfl rfl hr) ?_
  show Go p e s below _ _ _ _ s₁ (mkF m 1 #[.val (.ref wi), .val (.int c1), .unset] [(.ref wi)])
  refine Go.of (fun _ hr => XS.iloadN X0.here hx rfl (hb hby d21_1) rfl  hr) ?_
  show Go p e s below _ _ _ _ s₁ (mkF m 2 #[.val (.ref wi), .val (.int c1), .unset] [(.int c1), (.ref wi)])
  obtain ⟨_, b101, T101, h101, L101, e101, Cc101, X101, B101, J101, g101, hQ101, st101⟩ := own_callV Cc B0 J0 X0 (hw _ (List.mem_of_getElem? (i := 103) rfl)) (hw _ (List.mem_of_getElem? (i := 104) rfl)) (notFace_of_selects (args := #[]) (mvT hZ (hw _ (List.mem_of_getElem? (i := 106) rfl)))) (hw _ (List.mem_of_getElem? (i := 106) rfl)) (hw _ (List.mem_of_getElem? (i := 105) rfl)) (hw _ (List.mem_of_getElem? (i := 97) rfl)) (hw _ (List.mem_of_getElem? (i := 107) rfl)) (by decide) (E_I.ext O0.2) (rm22 l Z a0 hw [] wi c1 _ h0 n0 O0 h0.size (own_ole O0) K0.1 hc wi wa ka S_I E_I S_A V_A) e0 (g := (mkF m 2 #[.val (.ref wi), .val (.int c1), .unset] [(.int c1), (.ref wi)])) rfl (by rw [hml]; rfl) (argsL := [(.int c1)]) (rest := []) (lenOf pd20 rfl) rfl (W := 0) (by show 2 * 0 + _ ≤ _; exact Nat.le_of_eq rfl) (hb hby d21_2) (by decide) (by decide) (by decide) (by decide)
  obtain ⟨rfl, Nq101, hh101⟩ := hQ101
  have N101 := Fr.app N0 Nq101
  obtain ⟨hx, hZ, hown, hby, hml, hnm, hret, hlk⟩ := id Cc101
  rw [hh101] at e101 B101 J101
  refine Go.of st101 ?_
  show Go p e s below _ _ _ _ T101 (mkF m 5 #[.val (.ref wi), .val (.int c1), .unset] [(.int (tabA.getD c1.toNatClampNeg 0))])
  refine Go.of (fun _ hr => XS.istoreN X101.here hx rfl (hb hby d21_5) rfl (l' := #[.val (.ref wi), .val (.int c1), .val (.int (tabA.getD c1.toNatClampNeg 0))]) rfl hr) ?_
  show Go p e s below _ _ _ _ T101 (mkF m 6 #[.val (.ref wi), .val (.int c1), .val (.int (tabA.getD c1.toNatClampNeg 0))] [])
  refine Go.of (fun _ hr => XS.iloadN X101.here hx rfl (hb hby d21_6) rfl  hr) ?_
  show Go p e s below _ _ _ _ T101 (mkF m 7 #[.val (.ref wi), .val (.int c1), .val (.int (tabA.getD c1.toNatClampNeg 0))] [(.int (tabA.getD c1.toNatClampNeg 0))])
  refine Go.of (fun _ hr => XS.sipush X101.here hx rfl (hb hby d21_7) hr) ?_
  show Go p e s below _ _ _ _ T101 (mkF m 10 #[.val (.ref wi), .val (.int c1), .val (.int (tabA.getD c1.toNatClampNeg 0))] [(.int (28672 : Int32)), (.int (tabA.getD c1.toNatClampNeg 0))])
  refine Go.of (fun _ hr => XS.iand X101.here hx rfl (hb hby d21_10) rfl hr) ?_
  show Go p e s below _ _ _ _ T101 (mkF m 11 #[.val (.ref wi), .val (.int c1), .val (.int (tabA.getD c1.toNatClampNeg 0))] [(.int ((tabA.getD c1.toNatClampNeg 0) &&& (28672 : Int32)))])
  refine Go.of (fun _ hr => XS.sipush X101.here hx rfl (hb hby d21_11) hr) ?_
  show Go p e s below _ _ _ _ T101 (mkF m 14 #[.val (.ref wi), .val (.int c1), .val (.int (tabA.getD c1.toNatClampNeg 0))] [(.int (16384 : Int32)), (.int ((tabA.getD c1.toNatClampNeg 0) &&& (28672 : Int32)))])
  by_cases hb14_102 : ((tabA.getD c1.toNatClampNeg 0) &&& (28672 : Int32)) = (16384 : Int32)
  · refine Go.of (fun _ hr => XS.icmpNo X101.here hx rfl (hb hby d21_14) rfl (teq hb14_102).2 hr) ?_
    show Go p e s below _ _ _ _ T101 (mkF m 17 #[.val (.ref wi), .val (.int c1), .val (.int (tabA.getD c1.toNatClampNeg 0))] [])
    refine Go.of (fun _ hr => XS.iconst X101.here hx rfl (hb hby d21_17) hr) ?_
    show Go p e s below _ _ _ _ T101 (mkF m 18 #[.val (.ref wi), .val (.int c1), .val (.int (tabA.getD c1.toNatClampNeg 0))] [(.int (1 : Int32))])
    refine Go.of (fun _ hr => XS.goto X101.here hx rfl (pc0 := 18) (pc' := 22) rfl (hb hby d21_18) (by decide) (by decide) hr) ?_
    show Go p e s below _ _ _ _ T101 (mkF m 22 #[.val (.ref wi), .val (.int c1), .val (.int (tabA.getD c1.toNatClampNeg 0))] [(.int (1 : Int32))])
    exact Go.retN X101 hx hlk B101 J101 e101 (t := .boolean) (z' := (1 : Int32)) hret (by simp) (hb hby d21_22) rfl (by decide) (by decide) (fun vm_ hw_ => ⟨(by rw [wtV, if_pos hb14_102]), (fun y hy => Nat.le_trans hnb (N101 y hy)), rfl⟩)
  · refine Go.of (fun _ hr => XS.icmpYes X101.here hx rfl (pc0 := 14) (pc' := 21) rfl (hb hby d21_14) rfl (feq hb14_102).2 (by decide) (by decide) hr) ?_
    show Go p e s below _ _ _ _ T101 (mkF m 21 #[.val (.ref wi), .val (.int c1), .val (.int (tabA.getD c1.toNatClampNeg 0))] [])
    refine Go.of (fun _ hr => XS.iconst X101.here hx rfl (hb hby d21_21) hr) ?_
    show Go p e s below _ _ _ _ T101 (mkF m 22 #[.val (.ref wi), .val (.int c1), .val (.int (tabA.getD c1.toNatClampNeg 0))] [(.int (0 : Int32))])
    exact Go.retN X101 hx hlk B101 J101 e101 (t := .boolean) (z' := (0 : Int32)) hret (by simp) (hb hby d21_22) rfl (by decide) (by decide) (fun vm_ hw_ => ⟨(by rw [wtV, if_neg hb14_102]), (fun y hy => Nat.le_trans hnb (N101 y hy)), rfl⟩)

theorem d19_5 : decode jdk_43_method_37_code 5 = .ok (.iload_n 2, 1) := by decide +kernel
theorem d19_6 : decode jdk_43_method_37_code 6 = .ok (.iload_n 1, 1) := by decide +kernel
theorem d19_7 : decode jdk_43_method_37_code 7 = .ok (.if_icmp .ge 40, 3) := by decide +kernel
theorem d19_10 : decode jdk_43_method_37_code 10 = .ok (.aload_n 0, 1) := by decide +kernel
theorem d19_11 : decode jdk_43_method_37_code 11 = .ok (.iload_n 2, 1) := by decide +kernel
theorem d19_12 : decode jdk_43_method_37_code 12 = .ok (.invokestatic 50, 3) := by decide +kernel
theorem d19_15 : decode jdk_43_method_37_code 15 = .ok (.istore_n 3, 1) := by decide +kernel
theorem d19_16 : decode jdk_43_method_37_code 16 = .ok (.iload_n 3, 1) := by decide +kernel
theorem d19_17 : decode jdk_43_method_37_code 17 = .ok (.bipush 32, 2) := by decide +kernel
theorem d19_19 : decode jdk_43_method_37_code 19 = .ok (.if_icmp .eq 22, 3) := by decide +kernel
theorem d19_41 : decode jdk_43_method_37_code 41 = .ok (.iinc 2 1, 3) := by decide +kernel
theorem d19_44 : decode jdk_43_method_37_code 44 = .ok (.goto (-39), 3) := by decide +kernel
theorem d19_22 : decode jdk_43_method_37_code 22 = .ok (.iload_n 3, 1) := by decide +kernel
theorem d19_23 : decode jdk_43_method_37_code 23 = .ok (.bipush 9, 2) := by decide +kernel
theorem d19_25 : decode jdk_43_method_37_code 25 = .ok (.if_icmp .eq 16, 3) := by decide +kernel
theorem d19_28 : decode jdk_43_method_37_code 28 = .ok (.getstatic 66, 3) := by decide +kernel
theorem d19_31 : decode jdk_43_method_37_code 31 = .ok (.iload_n 3, 1) := by decide +kernel
theorem d19_32 : decode jdk_43_method_37_code 32 = .ok (.invokevirtual 211, 3) := by decide +kernel
theorem pd21 : parseMethodDescriptor "(I)Z" = some ⟨[.int], some .boolean⟩ := by decide +kernel
theorem d19_35 : decode jdk_43_method_37_code 35 = .ok (.ifCond .ne 6, 3) := by decide +kernel
theorem d19_38 : decode jdk_43_method_37_code 38 = .ok (.goto 9, 3) := by decide +kernel
theorem d19_47 : decode jdk_43_method_37_code 47 = .ok (.iload_n 2, 1) := by decide +kernel
theorem d19_48 : decode jdk_43_method_37_code 48 = .ok (.ireturn, 1) := by decide +kernel
theorem wt1 {c : Int32} (h : ¬ wtV c = 0) : (tabA.getD c.toNatClampNeg 0 &&& (28672 : Int32)) = (16384 : Int32) := Decidable.byContradiction fun q => h (by rw [wtV, if_neg q])
theorem nw_step {b : List Int32} {i : Nat} (h : ∃ j, i ≤ j ∧ j < b.length ∧ ¬ spV (chV b (Int32.ofNat j))) (q : spV (chV b (Int32.ofNat i))) : ∃ j, i + 1 ≤ j ∧ j < b.length ∧ ¬ spV (chV b (Int32.ofNat j)) := by
  obtain ⟨j, h1, h2, h3⟩ := h
  refine ⟨j, Nat.succ_le_of_lt (Nat.lt_of_le_of_ne h1 fun e => ?_), h2, h3⟩
  rw [← e] at h3; exact h3 q
theorem own_st3 {v0 v1 v2 : Value} {s3 : Slot} {x : Int32} (h : One s3) (e0 : v0.category = 1 := by rfl) (e1 : v1.category = 1 := by rfl) (e2 : v2.category = 1 := by rfl) : storeLocals #[.val v0, .val v1, .val v2, s3] 3 (.int x) = some #[.val v0, .val v1, .val v2, .val (.int x)] := by
  rcases h with rfl | ⟨w, rfl, hw⟩
  · cases v2 <;> first | rfl | (simp [Value.category] at e2)
  · cases v2 <;> cases w <;> first | rfl | (simp [Value.category] at e2 hw)
set_option maxRecDepth 65536 in
set_option maxHeartbeats 40000000 in
theorem nwloop {l : Launch} {Z : State} {a0 : Array Value} (hw : ∀ d ∈ tables_1, d.before a0 Z = true) {p : Program} {e : Env} {s : State} {m : MethodId} {args : Array Value} {below : List Frame} {meth : Method} {c : Code} {Q : Option Value → Vm → Heap → List Loc → Prop} {ms : List Addr} {h0 : Heap} {n0 nb : Nat} (O0 : Old Z n0 h0) (hb0 : n0 ≤ nb) (hnb : nb ≤ h0.size) (t1 : Addr) (k1 : ClassId) (b1 : List Int32) (wi wa : Addr) (ka : ClassId) (S_I : Sta Z Z.heap "java/lang/CharacterDataLatin1" "instance" "Ljava/lang/CharacterDataLatin1;" (.ref wi)) (E_I : Exa Z Z.heap wi "java/lang/CharacterDataLatin1") (S_A : Sta Z Z.heap "java/lang/CharacterDataLatin1" "A" "[I" (.ref wa)) (V_A : Arv Z Z.heap wa ka .int 256 (tabA.map Value.int) (.int 0)) (hn : b1.length ≤ 1000) (V1 : Arv Z h0 t1 k1 .byte (Int32.ofNat b1.length) (b1.map Value.int) (.int 0))
    (hQ : ∀ vm L (r : Nat), r < b1.length → Fr nb L → Q (some (.int (Int32.ofNat r))) vm h0 L) :
    ∀ (r i : Nat), i + r = b1.length → (∃ j, i ≤ j ∧ j < b1.length ∧ ¬ spV (chV b1 (Int32.ofNat j))) → ∀ (b T : State) (locs : List Loc) (s3 : Slot), One s3 → Cx Z p b m meth c "java/lang/StringLatin1" jdk_43_method_37_code 4 "indexOfNonWhitespace" (some .int) → Stand p l e ({ frames := 2, cells := 0, slots := 0, locals := 40 } : Room) b m args below meth c T locs 0 0 → T.heap = h0 → Fr nb locs → Hd Z ms b.vm h0 → Bs s b h0 →
      Go p e s below 0 0 (Hd Z ms) Q T (mkF m 5 #[.val (.ref t1), .val (.int (Int32.ofNat b1.length)), .val (.int (Int32.ofNat i)), s3] []) := by
  intro r
  induction r with
  | zero =>
    intro i hi hj
    exfalso
    obtain ⟨j, h1, h2, -⟩ := hj
    omega
  | succ r ih =>
    intro i hi hj b T locs s3 one3 Cc X eT N0 J0 B0
    obtain ⟨hx, hZ, hown, hby, hml, hnm, hret, hlk⟩ := id Cc
    have K0 := Keep.refl h0 []
    show Go p e s below _ _ _ _ T (mkF m 5 #[.val (.ref t1), .val (.int (Int32.ofNat b1.length)), .val (.int (Int32.ofNat i)), s3] [])
    refine Go.of (fun _ hr => XS.iloadN X.here hx rfl (hb hby d19_5) rfl  hr) ?_
    show Go p e s below _ _ _ _ T (mkF m 6 #[.val (.ref t1), .val (.int (Int32.ofNat b1.length)), .val (.int (Int32.ofNat i)), s3] [(.int (Int32.ofNat i))])
    refine Go.of (fun _ hr => XS.iloadN X.here hx rfl (hb hby d19_6) rfl  hr) ?_
    show Go p e s below _ _ _ _ T (mkF m 7 #[.val (.ref t1), .val (.int (Int32.ofNat b1.length)), .val (.int (Int32.ofNat i)), s3] [(.int (Int32.ofNat b1.length)), (.int (Int32.ofNat i))])
    refine Go.of (fun _ hr => XS.icmpNo X.here hx rfl (hb hby d19_7) rfl (tlt (oi_lt (by omega) (by omega) (by omega))).2.1 hr) ?_
    show Go p e s below _ _ _ _ T (mkF m 10 #[.val (.ref t1), .val (.int (Int32.ofNat b1.length)), .val (.int (Int32.ofNat i)), s3] [])
    refine Go.of (fun _ hr => XS.aloadN X.here hx rfl (hb hby d19_10) rfl rfl hr) ?_
    show Go p e s below _ _ _ _ T (mkF m 11 #[.val (.ref t1), .val (.int (Int32.ofNat b1.length)), .val (.int (Int32.ofNat i)), s3] [(.ref t1)])
    refine Go.of (fun _ hr => XS.iloadN X.here hx rfl (hb hby d19_11) rfl  hr) ?_
    show Go p e s below _ _ _ _ T (mkF m 12 #[.val (.ref t1), .val (.int (Int32.ofNat b1.length)), .val (.int (Int32.ofNat i)), s3] [(.int (Int32.ofNat i)), (.ref t1)])
    obtain ⟨_, b101, T101, h101, L101, e101, Cc101, X101, B101, J101, g101, hQ101, st101⟩ := own_callS Cc B0 J0 X (hw _ (List.mem_of_getElem? (i := 93) rfl)) (hw _ (List.mem_of_getElem? (i := 94) rfl)) (hw _ (List.mem_of_getElem? (i := 91) rfl)) (hw _ (List.mem_of_getElem? (i := 95) rfl)) (by decide) (rm20 l Z a0 hw [] t1 _ b1 (Int32.ofNat i) _ h0 n0 O0 h0.size (own_ole O0) K0.1 V1 (oi_nn (by omega)) (oi_lt (by omega) (by omega) (by omega))) eT (g := (mkF m 12 #[.val (.ref t1), .val (.int (Int32.ofNat b1.length)), .val (.int (Int32.ofNat i)), s3] [(.int (Int32.ofNat i)), (.ref t1)])) rfl (by rw [hml]; rfl) (argsL := [(.ref t1), (.int (Int32.ofNat i))]) (rest := []) (lenOf pd8 rfl) rfl (W := 0) (by show 2 * 0 + _ ≤ _; exact Nat.le_of_eq rfl) (hb hby d19_12) (by decide) (by decide) (by decide) (by decide)
    obtain ⟨rfl, Nq101, hh101⟩ := hQ101
    have N101 := Fr.app N0 (show Fr nb _ from fun y hy => Nat.le_trans hnb (Nq101 y hy))
    have NS101 := Fr.app (Fr.nil _) Nq101
    obtain ⟨hx, hZ, hown, hby, hml, hnm, hret, hlk⟩ := id Cc101
    rw [hh101] at e101 B101 J101
    refine Go.of st101 ?_
    show Go p e s below _ _ _ _ T101 (mkF m 15 #[.val (.ref t1), .val (.int (Int32.ofNat b1.length)), .val (.int (Int32.ofNat i)), s3] [(.int (chV b1 (Int32.ofNat i)))])
    refine Go.of (fun _ hr => XS.istoreN X101.here hx rfl (hb hby d19_15) rfl (l' := #[.val (.ref t1), .val (.int (Int32.ofNat b1.length)), .val (.int (Int32.ofNat i)), .val (.int (chV b1 (Int32.ofNat i)))]) (own_st3 one3) hr) ?_
    show Go p e s below _ _ _ _ T101 (mkF m 16 #[.val (.ref t1), .val (.int (Int32.ofNat b1.length)), .val (.int (Int32.ofNat i)), .val (.int (chV b1 (Int32.ofNat i)))] [])
    refine Go.of (fun _ hr => XS.iloadN X101.here hx rfl (hb hby d19_16) rfl  hr) ?_
    show Go p e s below _ _ _ _ T101 (mkF m 17 #[.val (.ref t1), .val (.int (Int32.ofNat b1.length)), .val (.int (Int32.ofNat i)), .val (.int (chV b1 (Int32.ofNat i)))] [(.int (chV b1 (Int32.ofNat i)))])
    refine Go.of (fun _ hr => XS.bipush X101.here hx rfl (hb hby d19_17) hr) ?_
    show Go p e s below _ _ _ _ T101 (mkF m 19 #[.val (.ref t1), .val (.int (Int32.ofNat b1.length)), .val (.int (Int32.ofNat i)), .val (.int (chV b1 (Int32.ofNat i)))] [(.int (32 : Int32)), (.int (chV b1 (Int32.ofNat i)))])
    by_cases hb19_102 : (chV b1 (Int32.ofNat i)) = (32 : Int32)
    · refine Go.of (fun _ hr => XS.icmpYes X101.here hx rfl (pc0 := 19) (pc' := 41) rfl (hb hby d19_19) rfl (teq hb19_102).1 (by decide) (by decide) hr) ?_
      show Go p e s below _ _ _ _ T101 (mkF m 41 #[.val (.ref t1), .val (.int (Int32.ofNat b1.length)), .val (.int (Int32.ofNat i)), .val (.int (chV b1 (Int32.ofNat i)))] [])
      refine Go.of (fun _ hr => XS.iinc X101.here hx rfl (hb hby d19_41) rfl (l' := #[.val (.ref t1), .val (.int (Int32.ofNat b1.length)), .val (.int ((Int32.ofNat i) + (1 : Int32))), .val (.int (chV b1 (Int32.ofNat i)))]) rfl hr) ?_
      show Go p e s below _ _ _ _ T101 (mkF m 44 #[.val (.ref t1), .val (.int (Int32.ofNat b1.length)), .val (.int ((Int32.ofNat i) + (1 : Int32))), .val (.int (chV b1 (Int32.ofNat i)))] [])
      refine Go.of (fun _ hr => XS.goto X101.here hx rfl (pc0 := 44) (pc' := 5) rfl (hb hby d19_44) (by decide) (by decide) hr) ?_
      show Go p e s below _ _ _ _ T101 (mkF m 5 #[.val (.ref t1), .val (.int (Int32.ofNat b1.length)), .val (.int ((Int32.ofNat i) + (1 : Int32))), .val (.int (chV b1 (Int32.ofNat i)))] [])
      simp only [oi_succ (show i + 1 < 2147483648 by omega)]
      exact ih (i + 1) (by omega) (nw_step hj (Or.inl hb19_102)) _ _ _ _ (One.val rfl) Cc101 X101 e101 N101 J101 B101
    · refine Go.of (fun _ hr => XS.icmpNo X101.here hx rfl (hb hby d19_19) rfl (feq hb19_102).1 hr) ?_
      show Go p e s below _ _ _ _ T101 (mkF m 22 #[.val (.ref t1), .val (.int (Int32.ofNat b1.length)), .val (.int (Int32.ofNat i)), .val (.int (chV b1 (Int32.ofNat i)))] [])
      refine Go.of (fun _ hr => XS.iloadN X101.here hx rfl (hb hby d19_22) rfl  hr) ?_
      show Go p e s below _ _ _ _ T101 (mkF m 23 #[.val (.ref t1), .val (.int (Int32.ofNat b1.length)), .val (.int (Int32.ofNat i)), .val (.int (chV b1 (Int32.ofNat i)))] [(.int (chV b1 (Int32.ofNat i)))])
      refine Go.of (fun _ hr => XS.bipush X101.here hx rfl (hb hby d19_23) hr) ?_
      show Go p e s below _ _ _ _ T101 (mkF m 25 #[.val (.ref t1), .val (.int (Int32.ofNat b1.length)), .val (.int (Int32.ofNat i)), .val (.int (chV b1 (Int32.ofNat i)))] [(.int (9 : Int32)), (.int (chV b1 (Int32.ofNat i)))])
      by_cases hb25_103 : (chV b1 (Int32.ofNat i)) = (9 : Int32)
      · refine Go.of (fun _ hr => XS.icmpYes X101.here hx rfl (pc0 := 25) (pc' := 41) rfl (hb hby d19_25) rfl (teq hb25_103).1 (by decide) (by decide) hr) ?_
        show Go p e s below _ _ _ _ T101 (mkF m 41 #[.val (.ref t1), .val (.int (Int32.ofNat b1.length)), .val (.int (Int32.ofNat i)), .val (.int (chV b1 (Int32.ofNat i)))] [])
        refine Go.of (fun _ hr => XS.iinc X101.here hx rfl (hb hby d19_41) rfl (l' := #[.val (.ref t1), .val (.int (Int32.ofNat b1.length)), .val (.int ((Int32.ofNat i) + (1 : Int32))), .val (.int (chV b1 (Int32.ofNat i)))]) rfl hr) ?_
        show Go p e s below _ _ _ _ T101 (mkF m 44 #[.val (.ref t1), .val (.int (Int32.ofNat b1.length)), .val (.int ((Int32.ofNat i) + (1 : Int32))), .val (.int (chV b1 (Int32.ofNat i)))] [])
        refine Go.of (fun _ hr => XS.goto X101.here hx rfl (pc0 := 44) (pc' := 5) rfl (hb hby d19_44) (by decide) (by decide) hr) ?_
        show Go p e s below _ _ _ _ T101 (mkF m 5 #[.val (.ref t1), .val (.int (Int32.ofNat b1.length)), .val (.int ((Int32.ofNat i) + (1 : Int32))), .val (.int (chV b1 (Int32.ofNat i)))] [])
        simp only [oi_succ (show i + 1 < 2147483648 by omega)]
        exact ih (i + 1) (by omega) (nw_step hj (Or.inr (Or.inl hb25_103))) _ _ _ _ (One.val rfl) Cc101 X101 e101 N101 J101 B101
      · refine Go.of (fun _ hr => XS.icmpNo X101.here hx rfl (hb hby d19_25) rfl (feq hb25_103).1 hr) ?_
        show Go p e s below _ _ _ _ T101 (mkF m 28 #[.val (.ref t1), .val (.int (Int32.ofNat b1.length)), .val (.int (Int32.ofNat i)), .val (.int (chV b1 (Int32.ofNat i)))] [])
        obtain ⟨T104, X104, e104, st104⟩ := getS2 X101 hx hZ hown (host := "") (Or.inl (hw _ (List.mem_of_getElem? (i := 96) rfl))) Via.refl e101 (S_I.ext O0.2) (g := (mkF m 28 #[.val (.ref t1), .val (.int (Int32.ofNat b1.length)), .val (.int (Int32.ofNat i)), .val (.int (chV b1 (Int32.ofNat i)))] [])) rfl (hb hby d19_28)
        refine Go.of (fun _ hr => st104 _ hr) ?_
        show Go p e s below _ _ _ _ T104 (mkF m 31 #[.val (.ref t1), .val (.int (Int32.ofNat b1.length)), .val (.int (Int32.ofNat i)), .val (.int (chV b1 (Int32.ofNat i)))] [(.ref wi)])
        refine Go.of (fun _ hr => XS.iloadN X104.here hx rfl (hb hby d19_31) rfl  hr) ?_
        show Go p e s below _ _ _ _ T104 (mkF m 32 #[.val (.ref t1), .val (.int (Int32.ofNat b1.length)), .val (.int (Int32.ofNat i)), .val (.int (chV b1 (Int32.ofNat i)))] [(.int (chV b1 (Int32.ofNat i))), (.ref wi)])
        obtain ⟨_, b105, T105, h105, L105, e105, Cc105, X105, B105, J105, g105, hQ105, st105⟩ := own_callV Cc101 B101 J101 X104 (hw _ (List.mem_of_getElem? (i := 98) rfl)) (hw _ (List.mem_of_getElem? (i := 99) rfl)) (notFace_of_selects (args := #[]) (mvT hZ (hw _ (List.mem_of_getElem? (i := 101) rfl)))) (hw _ (List.mem_of_getElem? (i := 101) rfl)) (hw _ (List.mem_of_getElem? (i := 100) rfl)) (hw _ (List.mem_of_getElem? (i := 97) rfl)) (hw _ (List.mem_of_getElem? (i := 102) rfl)) (by decide) (E_I.ext O0.2) (rm21 l Z a0 hw [] (chV b1 (Int32.ofNat i)) _ h0 n0 O0 h0.size (own_ole O0) K0.1 wi wa ka S_I E_I S_A V_A (chV_rng ..)) e104 (g := (mkF m 32 #[.val (.ref t1), .val (.int (Int32.ofNat b1.length)), .val (.int (Int32.ofNat i)), .val (.int (chV b1 (Int32.ofNat i)))] [(.int (chV b1 (Int32.ofNat i))), (.ref wi)])) rfl (by rw [hml]; rfl) (argsL := [(.int (chV b1 (Int32.ofNat i)))]) (rest := []) (lenOf pd21 rfl) rfl (W := 0) (by show 2 * 0 + _ ≤ _; exact Nat.le_of_eq rfl) (hb hby d19_32) (by decide) (by decide) (by decide) (by decide)
        obtain ⟨rfl, Nq105, hh105⟩ := hQ105
        have N105 := Fr.app N101 (show Fr nb _ from fun y hy => Nat.le_trans hnb (Nq105 y hy))
        have NS105 := Fr.app NS101 Nq105
        obtain ⟨hx, hZ, hown, hby, hml, hnm, hret, hlk⟩ := id Cc105
        rw [hh105] at e105 B105 J105
        refine Go.of st105 ?_
        show Go p e s below _ _ _ _ T105 (mkF m 35 #[.val (.ref t1), .val (.int (Int32.ofNat b1.length)), .val (.int (Int32.ofNat i)), .val (.int (chV b1 (Int32.ofNat i)))] [(.int (wtV (chV b1 (Int32.ofNat i))))])
        by_cases hb35_106 : (wtV (chV b1 (Int32.ofNat i))) = (0 : Int32)
        · refine Go.of (fun _ hr => XS.ifNo X105.here hx rfl (hb hby d19_35) rfl ((if0 _ _).trans (teq hb35_106).2) hr) ?_
          show Go p e s below _ _ _ _ T105 (mkF m 38 #[.val (.ref t1), .val (.int (Int32.ofNat b1.length)), .val (.int (Int32.ofNat i)), .val (.int (chV b1 (Int32.ofNat i)))] [])
          refine Go.of (fun _ hr => XS.goto X105.here hx rfl (pc0 := 38) (pc' := 47) rfl (hb hby d19_38) (by decide) (by decide) hr) ?_
          show Go p e s below _ _ _ _ T105 (mkF m 47 #[.val (.ref t1), .val (.int (Int32.ofNat b1.length)), .val (.int (Int32.ofNat i)), .val (.int (chV b1 (Int32.ofNat i)))] [])
          refine Go.of (fun _ hr => XS.iloadN X105.here hx rfl (hb hby d19_47) rfl  hr) ?_
          show Go p e s below _ _ _ _ T105 (mkF m 48 #[.val (.ref t1), .val (.int (Int32.ofNat b1.length)), .val (.int (Int32.ofNat i)), .val (.int (chV b1 (Int32.ofNat i)))] [(.int (Int32.ofNat i))])
          exact Go.retI X105 hx hlk B105 J105 e105 hret (hb hby d19_48) (by decide) (by decide) (fun vm_ hw_ => hQ _ _ i (by omega) N105)
        · refine Go.of (fun _ hr => XS.ifYes X105.here hx rfl (pc0 := 35) (pc' := 41) rfl (hb hby d19_35) rfl ((if0 _ _).trans (feq hb35_106).2) (by decide) (by decide) hr) ?_
          show Go p e s below _ _ _ _ T105 (mkF m 41 #[.val (.ref t1), .val (.int (Int32.ofNat b1.length)), .val (.int (Int32.ofNat i)), .val (.int (chV b1 (Int32.ofNat i)))] [])
          refine Go.of (fun _ hr => XS.iinc X105.here hx rfl (hb hby d19_41) rfl (l' := #[.val (.ref t1), .val (.int (Int32.ofNat b1.length)), .val (.int ((Int32.ofNat i) + (1 : Int32))), .val (.int (chV b1 (Int32.ofNat i)))]) rfl hr) ?_
          show Go p e s below _ _ _ _ T105 (mkF m 44 #[.val (.ref t1), .val (.int (Int32.ofNat b1.length)), .val (.int ((Int32.ofNat i) + (1 : Int32))), .val (.int (chV b1 (Int32.ofNat i)))] [])
          refine Go.of (fun _ hr => XS.goto X105.here hx rfl (pc0 := 44) (pc' := 5) rfl (hb hby d19_44) (by decide) (by decide) hr) ?_
          show Go p e s below _ _ _ _ T105 (mkF m 5 #[.val (.ref t1), .val (.int (Int32.ofNat b1.length)), .val (.int ((Int32.ofNat i) + (1 : Int32))), .val (.int (chV b1 (Int32.ofNat i)))] [])
          simp only [oi_succ (show i + 1 < 2147483648 by omega)]
          exact ih (i + 1) (by omega) (nw_step hj (Or.inr (Or.inr (wt1 hb35_106)))) _ _ _ _ (One.val rfl) Cc105 X105 e105 N105 J105 B105

theorem d19_0 : decode jdk_43_method_37_code 0 = .ok (.aload_n 0, 1) := by decide +kernel
theorem d19_1 : decode jdk_43_method_37_code 1 = .ok (.arraylength, 1) := by decide +kernel
theorem d19_2 : decode jdk_43_method_37_code 2 = .ok (.istore_n 1, 1) := by decide +kernel
theorem d19_3 : decode jdk_43_method_37_code 3 = .ok (.iconst 0, 1) := by decide +kernel
theorem d19_4 : decode jdk_43_method_37_code 4 = .ok (.istore_n 2, 1) := by decide +kernel
set_option maxRecDepth 65536 in
set_option maxHeartbeats 40000000 in
theorem rm19 (l : Launch) (Z : State) (a0 : Array Value) (hw : ∀ d ∈ tables_1, d.before a0 Z = true) (ws : List Jvm.Cond) (t1 : Addr) (k1 : ClassId) (b1 : List Int32) (ms : List Addr) (h0 : Heap) (n0 : Nat) (O0 : Old Z n0 h0) (nb : Nat) (hb0 : n0 ≤ nb) (hnb : nb ≤ h0.size) (wi wa : Addr) (ka : ClassId) (S_I : Sta Z Z.heap "java/lang/CharacterDataLatin1" "instance" "Ljava/lang/CharacterDataLatin1;" (.ref wi)) (E_I : Exa Z Z.heap wi "java/lang/CharacterDataLatin1") (S_A : Sta Z Z.heap "java/lang/CharacterDataLatin1" "A" "[I" (.ref wa)) (V_A : Arv Z Z.heap wa ka .int 256 (tabA.map Value.int) (.int 0)) (V1 : Arv Z h0 t1 k1 .byte (Int32.ofNat b1.length) (b1.map Value.int) (.int 0)) (hn : b1.length ≤ 1000) (hnk : ∃ j, j < b1.length ∧ ¬ spV (chV b1 (Int32.ofNat j))) :
    Con l Z ms (⟨"java/lang/StringLatin1", "indexOfNonWhitespace", "([B)I"⟩ : MethodName) jdk_43_method_37_code 4 (some .int) ws ({ frames := 2, cells := 0, slots := 0, locals := 40 } : Room) #[(.ref t1)] h0 (fun v vm h L => ∃ r : Nat, r < b1.length ∧ v = some (.int (Int32.ofNat r)) ∧ Fr nb L ∧ h = h0) := by
  refine Con.mk (plainFor_of_name pn3) ?_
  intro p e s m below meth c s₁ Cc X0 e0 eb J0 B0 M0
  obtain ⟨hx, hZ, hown, hby, hml, hnm, hret, hlk⟩ := id Cc
  have N0 := Fr.nil h0.size
  have K0 := Keep.refl h0 []
  show Go p e s below _ _ _ _ s₁ (mkF m 0 #[.val (.ref t1), .unset, .unset, .unset] [])
  refine Go.of (fun _ hr => XS.aloadN X0.here hx rfl (hb hby d19_0) rfl rfl hr) ?_
  show Go p e s below _ _ _ _ s₁ (mkF m 1 #[.val (.ref t1), .unset, .unset, .unset] [(.ref t1)])
  obtain ⟨cl101, Ar101, q101, S101, N101_, H101, G101⟩ := id V1
  refine Go.of (fun _ hr => X0.arraylength hx (by rw [e0]; exact Ar101.1) (State.isArrayOf_alike hZ.alike Ar101.2.1) (g := (mkF m 1 #[.val (.ref t1), .unset, .unset, .unset] [(.ref t1)])) rfl rfl (hb hby d19_1) _ hr) ?_
  rw [len_of S101 N101_]
  show Go p e s below _ _ _ _ s₁ (mkF m 2 #[.val (.ref t1), .unset, .unset, .unset] [(.int (Int32.ofNat b1.length))])
  refine Go.of (fun _ hr => XS.istoreN X0.here hx rfl (hb hby d19_2) rfl (l' := #[.val (.ref t1), .val (.int (Int32.ofNat b1.length)), .unset, .unset]) rfl hr) ?_
  show Go p e s below _ _ _ _ s₁ (mkF m 3 #[.val (.ref t1), .val (.int (Int32.ofNat b1.length)), .unset, .unset] [])
  refine Go.of (fun _ hr => XS.iconst X0.here hx rfl (hb hby d19_3) hr) ?_
  show Go p e s below _ _ _ _ s₁ (mkF m 4 #[.val (.ref t1), .val (.int (Int32.ofNat b1.length)), .unset, .unset] [(.int (0 : Int32))])
  refine Go.of (fun _ hr => XS.istoreN X0.here hx rfl (hb hby d19_4) rfl (l' := #[.val (.ref t1), .val (.int (Int32.ofNat b1.length)), .val (.int (0 : Int32)), .unset]) rfl hr) ?_
  show Go p e s below _ _ _ _ s₁ (mkF m 5 #[.val (.ref t1), .val (.int (Int32.ofNat b1.length)), .val (.int (0 : Int32)), .unset] [])
  exact nwloop hw O0 hb0 hnb t1 k1 b1 wi wa ka S_I E_I S_A V_A hn V1 (fun vm L r q1 q2 => ⟨r, q1, rfl, q2, rfl⟩) b1.length 0 (Nat.zero_add _) (by obtain ⟨j, q1, q2⟩ := hnk; exact ⟨j, Nat.zero_le _, q1, q2⟩) _ _ _ _ One.u Cc X0 e0 (fun y hy => Nat.le_trans hnb (N0 y hy)) J0 B0

theorem d17_0 : decode jdk_42_method_120_code 0 = .ok (.aload_n 0, 1) := by decide +kernel
theorem d17_1 : decode jdk_42_method_120_code 1 = .ok (.invokevirtual 492, 3) := by decide +kernel
theorem d17_4 : decode jdk_42_method_120_code 4 = .ok (.ifCond .eq 13, 3) := by decide +kernel
theorem d17_7 : decode jdk_42_method_120_code 7 = .ok (.aload_n 0, 1) := by decide +kernel
theorem d17_8 : decode jdk_42_method_120_code 8 = .ok (.getfield 9, 3) := by decide +kernel
theorem d17_11 : decode jdk_42_method_120_code 11 = .ok (.invokestatic 924, 3) := by decide +kernel
theorem pd22 : parseMethodDescriptor "([B)I" = some ⟨[(.array .byte)], some .int⟩ := by decide +kernel
theorem d17_14 : decode jdk_42_method_120_code 14 = .ok (.goto 10, 3) := by decide +kernel
theorem d17_24 : decode jdk_42_method_120_code 24 = .ok (.ireturn, 1) := by decide +kernel
set_option maxRecDepth 65536 in
set_option maxHeartbeats 40000000 in
theorem rm17 (l : Launch) (Z : State) (a0 : Array Value) (hw : ∀ d ∈ tables_1, d.before a0 Z = true) (ws : List Jvm.Cond) (s1 t1 : Addr) (k1 : ClassId) (b1 : List Int32) (zc : Int32) (ms : List Addr) (h0 : Heap) (n0 : Nat) (O0 : Old Z n0 h0) (nb : Nat) (hb0 : n0 ≤ nb) (hnb : nb ≤ h0.size) (wi wa : Addr) (ka : ClassId) (S_I : Sta Z Z.heap "java/lang/CharacterDataLatin1" "instance" "Ljava/lang/CharacterDataLatin1;" (.ref wi)) (E_I : Exa Z Z.heap wi "java/lang/CharacterDataLatin1") (S_A : Sta Z Z.heap "java/lang/CharacterDataLatin1" "A" "[I" (.ref wa)) (V_A : Arv Z Z.heap wa ka .int 256 (tabA.map Value.int) (.int 0)) (Es1 : Exa Z h0 s1 "java/lang/String") (Fv1 : Fld Z h0 s1 "java/lang/String" "value" "[B" (.ref t1)) (Fc1 : Fld Z h0 s1 "java/lang/String" "coder" "B" (.int 0)) (V1 : Arv Z h0 t1 k1 .byte (Int32.ofNat b1.length) (b1.map Value.int) (.int 0)) (hn1 : b1.length ≤ 1000) (hnk : ∃ j, j < b1.length ∧ ¬ spV (chV b1 (Int32.ofNat j))) (S_C : Sta Z Z.heap "java/lang/String" "COMPACT_STRINGS" "Z" (.int zc)) (hzc : ¬ zc = 0) :
    Con l Z ms (⟨"java/lang/String", "indexOfNonWhitespace", "()I"⟩ : MethodName) jdk_42_method_120_code 1 (some .int) ws ({ frames := 3, cells := 0, slots := 0, locals := 55 } : Room) #[(.ref s1)] h0 (fun v vm h L => ∃ r : Nat, r < b1.length ∧ v = some (.int (Int32.ofNat r)) ∧ Fr nb L ∧ h = h0) := by
  refine Con.mk (plainFor_of_name pn1) ?_
  intro p e s m below meth c s₁ Cc X0 e0 eb J0 B0 M0
  obtain ⟨hx, hZ, hown, hby, hml, hnm, hret, hlk⟩ := id Cc
  have N0 := Fr.nil h0.size
  have K0 := Keep.refl h0 []
  show Go p e s below _ _ _ _ s₁ (mkF m 0 #[.val (.ref s1)] [])
  refine Go.of (fun _ hr => XS.aloadN X0.here hx rfl (hb hby d17_0) rfl rfl hr) ?_
  show Go p e s below _ _ _ _ s₁ (mkF m 1 #[.val (.ref s1)] [(.ref s1)])
  obtain ⟨_, b101, T101, h101, L101, e101, Cc101, X101, B101, J101, g101, hQ101, st101⟩ := own_callV Cc B0 J0 X0 (hw _ (List.mem_of_getElem? (i := 84) rfl)) (hw _ (List.mem_of_getElem? (i := 85) rfl)) (notFace_of_selects (args := #[]) (mvT hZ (hw _ (List.mem_of_getElem? (i := 87) rfl)))) (hw _ (List.mem_of_getElem? (i := 87) rfl)) (hw _ (List.mem_of_getElem? (i := 86) rfl)) (hw _ (List.mem_of_getElem? (i := 18) rfl)) (hw _ (List.mem_of_getElem? (i := 88) rfl)) (by decide) Es1 (rm18 l Z a0 hw [] s1 zc _ h0 n0 O0 h0.size (own_ole O0) K0.1 Fc1 S_C hzc) e0 (g := (mkF m 1 #[.val (.ref s1)] [(.ref s1)])) rfl (by rw [hml]; rfl) (argsL := []) (rest := []) (lenOf pd7 rfl) rfl (W := 0) (by show 2 * 0 + _ ≤ _; exact Nat.le_of_eq rfl) (hb hby d17_1) (by decide) (by decide) (by decide) (by decide)
  obtain ⟨rfl, Nq101, hh101⟩ := hQ101
  have N101 := Fr.app N0 Nq101
  obtain ⟨hx, hZ, hown, hby, hml, hnm, hret, hlk⟩ := id Cc101
  rw [hh101] at e101 B101 J101
  refine Go.of st101 ?_
  show Go p e s below _ _ _ _ T101 (mkF m 4 #[.val (.ref s1)] [(.int (1 : Int32))])
  refine Go.of (fun _ hr => XS.ifNo X101.here hx rfl (hb hby d17_4) rfl ((if0 _ _).trans (feq (by decide : ¬ ((1 : Int32) = (0 : Int32)))).1) hr) ?_
  show Go p e s below _ _ _ _ T101 (mkF m 7 #[.val (.ref s1)] [])
  refine Go.of (fun _ hr => XS.aloadN X101.here hx rfl (hb hby d17_7) rfl rfl hr) ?_
  show Go p e s below _ _ _ _ T101 (mkF m 8 #[.val (.ref s1)] [(.ref s1)])
  obtain ⟨T102, X102, e102, st102⟩ := getF X101 hx hZ hown (host := "") (Or.inl (hw _ (List.mem_of_getElem? (i := 44) rfl))) Via.refl e101 Fv1 (g := (mkF m 8 #[.val (.ref s1)] [(.ref s1)])) rfl rfl (hb hby d17_8)
  refine Go.of (fun _ hr => st102 _ hr) ?_
  show Go p e s below _ _ _ _ T102 (mkF m 11 #[.val (.ref s1)] [(.ref t1)])
  obtain ⟨_, b103, T103, h103, L103, e103, Cc103, X103, B103, J103, g103, hQ103, st103⟩ := own_callS Cc101 B101 J101 X102 (hw _ (List.mem_of_getElem? (i := 89) rfl)) (hw _ (List.mem_of_getElem? (i := 90) rfl)) (hw _ (List.mem_of_getElem? (i := 91) rfl)) (hw _ (List.mem_of_getElem? (i := 92) rfl)) (by decide) (rm19 l Z a0 hw [] t1 _ b1 _ h0 n0 O0 h0.size (own_ole O0) K0.1 wi wa ka S_I E_I S_A V_A V1 hn1 hnk) e102 (g := (mkF m 11 #[.val (.ref s1)] [(.ref t1)])) rfl (by rw [hml]; rfl) (argsL := [(.ref t1)]) (rest := []) (lenOf pd22 rfl) rfl (W := 0) (by show 2 * 0 + _ ≤ _; exact Nat.le_of_eq rfl) (hb hby d17_11) (by decide) (by decide) (by decide) (by decide)
  obtain ⟨r103, rl103, rfl, Nq103, hh103⟩ := hQ103
  have N103 := Fr.app N101 Nq103
  obtain ⟨hx, hZ, hown, hby, hml, hnm, hret, hlk⟩ := id Cc103
  rw [hh103] at e103 B103 J103
  refine Go.of st103 ?_
  show Go p e s below _ _ _ _ T103 (mkF m 14 #[.val (.ref s1)] [(.int (Int32.ofNat r103))])
  refine Go.of (fun _ hr => XS.goto X103.here hx rfl (pc0 := 14) (pc' := 24) rfl (hb hby d17_14) (by decide) (by decide) hr) ?_
  show Go p e s below _ _ _ _ T103 (mkF m 24 #[.val (.ref s1)] [(.int (Int32.ofNat r103))])
  exact Go.retI X103 hx hlk B103 J103 e103 hret (hb hby d17_24) (by decide) (by decide) (fun vm_ hw_ => ⟨r103, rl103, rfl, (fun y hy => Nat.le_trans hnb (N103 y hy)), rfl⟩)

theorem d16_0 : decode jdk_42_method_117_code 0 = .ok (.aload_n 0, 1) := by decide +kernel
theorem d16_1 : decode jdk_42_method_117_code 1 = .ok (.invokevirtual 876, 3) := by decide +kernel
theorem d16_4 : decode jdk_42_method_117_code 4 = .ok (.aload_n 0, 1) := by decide +kernel
theorem d16_5 : decode jdk_42_method_117_code 5 = .ok (.invokevirtual 505, 3) := by decide +kernel
theorem d16_8 : decode jdk_42_method_117_code 8 = .ok (.if_icmp .ne 7, 3) := by decide +kernel
theorem d16_15 : decode jdk_42_method_117_code 15 = .ok (.iconst 0, 1) := by decide +kernel
theorem d16_16 : decode jdk_42_method_117_code 16 = .ok (.ireturn, 1) := by decide +kernel
set_option maxRecDepth 65536 in
set_option maxHeartbeats 40000000 in
theorem rm16 (l : Launch) (Z : State) (a0 : Array Value) (hw : ∀ d ∈ tables_1, d.before a0 Z = true) (ws : List Jvm.Cond) (s1 t1 : Addr) (k1 : ClassId) (b1 : List Int32) (zc : Int32) (ms : List Addr) (h0 : Heap) (n0 : Nat) (O0 : Old Z n0 h0) (nb : Nat) (hb0 : n0 ≤ nb) (hnb : nb ≤ h0.size) (wi wa : Addr) (ka : ClassId) (S_I : Sta Z Z.heap "java/lang/CharacterDataLatin1" "instance" "Ljava/lang/CharacterDataLatin1;" (.ref wi)) (E_I : Exa Z Z.heap wi "java/lang/CharacterDataLatin1") (S_A : Sta Z Z.heap "java/lang/CharacterDataLatin1" "A" "[I" (.ref wa)) (V_A : Arv Z Z.heap wa ka .int 256 (tabA.map Value.int) (.int 0)) (Es1 : Exa Z h0 s1 "java/lang/String") (Fv1 : Fld Z h0 s1 "java/lang/String" "value" "[B" (.ref t1)) (Fc1 : Fld Z h0 s1 "java/lang/String" "coder" "B" (.int 0)) (V1 : Arv Z h0 t1 k1 .byte (Int32.ofNat b1.length) (b1.map Value.int) (.int 0)) (hn1 : b1.length ≤ 1000) (hnk : ∃ j, j < b1.length ∧ ¬ spV (chV b1 (Int32.ofNat j))) (S_C : Sta Z Z.heap "java/lang/String" "COMPACT_STRINGS" "Z" (.int zc)) (hzc : ¬ zc = 0) :
    Con l Z ms (⟨"java/lang/String", "isBlank", "()Z"⟩ : MethodName) jdk_42_method_117_code 1 (some .boolean) ws ({ frames := 4, cells := 0, slots := 0, locals := 67 } : Room) #[(.ref s1)] h0 (fun v vm h L => v = some (.int 0) ∧ Fr nb L ∧ h = h0) := by
  refine Con.mk (plainFor_of_name pn1) ?_
  intro p e s m below meth c s₁ Cc X0 e0 eb J0 B0 M0
  obtain ⟨hx, hZ, hown, hby, hml, hnm, hret, hlk⟩ := id Cc
  have N0 := Fr.nil h0.size
  have K0 := Keep.refl h0 []
  show Go p e s below _ _ _ _ s₁ (mkF m 0 #[.val (.ref s1)] [])
  refine Go.of (fun _ hr => XS.aloadN X0.here hx rfl (hb hby d16_0) rfl rfl hr) ?_
  show Go p e s below _ _ _ _ s₁ (mkF m 1 #[.val (.ref s1)] [(.ref s1)])
  obtain ⟨_, b101, T101, h101, L101, e101, Cc101, X101, B101, J101, g101, hQ101, st101⟩ := own_callR Cc B0 J0 X0 (y := (⟨"java/lang/String", "indexOfNonWhitespace", "()I"⟩ : MethodName)) (hw _ (List.mem_of_getElem? (i := 79) rfl)) (hw _ (List.mem_of_getElem? (i := 80) rfl)) (hw _ (List.mem_of_getElem? (i := 82) rfl)) (hw _ (List.mem_of_getElem? (i := 81) rfl)) (hw _ (List.mem_of_getElem? (i := 18) rfl)) (hw _ (List.mem_of_getElem? (i := 83) rfl)) (by decide) Es1 (rm17 l Z a0 hw [] s1 t1 _ b1 zc _ h0 n0 O0 h0.size (own_ole O0) K0.1 wi wa ka S_I E_I S_A V_A Es1 Fv1 Fc1 V1 hn1 hnk S_C hzc) e0 (g := (mkF m 1 #[.val (.ref s1)] [(.ref s1)])) rfl (by rw [hml]; rfl) (argsL := []) (rest := []) (lenOf pd12 rfl) rfl (W := 0) (by show 2 * 0 + _ ≤ _; exact Nat.le_of_eq rfl) (hb hby d16_1) (by decide) (by decide) (by decide) (by decide)
  obtain ⟨r101, rl101, rfl, Nq101, hh101⟩ := hQ101
  have N101 := Fr.app N0 Nq101
  obtain ⟨hx, hZ, hown, hby, hml, hnm, hret, hlk⟩ := id Cc101
  rw [hh101] at e101 B101 J101
  refine Go.of st101 ?_
  show Go p e s below _ _ _ _ T101 (mkF m 4 #[.val (.ref s1)] [(.int (Int32.ofNat r101))])
  refine Go.of (fun _ hr => XS.aloadN X101.here hx rfl (hb hby d16_4) rfl rfl hr) ?_
  show Go p e s below _ _ _ _ T101 (mkF m 5 #[.val (.ref s1)] [(.ref s1), (.int (Int32.ofNat r101))])
  obtain ⟨_, b102, T102, h102, L102, e102, Cc102, X102, B102, J102, g102, hQ102, st102⟩ := own_callV Cc101 B101 J101 X101 (hw _ (List.mem_of_getElem? (i := 109) rfl)) (hw _ (List.mem_of_getElem? (i := 110) rfl)) (notFace_of_selects (args := #[]) (mvT hZ (hw _ (List.mem_of_getElem? (i := 112) rfl)))) (hw _ (List.mem_of_getElem? (i := 112) rfl)) (hw _ (List.mem_of_getElem? (i := 111) rfl)) (hw _ (List.mem_of_getElem? (i := 18) rfl)) (hw _ (List.mem_of_getElem? (i := 113) rfl)) (by decide) Es1 (rm23 l Z a0 hw [] s1 t1 _ b1 zc _ h0 n0 O0 h0.size (own_ole O0) K0.1 Es1 Fv1 Fc1 V1 hn1 S_C hzc) e101 (g := (mkF m 5 #[.val (.ref s1)] [(.ref s1), (.int (Int32.ofNat r101))])) rfl (by rw [hml]; rfl) (argsL := []) (rest := [(.int (Int32.ofNat r101))]) (lenOf pd12 rfl) rfl (W := 1) (by show 2 * 0 + _ ≤ _; exact Nat.le_of_eq rfl) (hb hby d16_5) (by decide) (by decide) (by decide) (by decide)
  obtain ⟨rfl, Nq102, hh102⟩ := hQ102
  have N102 := Fr.app N101 Nq102
  obtain ⟨hx, hZ, hown, hby, hml, hnm, hret, hlk⟩ := id Cc102
  rw [hh102] at e102 B102 J102
  refine Go.of st102 ?_
  show Go p e s below _ _ _ _ T102 (mkF m 8 #[.val (.ref s1)] [(.int (Int32.ofNat b1.length)), (.int (Int32.ofNat r101))])
  refine Go.of (fun _ hr => XS.icmpYes X102.here hx rfl (pc0 := 8) (pc' := 15) rfl (hb hby d16_8) rfl (feq (fun q => by have := oi_inj (by omega) (by omega) q; omega)).2 (by decide) (by decide) hr) ?_
  show Go p e s below _ _ _ _ T102 (mkF m 15 #[.val (.ref s1)] [])
  refine Go.of (fun _ hr => XS.iconst X102.here hx rfl (hb hby d16_15) hr) ?_
  show Go p e s below _ _ _ _ T102 (mkF m 16 #[.val (.ref s1)] [(.int (0 : Int32))])
  exact Go.retN X102 hx hlk B102 J102 e102 (t := .boolean) (z' := (0 : Int32)) hret (by simp) (hb hby d16_16) rfl (by decide) (by decide) (fun vm_ hw_ => ⟨rfl, (fun y hy => Nat.le_trans hnb (N102 y hy)), rfl⟩)

theorem pn8 : plainName "java/util/Objects" = true := by first | (simp [plainName, overriddenIn]; done) | decide +kernel
theorem d15_0 : decode jdk_31_method_16_code 0 = .ok (.aload_n 0, 1) := by decide +kernel
theorem d15_1 : decode jdk_31_method_16_code 1 = .ok (.ifnonnull 28, 3) := by decide +kernel
theorem d15_29 : decode jdk_31_method_16_code 29 = .ok (.aload_n 0, 1) := by decide +kernel
theorem d15_30 : decode jdk_31_method_16_code 30 = .ok (.areturn, 1) := by decide +kernel
set_option maxRecDepth 65536 in
set_option maxHeartbeats 40000000 in
theorem rm15 (l : Launch) (Z : State) (a0 : Array Value) (hw : ∀ d ∈ tables_1, d.before a0 Z = true) (ws : List Jvm.Cond) (a1 a2 : Addr) (ms : List Addr) (h0 : Heap) (n0 : Nat) (O0 : Old Z n0 h0) (nb : Nat) (hb0 : n0 ≤ nb) (hnb : nb ≤ h0.size) :
    Con l Z ms (⟨"java/util/Objects", "requireNonNull", "(Ljava/lang/Object;Ljava/util/function/Supplier;)Ljava/lang/Object;"⟩ : MethodName) jdk_31_method_16_code 2 (some (.object "java/lang/Object")) ws ({ frames := 0, cells := 0, slots := 0, locals := 0 } : Room) #[(.ref a1), (.ref a2)] h0 (fun v vm h L => v = some (.ref a1) ∧ Fr nb L ∧ h = h0) := by
  refine Con.mk (plainFor_of_name pn8) ?_
  intro p e s m below meth c s₁ Cc X0 e0 eb J0 B0 M0
  obtain ⟨hx, hZ, hown, hby, hml, hnm, hret, hlk⟩ := id Cc
  have N0 := Fr.nil h0.size
  have K0 := Keep.refl h0 []
  show Go p e s below _ _ _ _ s₁ (mkF m 0 #[.val (.ref a1), .val (.ref a2)] [])
  refine Go.of (fun _ hr => XS.aloadN X0.here hx rfl (hb hby d15_0) rfl rfl hr) ?_
  show Go p e s below _ _ _ _ s₁ (mkF m 1 #[.val (.ref a1), .val (.ref a2)] [(.ref a1)])
  refine Go.of (fun _ hr => XS.ifnonnullYes X0.here hx rfl (pc0 := 1) (pc' := 29) rfl (hb hby d15_1) rfl (by decide) (by decide) hr) ?_
  show Go p e s below _ _ _ _ s₁ (mkF m 29 #[.val (.ref a1), .val (.ref a2)] [])
  refine Go.of (fun _ hr => XS.aloadN X0.here hx rfl (hb hby d15_29) rfl rfl hr) ?_
  show Go p e s below _ _ _ _ s₁ (mkF m 30 #[.val (.ref a1), .val (.ref a2)] [(.ref a1)])
  exact Go.retA X0 hx hlk B0 J0 e0 hret rfl rfl (hb hby d15_30) (by decide) (by decide) (fun vm_ hw_ => ⟨rfl, (fun y hy => Nat.le_trans hnb (N0 y hy)), rfl⟩)

theorem pn9 : plainName "com/example/grid_job_scheduler/gridjobscheduler/Keys" = true := by first | (simp [plainName, overriddenIn]; done) | decide +kernel
theorem d14_0 : decode prog_21_method_3_code 0 = .ok (.aload_n 2, 1) := by decide +kernel
theorem d14_1 : decode prog_21_method_3_code 1 = .ok (.aload_n 0, 1) := by decide +kernel
theorem d14_2 : decode prog_21_method_3_code 2 = .ok (.aload_n 1, 1) := by decide +kernel
theorem d14_3 : decode prog_21_method_3_code 3 = .ok (.invokedynamic 17, 5) := by decide +kernel
theorem d14_8 : decode prog_21_method_3_code 8 = .ok (.invokestatic 21, 3) := by decide +kernel
theorem pd23 : parseMethodDescriptor "(Ljava/lang/Object;Ljava/util/function/Supplier;)Ljava/lang/Object;" = some ⟨[(.object "java/lang/Object"), (.object "java/util/function/Supplier")], some (.object "java/lang/Object")⟩ := by decide +kernel
theorem d14_11 : decode prog_21_method_3_code 11 = .ok (.pop, 1) := by decide +kernel
theorem d14_12 : decode prog_21_method_3_code 12 = .ok (.aload_n 2, 1) := by decide +kernel
theorem d14_13 : decode prog_21_method_3_code 13 = .ok (.invokevirtual 27, 3) := by decide +kernel
theorem d14_16 : decode prog_21_method_3_code 16 = .ok (.ifCond .eq 39, 3) := by decide +kernel
theorem d14_55 : decode prog_21_method_3_code 55 = .ok (.return_, 1) := by decide +kernel
set_option maxRecDepth 65536 in
set_option maxHeartbeats 40000000 in
theorem rm14 (l : Launch) (Z : State) (a0 : Array Value) (hw : ∀ d ∈ tables_1, d.before a0 Z = true) (ws : List Jvm.Cond) (x1 x2 : Addr) (s1 t1 : Addr) (k1 : ClassId) (b1 : List Int32) (zc : Int32) (ms : List Addr) (h0 : Heap) (n0 : Nat) (O0 : Old Z n0 h0) (nb : Nat) (hb0 : n0 ≤ nb) (hnb : nb ≤ h0.size) (wi wa : Addr) (ka : ClassId) (S_I : Sta Z Z.heap "java/lang/CharacterDataLatin1" "instance" "Ljava/lang/CharacterDataLatin1;" (.ref wi)) (E_I : Exa Z Z.heap wi "java/lang/CharacterDataLatin1") (S_A : Sta Z Z.heap "java/lang/CharacterDataLatin1" "A" "[I" (.ref wa)) (V_A : Arv Z Z.heap wa ka .int 256 (tabA.map Value.int) (.int 0)) (Es1 : Exa Z h0 s1 "java/lang/String") (Fv1 : Fld Z h0 s1 "java/lang/String" "value" "[B" (.ref t1)) (Fc1 : Fld Z h0 s1 "java/lang/String" "coder" "B" (.int 0)) (V1 : Arv Z h0 t1 k1 .byte (Int32.ofNat b1.length) (b1.map Value.int) (.int 0)) (hn1 : b1.length ≤ 1000) (hb1 : ∃ j, j < b1.length ∧ ¬ spV (chV b1 (Int32.ofNat j))) (S_C : Sta Z Z.heap "java/lang/String" "COMPACT_STRINGS" "Z" (.int zc)) (hzc : ¬ zc = 0) :
    Con l Z ms (⟨"com/example/grid_job_scheduler/gridjobscheduler/Keys", "requireNotBlank", "(Ljava/lang/String;Ljava/lang/String;Ljava/lang/String;)V"⟩ : MethodName) prog_21_method_3_code 3 none ws ({ frames := 5, cells := 1, slots := 2, locals := 3080 } : Room) #[(.ref x1), (.ref x2), (.ref s1)] h0 (fun v vm h L => v = none ∧ Fr nb L ∧ Ext h0 h) := by
  refine Con.mk (plainFor_of_name pn9) ?_
  intro p e s m below meth c s₁ Cc X0 e0 eb J0 B0 M0
  obtain ⟨hx, hZ, hown, hby, hml, hnm, hret, hlk⟩ := id Cc
  have N0 := Fr.nil h0.size
  have K0 := Keep.refl h0 []
  show Go p e s below _ _ _ _ s₁ (mkF m 0 #[.val (.ref x1), .val (.ref x2), .val (.ref s1)] [])
  refine Go.of (fun _ hr => XS.aloadN X0.here hx rfl (hb hby d14_0) rfl rfl hr) ?_
  show Go p e s below _ _ _ _ s₁ (mkF m 1 #[.val (.ref x1), .val (.ref x2), .val (.ref s1)] [(.ref s1)])
  refine Go.of (fun _ hr => XS.aloadN X0.here hx rfl (hb hby d14_1) rfl rfl hr) ?_
  show Go p e s below _ _ _ _ s₁ (mkF m 2 #[.val (.ref x1), .val (.ref x2), .val (.ref s1)] [(.ref x1), (.ref s1)])
  refine Go.of (fun _ hr => XS.aloadN X0.here hx rfl (hb hby d14_2) rfl rfl hr) ?_
  show Go p e s below _ _ _ _ s₁ (mkF m 3 #[.val (.ref x1), .val (.ref x2), .val (.ref s1)] [(.ref x2), (.ref x1), (.ref s1)])
  obtain ⟨T101, h101, X101, e101, E101, st101⟩ := own_indy X0 hx hZ M0 (hw _ (List.mem_of_getElem? (i := 66) rfl)) ⟨⟨by decide +kernel, rfl, rfl⟩, rfl⟩ (hw _ (List.mem_of_getElem? (i := 69) rfl)) e0 (g := (mkF m 3 #[.val (.ref x1), .val (.ref x2), .val (.ref s1)] [(.ref x2), (.ref x1), (.ref s1)])) rfl (by rw [hml]; rfl) (hb hby d14_3) (a := x1) (b := x2) (rest := [(.ref s1)]) rfl rfl (Nat.le_of_ble_eq_true rfl) (by decide) (by decide)
  have K101 := K0.ext E101
  have O101 := O0.ext E101
  have J101 := J0.ext E101
  have B101 := B0.mono E101.1
  obtain ⟨o101, g101⟩ : ∃ z, z = h0.size := ⟨_, rfl⟩
  rw [← g101] at st101
  refine Go.of (fun _ hr => st101 _ hr) ?_
  show Go p e s below _ _ _ _ T101 (mkF m 8 #[.val (.ref x1), .val (.ref x2), .val (.ref s1)] [(.ref o101), (.ref s1)])
  obtain ⟨_, b102, T102, h102, L102, e102, Cc102, X102, B102, J102, g102, hQ102, st102⟩ := own_callS Cc B101 J101 X101 (hw _ (List.mem_of_getElem? (i := 70) rfl)) (hw _ (List.mem_of_getElem? (i := 71) rfl)) (hw _ (List.mem_of_getElem? (i := 72) rfl)) (hw _ (List.mem_of_getElem? (i := 73) rfl)) (by decide) (rm15 l Z a0 hw [] s1 o101 _ h101 n0 O101 h0.size (own_ole O0) K101.1) e101 (g := (mkF m 8 #[.val (.ref x1), .val (.ref x2), .val (.ref s1)] [(.ref o101), (.ref s1)])) rfl (by rw [hml]; rfl) (argsL := [(.ref s1), (.ref o101)]) (rest := []) (lenOf pd23 rfl) rfl (W := 0) (by show 2 * 0 + _ ≤ _; exact Nat.le_of_eq rfl) (hb hby d14_8) (by decide) (by decide) (by decide) (by decide)
  obtain ⟨rfl, Nq102, hh102⟩ := hQ102
  have N102 := Fr.app N0 Nq102
  obtain ⟨hx, hZ, hown, hby, hml, hnm, hret, hlk⟩ := id Cc102
  rw [hh102] at e102 B102 J102
  refine Go.of st102 ?_
  show Go p e s below _ _ _ _ T102 (mkF m 11 #[.val (.ref x1), .val (.ref x2), .val (.ref s1)] [(.ref s1)])
  refine Go.of (fun _ hr => XS.pop X102.here hx rfl (hb hby d14_11) rfl rfl hr) ?_
  show Go p e s below _ _ _ _ T102 (mkF m 12 #[.val (.ref x1), .val (.ref x2), .val (.ref s1)] [])
  refine Go.of (fun _ hr => XS.aloadN X102.here hx rfl (hb hby d14_12) rfl rfl hr) ?_
  show Go p e s below _ _ _ _ T102 (mkF m 13 #[.val (.ref x1), .val (.ref x2), .val (.ref s1)] [(.ref s1)])
  have f104 := (Es1.ext E101)
  have f105 := (Fv1.ext E101)
  have f106 := (Fc1.ext E101)
  have f107 := (V1.ext E101)
  obtain ⟨_, b103, T103, h103, L103, e103, Cc103, X103, B103, J103, g103, hQ103, st103⟩ := own_callV Cc102 B102 J102 X102 (hw _ (List.mem_of_getElem? (i := 74) rfl)) (hw _ (List.mem_of_getElem? (i := 75) rfl)) (notFace_of_selects (args := #[]) (mvT hZ (hw _ (List.mem_of_getElem? (i := 77) rfl)))) (hw _ (List.mem_of_getElem? (i := 77) rfl)) (hw _ (List.mem_of_getElem? (i := 76) rfl)) (hw _ (List.mem_of_getElem? (i := 18) rfl)) (hw _ (List.mem_of_getElem? (i := 78) rfl)) (by decide) f104 (rm16 l Z a0 hw [] s1 t1 _ b1 zc _ h101 n0 O101 h0.size (own_ole O0) K101.1 wi wa ka S_I E_I S_A V_A f104 f105 f106 f107 hn1 hb1 S_C hzc) e102 (g := (mkF m 13 #[.val (.ref x1), .val (.ref x2), .val (.ref s1)] [(.ref s1)])) rfl (by rw [hml]; rfl) (argsL := []) (rest := []) (lenOf pd7 rfl) rfl (W := 0) (by show 2 * 0 + _ ≤ _; exact Nat.le_of_eq rfl) (hb hby d14_13) (by decide) (by decide) (by decide) (by decide)
  obtain ⟨rfl, Nq103, hh103⟩ := hQ103
  have N103 := Fr.app N102 Nq103
  obtain ⟨hx, hZ, hown, hby, hml, hnm, hret, hlk⟩ := id Cc103
  rw [hh103] at e103 B103 J103
  refine Go.of st103 ?_
  show Go p e s below _ _ _ _ T103 (mkF m 16 #[.val (.ref x1), .val (.ref x2), .val (.ref s1)] [(.int (0 : Int32))])
  refine Go.of (fun _ hr => XS.ifYes X103.here hx rfl (pc0 := 16) (pc' := 55) rfl (hb hby d14_16) rfl ((if0 _ _).trans (teq (by decide : ((0 : Int32) = (0 : Int32)))).1) (by decide) (by decide) hr) ?_
  show Go p e s below _ _ _ _ T103 (mkF m 55 #[.val (.ref x1), .val (.ref x2), .val (.ref s1)] [])
  exact Go.retV X103 hx hlk B103 J103 e103 hret (hb hby d14_55) (by decide) (by decide) (fun vm_ hw_ => ⟨rfl, (fun y hy => Nat.le_trans hnb (N103 y hy)), keep_ext K101⟩)

theorem d13_0 : decode prog_21_method_2_code 0 = .ok (.aload_n 0, 1) := by decide +kernel
theorem d13_1 : decode prog_21_method_2_code 1 = .ok (.ldc 7, 2) := by decide +kernel
theorem d13_3 : decode prog_21_method_2_code 3 = .ok (.aload_n 1, 1) := by decide +kernel
theorem d13_4 : decode prog_21_method_2_code 4 = .ok (.invokestatic 9, 3) := by decide +kernel
theorem pd24 : parseMethodDescriptor "(Ljava/lang/String;Ljava/lang/String;Ljava/lang/String;)V" = some ⟨[(.object "java/lang/String"), (.object "java/lang/String"), (.object "java/lang/String")], none⟩ := by decide +kernel
theorem d13_7 : decode prog_21_method_2_code 7 = .ok (.aload_n 0, 1) := by decide +kernel
theorem d13_8 : decode prog_21_method_2_code 8 = .ok (.ldc 15, 2) := by decide +kernel
theorem d13_10 : decode prog_21_method_2_code 10 = .ok (.aload_n 2, 1) := by decide +kernel
theorem d13_11 : decode prog_21_method_2_code 11 = .ok (.invokestatic 9, 3) := by decide +kernel
theorem d13_14 : decode prog_21_method_2_code 14 = .ok (.return_, 1) := by decide +kernel
set_option maxRecDepth 65536 in
set_option maxHeartbeats 40000000 in
theorem rm13 (l : Launch) (Z : State) (a0 : Array Value) (hw : ∀ d ∈ tables_1, d.before a0 Z = true) (ws : List Jvm.Cond) (x1 : Addr) (s1 t1 : Addr) (k1 : ClassId) (b1 : List Int32) (s2 t2 : Addr) (k2 : ClassId) (b2 : List Int32) (zc : Int32) (ms : List Addr) (h0 : Heap) (n0 : Nat) (O0 : Old Z n0 h0) (nb : Nat) (hb0 : n0 ≤ nb) (hnb : nb ≤ h0.size) (wi wa : Addr) (ka : ClassId) (S_I : Sta Z Z.heap "java/lang/CharacterDataLatin1" "instance" "Ljava/lang/CharacterDataLatin1;" (.ref wi)) (E_I : Exa Z Z.heap wi "java/lang/CharacterDataLatin1") (S_A : Sta Z Z.heap "java/lang/CharacterDataLatin1" "A" "[I" (.ref wa)) (V_A : Arv Z Z.heap wa ka .int 256 (tabA.map Value.int) (.int 0)) (Es1 : Exa Z h0 s1 "java/lang/String") (Fv1 : Fld Z h0 s1 "java/lang/String" "value" "[B" (.ref t1)) (Fc1 : Fld Z h0 s1 "java/lang/String" "coder" "B" (.int 0)) (V1 : Arv Z h0 t1 k1 .byte (Int32.ofNat b1.length) (b1.map Value.int) (.int 0)) (hn1 : b1.length ≤ 1000) (Es2 : Exa Z h0 s2 "java/lang/String") (Fv2 : Fld Z h0 s2 "java/lang/String" "value" "[B" (.ref t2)) (Fc2 : Fld Z h0 s2 "java/lang/String" "coder" "B" (.int 0)) (V2 : Arv Z h0 t2 k2 .byte (Int32.ofNat b2.length) (b2.map Value.int) (.int 0)) (hn2 : b2.length ≤ 1000) (hb1 : ∃ j, j < b1.length ∧ ¬ spV (chV b1 (Int32.ofNat j))) (hb2 : ∃ j, j < b2.length ∧ ¬ spV (chV b2 (Int32.ofNat j))) (S_C : Sta Z Z.heap "java/lang/String" "COMPACT_STRINGS" "Z" (.int zc)) (hzc : ¬ zc = 0) :
    Con l Z ms (⟨"com/example/grid_job_scheduler/gridjobscheduler/Keys", "requireGroupAndName", "(Ljava/lang/String;Ljava/lang/String;Ljava/lang/String;)V"⟩ : MethodName) prog_21_method_2_code 3 none ws ({ frames := 6, cells := 6, slots := 60, locals := 3094 } : Room) #[(.ref x1), (.ref s1), (.ref s2)] h0 (fun v vm h L => v = none ∧ Fr nb L ∧ Ext h0 h) := by
  refine Con.mk (plainFor_of_name pn9) ?_
  intro p e s m below meth c s₁ Cc X0 e0 eb J0 B0 M0
  obtain ⟨hx, hZ, hown, hby, hml, hnm, hret, hlk⟩ := id Cc
  have N0 := Fr.nil h0.size
  have K0 := Keep.refl h0 []
  show Go p e s below _ _ _ _ s₁ (mkF m 0 #[.val (.ref x1), .val (.ref s1), .val (.ref s2)] [])
  refine Go.of (fun _ hr => XS.aloadN X0.here hx rfl (hb hby d13_0) rfl rfl hr) ?_
  show Go p e s below _ _ _ _ s₁ (mkF m 1 #[.val (.ref x1), .val (.ref s1), .val (.ref s2)] [(.ref x1)])
  obtain ⟨o101, t101, k101, b101, T101, h101, e101, Cc101, X101, B101, J101, E101, Sy101, na101, nt101, lt101, st101⟩ := own_ldcV Cc B0 J0 X0 lit1_in lit1_one (hw _ (List.mem_of_getElem? (i := 62) rfl)) (own_wS Z a0 hw) lit1_lat lit1_len (by rw [eb]; exact N0) (by rw [eb]; exact O0.2) e0 (g := (mkF m 1 #[.val (.ref x1), .val (.ref s1), .val (.ref s2)] [(.ref x1)])) rfl (hb hby d13_1) (n := 20) lit1_sz (by decide) (by decide) (by decide)
  obtain ⟨hx, hZ, hown, hby, hml, hnm, hret, hlk⟩ := id Cc101
  have K101 := K0.ext E101
  have O101 := O0.ext E101
  refine Go.of (fun _ hr => st101 _ hr) ?_
  show Go p e s below _ _ _ _ T101 (mkF m 3 #[.val (.ref x1), .val (.ref s1), .val (.ref s2)] [(.ref o101), (.ref x1)])
  refine Go.of (fun _ hr => XS.aloadN X101.here hx rfl (hb hby d13_3) rfl rfl hr) ?_
  show Go p e s below _ _ _ _ T101 (mkF m 4 #[.val (.ref x1), .val (.ref s1), .val (.ref s2)] [(.ref s1), (.ref o101), (.ref x1)])
  have f103 := (Es1.ext E101)
  have f104 := (Fv1.ext E101)
  have f105 := (Fc1.ext E101)
  have f106 := (V1.ext E101)
  obtain ⟨_, b102, T102, h102, L102, e102, Cc102, X102, B102, J102, g102, hQ102, st102⟩ := own_callS Cc101 B101 J101 X101 (hw _ (List.mem_of_getElem? (i := 63) rfl)) (hw _ (List.mem_of_getElem? (i := 64) rfl)) (hw _ (List.mem_of_getElem? (i := 60) rfl)) (hw _ (List.mem_of_getElem? (i := 65) rfl)) (by decide) (rm14 l Z a0 hw [] x1 o101 s1 t1 _ b1 zc _ h101 n0 O101 h0.size (own_ole O0) K101.1 wi wa ka S_I E_I S_A V_A f103 f104 f105 f106 hn1 hb1 S_C hzc) e101 (g := (mkF m 4 #[.val (.ref x1), .val (.ref s1), .val (.ref s2)] [(.ref s1), (.ref o101), (.ref x1)])) rfl (by rw [hml]; rfl) (argsL := [(.ref x1), (.ref o101), (.ref s1)]) (rest := []) (lenOf pd24 rfl) rfl (W := 0) (by show 2 * 0 + _ ≤ _; exact Nat.le_of_eq rfl) (hb hby d13_4) (by decide) (by decide) (by decide) (by decide)
  obtain ⟨rfl, Nq102, Eq102⟩ := hQ102
  have N102 := Fr.app N0 Nq102
  obtain ⟨hx, hZ, hown, hby, hml, hnm, hret, hlk⟩ := id Cc102
  have K102 := K101.ext Eq102
  have O102 := O101.ext Eq102
  refine Go.of st102 ?_
  show Go p e s below _ _ _ _ T102 (mkF m 7 #[.val (.ref x1), .val (.ref s1), .val (.ref s2)] [])
  refine Go.of (fun _ hr => XS.aloadN X102.here hx rfl (hb hby d13_7) rfl rfl hr) ?_
  show Go p e s below _ _ _ _ T102 (mkF m 8 #[.val (.ref x1), .val (.ref s1), .val (.ref s2)] [(.ref x1)])
  obtain ⟨o107, t107, k107, b107, T107, h107, e107, Cc107, X107, B107, J107, E107, Sy107, na107, nt107, lt107, st107⟩ := own_ldcV Cc102 B102 J102 X102 lit2_in lit2_one (hw _ (List.mem_of_getElem? (i := 119) rfl)) (own_wS Z a0 hw) lit2_lat lit2_len (by rw [eb]; exact N102) (by rw [eb]; exact O0.2) e102 (g := (mkF m 8 #[.val (.ref x1), .val (.ref s1), .val (.ref s2)] [(.ref x1)])) rfl (hb hby d13_8) (n := 16) lit2_sz (by decide) (by decide) (by decide)
  obtain ⟨hx, hZ, hown, hby, hml, hnm, hret, hlk⟩ := id Cc107
  have K107 := K102.ext E107
  have O107 := O102.ext E107
  refine Go.of (fun _ hr => st107 _ hr) ?_
  show Go p e s below _ _ _ _ T107 (mkF m 10 #[.val (.ref x1), .val (.ref s1), .val (.ref s2)] [(.ref o107), (.ref x1)])
  refine Go.of (fun _ hr => XS.aloadN X107.here hx rfl (hb hby d13_10) rfl rfl hr) ?_
  show Go p e s below _ _ _ _ T107 (mkF m 11 #[.val (.ref x1), .val (.ref s1), .val (.ref s2)] [(.ref s2), (.ref o107), (.ref x1)])
  have f109 := (((Es2.ext E101).ext Eq102).ext E107)
  have f110 := (((Fv2.ext E101).ext Eq102).ext E107)
  have f111 := (((Fc2.ext E101).ext Eq102).ext E107)
  have f112 := (((V2.ext E101).ext Eq102).ext E107)
  obtain ⟨_, b108, T108, h108, L108, e108, Cc108, X108, B108, J108, g108, hQ108, st108⟩ := own_callS Cc107 B107 J107 X107 (hw _ (List.mem_of_getElem? (i := 63) rfl)) (hw _ (List.mem_of_getElem? (i := 64) rfl)) (hw _ (List.mem_of_getElem? (i := 60) rfl)) (hw _ (List.mem_of_getElem? (i := 65) rfl)) (by decide) (rm14 l Z a0 hw [] x1 o107 s2 t2 _ b2 zc _ h107 n0 O107 h0.size (own_ole O0) K107.1 wi wa ka S_I E_I S_A V_A f109 f110 f111 f112 hn2 hb2 S_C hzc) e107 (g := (mkF m 11 #[.val (.ref x1), .val (.ref s1), .val (.ref s2)] [(.ref s2), (.ref o107), (.ref x1)])) rfl (by rw [hml]; rfl) (argsL := [(.ref x1), (.ref o107), (.ref s2)]) (rest := []) (lenOf pd24 rfl) rfl (W := 0) (by show 2 * 0 + _ ≤ _; exact Nat.le_of_eq rfl) (hb hby d13_11) (by decide) (by decide) (by decide) (by decide)
  obtain ⟨rfl, Nq108, Eq108⟩ := hQ108
  have N108 := Fr.app N102 Nq108
  obtain ⟨hx, hZ, hown, hby, hml, hnm, hret, hlk⟩ := id Cc108
  have K108 := K107.ext Eq108
  have O108 := O107.ext Eq108
  refine Go.of st108 ?_
  show Go p e s below _ _ _ _ T108 (mkF m 14 #[.val (.ref x1), .val (.ref s1), .val (.ref s2)] [])
  exact Go.retV X108 hx hlk B108 J108 e108 hret (hb hby d13_14) (by decide) (by decide) (fun vm_ hw_ => ⟨rfl, (fun y hy => Nat.le_trans hnb (N108 y hy)), keep_ext K108⟩)

theorem pn10 : plainName "java/lang/Record" = true := by first | (simp [plainName, overriddenIn]; done) | decide +kernel
theorem d12_0 : decode jdk_30_method_1_code 0 = .ok (.aload_n 0, 1) := by decide +kernel
theorem d12_1 : decode jdk_30_method_1_code 1 = .ok (.invokespecial 1, 3) := by decide +kernel
theorem d12_4 : decode jdk_30_method_1_code 4 = .ok (.return_, 1) := by decide +kernel
set_option maxRecDepth 65536 in
set_option maxHeartbeats 40000000 in
theorem rm12 (l : Launch) (Z : State) (a0 : Array Value) (hw : ∀ d ∈ tables_1, d.before a0 Z = true) (ws : List Jvm.Cond) (a1 : Addr) (ms : List Addr) (h0 : Heap) (n0 : Nat) (O0 : Old Z n0 h0) (nb : Nat) (hb0 : n0 ≤ nb) (hnb : nb ≤ h0.size) :
    Con l Z ms (⟨"java/lang/Record", "<init>", "()V"⟩ : MethodName) jdk_30_method_1_code 1 none ws ({ frames := 1, cells := 0, slots := 0, locals := 12 } : Room) #[(.ref a1)] h0 (fun v vm h L => v = none ∧ Fr nb L ∧ h = h0) := by
  refine Con.mk (plainFor_of_name pn10) ?_
  intro p e s m below meth c s₁ Cc X0 e0 eb J0 B0 M0
  obtain ⟨hx, hZ, hown, hby, hml, hnm, hret, hlk⟩ := id Cc
  have N0 := Fr.nil h0.size
  have K0 := Keep.refl h0 []
  show Go p e s below _ _ _ _ s₁ (mkF m 0 #[.val (.ref a1)] [])
  refine Go.of (fun _ hr => XS.aloadN X0.here hx rfl (hb hby d12_0) rfl rfl hr) ?_
  show Go p e s below _ _ _ _ s₁ (mkF m 1 #[.val (.ref a1)] [(.ref a1)])
  obtain ⟨T101, X101, e101, st101⟩ := initO X0 hx hZ hown (hw _ (List.mem_of_getElem? (i := 54) rfl)) (hw _ (List.mem_of_getElem? (i := 28) rfl)) (hw _ (List.mem_of_getElem? (i := 29) rfl)) e0 (g := (mkF m 1 #[.val (.ref a1)] [(.ref a1)])) rfl (by rw [hml]; rfl) rfl (hb hby d12_1) (by decide) (W := 0) (by show 2 * 0 + _ ≤ _; exact Nat.le_of_eq rfl) (by decide)
  refine Go.of (fun _ hr => st101 _ hr) ?_
  show Go p e s below _ _ _ _ T101 (mkF m 4 #[.val (.ref a1)] [])
  exact Go.retV X101 hx hlk B0 J0 e101 hret (hb hby d12_4) (by decide) (by decide) (fun vm_ hw_ => ⟨rfl, (fun y hy => Nat.le_trans hnb (N0 y hy)), rfl⟩)

theorem pn11 : plainName "com/example/grid_job_scheduler/gridjobscheduler/JobKey" = true := by first | (simp [plainName, overriddenIn]; done) | decide +kernel
theorem d11_0 : decode prog_16_method_1_code 0 = .ok (.aload_n 0, 1) := by decide +kernel
theorem d11_1 : decode prog_16_method_1_code 1 = .ok (.invokespecial 3, 3) := by decide +kernel
theorem pd25 : parseMethodDescriptor "()V" = some ⟨[], none⟩ := by decide +kernel
theorem d11_4 : decode prog_16_method_1_code 4 = .ok (.ldc 9, 2) := by decide +kernel
theorem d11_6 : decode prog_16_method_1_code 6 = .ok (.aload_n 1, 1) := by decide +kernel
theorem d11_7 : decode prog_16_method_1_code 7 = .ok (.aload_n 2, 1) := by decide +kernel
theorem d11_8 : decode prog_16_method_1_code 8 = .ok (.invokestatic 11, 3) := by decide +kernel
theorem d11_11 : decode prog_16_method_1_code 11 = .ok (.aload_n 0, 1) := by decide +kernel
theorem d11_12 : decode prog_16_method_1_code 12 = .ok (.aload_n 1, 1) := by decide +kernel
theorem d11_13 : decode prog_16_method_1_code 13 = .ok (.putfield 15, 3) := by decide +kernel
theorem d11_16 : decode prog_16_method_1_code 16 = .ok (.aload_n 0, 1) := by decide +kernel
theorem d11_17 : decode prog_16_method_1_code 17 = .ok (.aload_n 2, 1) := by decide +kernel
theorem d11_18 : decode prog_16_method_1_code 18 = .ok (.putfield 21, 3) := by decide +kernel
theorem d11_21 : decode prog_16_method_1_code 21 = .ok (.return_, 1) := by decide +kernel
set_option maxRecDepth 65536 in
set_option maxHeartbeats 40000000 in
theorem rm11 (l : Launch) (Z : State) (a0 : Array Value) (hw : ∀ d ∈ tables_1, d.before a0 Z = true) (ws : List Jvm.Cond) (a1 : Addr) (u1 u2 : Value) (s1 t1 : Addr) (k1 : ClassId) (b1 : List Int32) (s2 t2 : Addr) (k2 : ClassId) (b2 : List Int32) (zc : Int32) (ms : List Addr) (h0 : Heap) (n0 : Nat) (O0 : Old Z n0 h0) (nb : Nat) (hb0 : n0 ≤ nb) (hnb : nb ≤ h0.size) (fr_a1 : nb ≤ a1) (hm_a1 : a1 ∈ ms) (wi wa : Addr) (ka : ClassId) (S_I : Sta Z Z.heap "java/lang/CharacterDataLatin1" "instance" "Ljava/lang/CharacterDataLatin1;" (.ref wi)) (E_I : Exa Z Z.heap wi "java/lang/CharacterDataLatin1") (S_A : Sta Z Z.heap "java/lang/CharacterDataLatin1" "A" "[I" (.ref wa)) (V_A : Arv Z Z.heap wa ka .int 256 (tabA.map Value.int) (.int 0)) (E1 : Exa Z h0 a1 "com/example/grid_job_scheduler/gridjobscheduler/JobKey") (F1 : Fld Z h0 a1 "com/example/grid_job_scheduler/gridjobscheduler/JobKey" "group" "Ljava/lang/String;" u1) (F2 : Fld Z h0 a1 "com/example/grid_job_scheduler/gridjobscheduler/JobKey" "name" "Ljava/lang/String;" u2) (Es1 : Exa Z h0 s1 "java/lang/String") (Fv1 : Fld Z h0 s1 "java/lang/String" "value" "[B" (.ref t1)) (Fc1 : Fld Z h0 s1 "java/lang/String" "coder" "B" (.int 0)) (V1 : Arv Z h0 t1 k1 .byte (Int32.ofNat b1.length) (b1.map Value.int) (.int 0)) (hn1 : b1.length ≤ 1000) (Es2 : Exa Z h0 s2 "java/lang/String") (Fv2 : Fld Z h0 s2 "java/lang/String" "value" "[B" (.ref t2)) (Fc2 : Fld Z h0 s2 "java/lang/String" "coder" "B" (.int 0)) (V2 : Arv Z h0 t2 k2 .byte (Int32.ofNat b2.length) (b2.map Value.int) (.int 0)) (hn2 : b2.length ≤ 1000) (hb1 : ∃ j, j < b1.length ∧ ¬ spV (chV b1 (Int32.ofNat j))) (hb2 : ∃ j, j < b2.length ∧ ¬ spV (chV b2 (Int32.ofNat j))) (S_C : Sta Z Z.heap "java/lang/String" "COMPACT_STRINGS" "Z" (.int zc)) (hzc : ¬ zc = 0) :
    Con l Z ms (⟨"com/example/grid_job_scheduler/gridjobscheduler/JobKey", "<init>", "(Ljava/lang/String;Ljava/lang/String;)V"⟩ : MethodName) prog_16_method_1_code 3 none ws ({ frames := 7, cells := 8, slots := 92, locals := 3108 } : Room) #[(.ref a1), (.ref s1), (.ref s2)] h0 (fun v vm h L => v = none ∧ Fr nb L ∧ Keep h0 h [a1] ∧ Fld Z h a1 "com/example/grid_job_scheduler/gridjobscheduler/JobKey" "group" "Ljava/lang/String;" (.ref s1) ∧ Fld Z h a1 "com/example/grid_job_scheduler/gridjobscheduler/JobKey" "name" "Ljava/lang/String;" (.ref s2)) := by
  refine Con.mk (plainFor_of_name pn11) ?_
  intro p e s m below meth c s₁ Cc X0 e0 eb J0 B0 M0
  obtain ⟨hx, hZ, hown, hby, hml, hnm, hret, hlk⟩ := id Cc
  have N0 := Fr.nil nb
  have K0 := Keep.refl h0 [a1]
  show Go p e s below _ _ _ _ s₁ (mkF m 0 #[.val (.ref a1), .val (.ref s1), .val (.ref s2)] [])
  refine Go.of (fun _ hr => XS.aloadN X0.here hx rfl (hb hby d11_0) rfl rfl hr) ?_
  show Go p e s below _ _ _ _ s₁ (mkF m 1 #[.val (.ref a1), .val (.ref s1), .val (.ref s2)] [(.ref a1)])
  obtain ⟨_, b101, T101, h101, L101, e101, Cc101, X101, B101, J101, g101, hQ101, st101⟩ := own_callI Cc B0 J0 X0 rfl (hw _ (List.mem_of_getElem? (i := 49) rfl)) (hw _ (List.mem_of_getElem? (i := 50) rfl)) (hw _ (List.mem_of_getElem? (i := 52) rfl)) (hw _ (List.mem_of_getElem? (i := 53) rfl)) (by decide) (rm12 l Z a0 hw [] a1 _ h0 n0 O0 h0.size (own_ole O0) K0.1) e0 (g := (mkF m 1 #[.val (.ref a1), .val (.ref s1), .val (.ref s2)] [(.ref a1)])) rfl (by rw [hml]; rfl) (argsL := []) (rest := []) (lenOf pd25 rfl) rfl (W := 0) (by show 2 * 0 + _ ≤ _; exact Nat.le_of_eq rfl) (hb hby d11_1) (by decide) (by decide) (by decide) (by decide)
  obtain ⟨rfl, Nq101, hh101⟩ := hQ101
  have N101 := Fr.app N0 (show Fr nb _ from fun y hy => Nat.le_trans hnb (Nq101 y hy))
  have NS101 := Fr.app (Fr.nil _) Nq101
  obtain ⟨hx, hZ, hown, hby, hml, hnm, hret, hlk⟩ := id Cc101
  rw [hh101] at e101 B101 J101
  refine Go.of st101 ?_
  show Go p e s below _ _ _ _ T101 (mkF m 4 #[.val (.ref a1), .val (.ref s1), .val (.ref s2)] [])
  obtain ⟨o102, t102, k102, b102, T102, h102, e102, Cc102, X102, B102, J102, E102, Sy102, na102, nt102, lt102, st102⟩ := own_ldcV Cc101 B101 J101 X101 lit0_in lit0_one (hw _ (List.mem_of_getElem? (i := 55) rfl)) (own_wS Z a0 hw) lit0_lat lit0_len (by rw [eb]; exact NS101) (by rw [eb]; exact O0.2) e101 (g := (mkF m 4 #[.val (.ref a1), .val (.ref s1), .val (.ref s2)] [])) rfl (hb hby d11_4) (n := 28) lit0_sz (by decide) (by decide) (by decide)
  obtain ⟨hx, hZ, hown, hby, hml, hnm, hret, hlk⟩ := id Cc102
  have K102 := K0.ext E102
  have O102 := O0.ext E102
  have nx_o102_a1 : o102 ≠ a1 := fun q => na102 (by rw [q]; exact hm_a1)
  have nx_t102_a1 : t102 ≠ a1 := fun q => nt102 (by rw [q]; exact hm_a1)
  refine Go.of (fun _ hr => st102 _ hr) ?_
  show Go p e s below _ _ _ _ T102 (mkF m 6 #[.val (.ref a1), .val (.ref s1), .val (.ref s2)] [(.ref o102)])
  refine Go.of (fun _ hr => XS.aloadN X102.here hx rfl (hb hby d11_6) rfl rfl hr) ?_
  show Go p e s below _ _ _ _ T102 (mkF m 7 #[.val (.ref a1), .val (.ref s1), .val (.ref s2)] [(.ref s1), (.ref o102)])
  refine Go.of (fun _ hr => XS.aloadN X102.here hx rfl (hb hby d11_7) rfl rfl hr) ?_
  show Go p e s below _ _ _ _ T102 (mkF m 8 #[.val (.ref a1), .val (.ref s1), .val (.ref s2)] [(.ref s2), (.ref s1), (.ref o102)])
  have f104 := (Es1.ext E102)
  have f105 := (Fv1.ext E102)
  have f106 := (Fc1.ext E102)
  have f107 := (V1.ext E102)
  have f108 := (Es2.ext E102)
  have f109 := (Fv2.ext E102)
  have f110 := (Fc2.ext E102)
  have f111 := (V2.ext E102)
  obtain ⟨_, b103, T103, h103, L103, e103, Cc103, X103, B103, J103, g103, hQ103, st103⟩ := own_callS Cc102 B102 J102 X102 (hw _ (List.mem_of_getElem? (i := 58) rfl)) (hw _ (List.mem_of_getElem? (i := 59) rfl)) (hw _ (List.mem_of_getElem? (i := 60) rfl)) (hw _ (List.mem_of_getElem? (i := 61) rfl)) (by decide) (rm13 l Z a0 hw [] o102 s1 t1 _ b1 s2 t2 _ b2 zc _ h102 n0 O102 h0.size (own_ole O0) K102.1 wi wa ka S_I E_I S_A V_A f104 f105 f106 f107 hn1 f108 f109 f110 f111 hn2 hb1 hb2 S_C hzc) e102 (g := (mkF m 8 #[.val (.ref a1), .val (.ref s1), .val (.ref s2)] [(.ref s2), (.ref s1), (.ref o102)])) rfl (by rw [hml]; rfl) (argsL := [(.ref o102), (.ref s1), (.ref s2)]) (rest := []) (lenOf pd24 rfl) rfl (W := 0) (by show 2 * 0 + _ ≤ _; exact Nat.le_of_eq rfl) (hb hby d11_8) (by decide) (by decide) (by decide) (by decide)
  obtain ⟨rfl, Nq103, Eq103⟩ := hQ103
  have N103 := Fr.app N101 (show Fr nb _ from fun y hy => Nat.le_trans hnb (Nq103 y hy))
  have NS103 := Fr.app NS101 Nq103
  obtain ⟨hx, hZ, hown, hby, hml, hnm, hret, hlk⟩ := id Cc103
  have K103 := K102.ext Eq103
  have O103 := O102.ext Eq103
  refine Go.of st103 ?_
  show Go p e s below _ _ _ _ T103 (mkF m 11 #[.val (.ref a1), .val (.ref s1), .val (.ref s2)] [])
  refine Go.of (fun _ hr => XS.aloadN X103.here hx rfl (hb hby d11_11) rfl rfl hr) ?_
  show Go p e s below _ _ _ _ T103 (mkF m 12 #[.val (.ref a1), .val (.ref s1), .val (.ref s2)] [(.ref a1)])
  refine Go.of (fun _ hr => XS.aloadN X103.here hx rfl (hb hby d11_12) rfl rfl hr) ?_
  show Go p e s below _ _ _ _ T103 (mkF m 13 #[.val (.ref a1), .val (.ref s1), .val (.ref s2)] [(.ref s1), (.ref a1)])
  have f113 := ((F1.ext E102).ext Eq103)
  have f114 := ((E1.ext E102).ext Eq103)
  obtain ⟨T112, h112, X112, e112, W112, st112⟩ := putF X103 hx hZ hown (host := "") (Or.inl (hw _ (List.mem_of_getElem? (i := 120) rfl))) Via.refl e103 f113 f114 (Or.inr ⟨(hw _ (List.mem_of_getElem? (i := 121) rfl)), rfl, hnm⟩) (hw _ (List.mem_of_getElem? (i := 11) rfl)) (ty := (.object "java/lang/String")) (by decide) rfl rfl (g := (mkF m 13 #[.val (.ref a1), .val (.ref s1), .val (.ref s2)] [(.ref s1), (.ref a1)])) rfl rfl (hb hby d11_13)
  have N112 := Fr.snoc X112 N103 fr_a1
  have J112 := J103.wr W112 hm_a1
  have B112 := B103.mono (Nat.le_of_eq W112.size.symm)
  have O112 := O103.wr W112 (Nat.le_trans hb0 fr_a1)
  have K112 := K103.wr W112 (Or.inl (List.mem_of_getElem? (i := 0) rfl))
  have Fw112 := f113.same W112
  refine Go.of (fun _ hr => st112 _ hr) ?_
  show Go p e s below _ _ _ _ T112 (mkF m 16 #[.val (.ref a1), .val (.ref s1), .val (.ref s2)] [])
  refine Go.of (fun _ hr => XS.aloadN X112.here hx rfl (hb hby d11_16) rfl rfl hr) ?_
  show Go p e s below _ _ _ _ T112 (mkF m 17 #[.val (.ref a1), .val (.ref s1), .val (.ref s2)] [(.ref a1)])
  refine Go.of (fun _ hr => XS.aloadN X112.here hx rfl (hb hby d11_17) rfl rfl hr) ?_
  show Go p e s below _ _ _ _ T112 (mkF m 18 #[.val (.ref a1), .val (.ref s1), .val (.ref s2)] [(.ref s2), (.ref a1)])
  have f116 := (((F2.ext E102).ext Eq103).other W112 (Or.inr (slot_ne (Or.inr (hw _ (List.mem_of_getElem? (i := 123) rfl))) (Or.inr (hw _ (List.mem_of_getElem? (i := 121) rfl))) (by decide) (t := (.object "java/lang/String")) (t' := (.object "java/lang/String")) (by decide) (by decide))))
  have f117 := (f114.wr W112)
  obtain ⟨T115, h115, X115, e115, W115, st115⟩ := putF X112 hx hZ hown (host := "") (Or.inl (hw _ (List.mem_of_getElem? (i := 122) rfl))) Via.refl e112 f116 f117 (Or.inr ⟨(hw _ (List.mem_of_getElem? (i := 123) rfl)), rfl, hnm⟩) (hw _ (List.mem_of_getElem? (i := 11) rfl)) (ty := (.object "java/lang/String")) (by decide) rfl rfl (g := (mkF m 18 #[.val (.ref a1), .val (.ref s1), .val (.ref s2)] [(.ref s2), (.ref a1)])) rfl rfl (hb hby d11_18)
  have N115 := Fr.snoc X115 N112 fr_a1
  have J115 := J112.wr W115 hm_a1
  have B115 := B112.mono (Nat.le_of_eq W115.size.symm)
  have O115 := O112.wr W115 (Nat.le_trans hb0 fr_a1)
  have K115 := K112.wr W115 (Or.inl (List.mem_of_getElem? (i := 0) rfl))
  have Fw115 := f116.same W115
  refine Go.of (fun _ hr => st115 _ hr) ?_
  show Go p e s below _ _ _ _ T115 (mkF m 21 #[.val (.ref a1), .val (.ref s1), .val (.ref s2)] [])
  have f118 := (Fw112.other W115 (Or.inr (slot_ne (Or.inr (hw _ (List.mem_of_getElem? (i := 121) rfl))) (Or.inr (hw _ (List.mem_of_getElem? (i := 123) rfl))) (by decide) (t := (.object "java/lang/String")) (t' := (.object "java/lang/String")) (by decide) (by decide))))
  exact Go.retV X115 hx hlk B115 J115 e115 hret (hb hby d11_21) (by decide) (by decide) (fun vm_ hw_ => ⟨rfl, N115, K115, f118, Fw115⟩)

theorem litI_dot : (litI ".").length = 1 := by decide +kernel
theorem litI_dotv : litI "." = [46] := by decide +kernel

theorem d26_0 : decode prog_21_method_4_code 0 = .ok (.new 35, 3) := by decide +kernel
theorem d26_3 : decode prog_21_method_4_code 3 = .ok (.dup, 1) := by decide +kernel
theorem d26_4 : decode prog_21_method_4_code 4 = .ok (.invokespecial 37, 3) := by decide +kernel
theorem d26_7 : decode prog_21_method_4_code 7 = .ok (.aload_n 0, 1) := by decide +kernel
theorem d26_8 : decode prog_21_method_4_code 8 = .ok (.invokevirtual 38, 3) := by decide +kernel
theorem pd26 : parseMethodDescriptor "(Ljava/lang/String;)Ljava/lang/StringBuilder;" = some ⟨[(.object "java/lang/String")], some (.object "java/lang/StringBuilder")⟩ := by decide +kernel
theorem d26_11 : decode prog_21_method_4_code 11 = .ok (.ldc 53, 2) := by decide +kernel
theorem d26_13 : decode prog_21_method_4_code 13 = .ok (.invokevirtual 38, 3) := by decide +kernel
theorem d26_16 : decode prog_21_method_4_code 16 = .ok (.aload_n 1, 1) := by decide +kernel
theorem d26_17 : decode prog_21_method_4_code 17 = .ok (.invokevirtual 38, 3) := by decide +kernel
theorem d26_20 : decode prog_21_method_4_code 20 = .ok (.invokevirtual 46, 3) := by decide +kernel
theorem pd27 : parseMethodDescriptor "()Ljava/lang/String;" = some ⟨[], some (.object "java/lang/String")⟩ := by decide +kernel
theorem d26_23 : decode prog_21_method_4_code 23 = .ok (.areturn, 1) := by decide +kernel
set_option maxRecDepth 65536 in
set_option maxHeartbeats 40000000 in
theorem rm26 (l : Launch) (Z : State) (a0 : Array Value) (hw : ∀ d ∈ tables_1, d.before a0 Z = true) (ws : List Jvm.Cond) (s1 t1 : Addr) (k1 : ClassId) (b1 : List Int32) (s2 t2 : Addr) (k2 : ClassId) (b2 : List Int32) (zc : Int32) (ms : List Addr) (h0 : Heap) (n0 : Nat) (O0 : Old Z n0 h0) (nb : Nat) (hb0 : n0 ≤ nb) (hnb : nb ≤ h0.size) (Es1 : Exa Z h0 s1 "java/lang/String") (Fv1 : Fld Z h0 s1 "java/lang/String" "value" "[B" (.ref t1)) (Fc1 : Fld Z h0 s1 "java/lang/String" "coder" "B" (.int 0)) (V1 : Arv Z h0 t1 k1 .byte (Int32.ofNat b1.length) (b1.map Value.int) (.int 0)) (hn1 : b1.length ≤ 1000) (Es2 : Exa Z h0 s2 "java/lang/String") (Fv2 : Fld Z h0 s2 "java/lang/String" "value" "[B" (.ref t2)) (Fc2 : Fld Z h0 s2 "java/lang/String" "coder" "B" (.int 0)) (V2 : Arv Z h0 t2 k2 .byte (Int32.ofNat b2.length) (b2.map Value.int) (.int 0)) (hn2 : b2.length ≤ 1000) (hl8 : b1.length + b2.length ≤ 8) (S_C : Sta Z Z.heap "java/lang/String" "COMPACT_STRINGS" "Z" (.int zc)) (hzc : ¬ zc = 0) :
    Con l Z ms (⟨"com/example/grid_job_scheduler/gridjobscheduler/Keys", "toString", "(Ljava/lang/String;Ljava/lang/String;)Ljava/lang/String;"⟩ : MethodName) prog_21_method_4_code 2 (some (.object "java/lang/String")) ws ({ frames := 6, cells := 6, slots := 48, locals := 113 } : Room) #[(.ref s1), (.ref s2)] h0 (fun v vm h L => ∃ r t k, v = some (.ref r) ∧ Fr nb L ∧ Ext h0 h ∧ h0.size ≤ r ∧ h0.size ≤ t ∧ Exa Z h r "java/lang/String" ∧ Fld Z h r "java/lang/String" "value" "[B" (.ref t) ∧ Fld Z h r "java/lang/String" "coder" "B" (.int 0) ∧ Arv Z h t k .byte (Int32.ofNat (b1 ++ litI "." ++ b2).length) ((b1 ++ litI "." ++ b2).map Value.int) (.int 0)) := by
  refine Con.mk (plainFor_of_name pn9) ?_
  intro p e s m below meth c s₁ Cc X0 e0 eb J0 B0 M0
  obtain ⟨hx, hZ, hown, hby, hml, hnm, hret, hlk⟩ := id Cc
  have N0 := Fr.nil h0.size
  have K0 := Keep.refl h0 []
  show Go p e s below _ _ _ _ s₁ (mkF m 0 #[.val (.ref s1), .val (.ref s2)] [])
  obtain ⟨T101, h101, X101, e101, E101, A101, D101, -, st101⟩ := newO X0 hx hZ hown (hw _ (List.mem_of_getElem? (i := 132) rfl)) (hw _ (List.mem_of_getElem? (i := 133) rfl)) (hw _ (List.mem_of_getElem? (i := 134) rfl)) e0 (g := (mkF m 0 #[.val (.ref s1), .val (.ref s2)] [])) rfl (hb hby d26_0) (by decide) (by decide)
  obtain ⟨o101, g101⟩ : ∃ z, z = h0.size := ⟨_, rfl⟩
  rw [← g101] at A101 D101 st101
  have ne_s1_o101 : s1 ≠ o101 := Nat.ne_of_lt (Nat.lt_of_lt_of_le Es1.lt (Nat.le_of_eq g101.symm))
  have ne_t1_o101 : t1 ≠ o101 := Nat.ne_of_lt (Nat.lt_of_lt_of_le V1.lt (Nat.le_of_eq g101.symm))
  have ne_s2_o101 : s2 ≠ o101 := Nat.ne_of_lt (Nat.lt_of_lt_of_le Es2.lt (Nat.le_of_eq g101.symm))
  have ne_t2_o101 : t2 ≠ o101 := Nat.ne_of_lt (Nat.lt_of_lt_of_le V2.lt (Nat.le_of_eq g101.symm))
  have lt101 : o101 < h101.size := A101.lt
  have J101 := J0.add E101 g101 lt101
  have B101 := B0.mono E101.1
  have O101 := O0.ext E101
  have sz101 : h0.size ≤ o101 := Nat.le_trans K0.1 (Nat.le_of_eq g101.symm)
  have fr101 : h0.size ≤ o101 := sz101
  have K101 := K0.ext E101
  have F101_value : Fld Z h101 o101 "java/lang/AbstractStringBuilder" "value" "[B" .null := D101 (Or.inl (hw _ (List.mem_of_getElem? (i := 147) rfl))) (ty := (.array .byte)) (by decide)
  have F101_coder : Fld Z h101 o101 "java/lang/AbstractStringBuilder" "coder" "B" (.int (0 : Int32)) := D101 (Or.inl (hw _ (List.mem_of_getElem? (i := 149) rfl))) (ty := .byte) (by decide)
  have F101_count : Fld Z h101 o101 "java/lang/AbstractStringBuilder" "count" "I" (.int (0 : Int32)) := D101 (Or.inl (hw _ (List.mem_of_getElem? (i := 162) rfl))) (ty := .int) (by decide)
  refine Go.of (fun _ hr => st101 _ hr) ?_
  show Go p e s below _ _ _ _ T101 (mkF m 3 #[.val (.ref s1), .val (.ref s2)] [(.ref o101)])
  refine Go.of (fun _ hr => XS.dup X101.here hx rfl (hb hby d26_3) rfl rfl hr) ?_
  show Go p e s below _ _ _ _ T101 (mkF m 4 #[.val (.ref s1), .val (.ref s2)] [(.ref o101), (.ref o101)])
  obtain ⟨_, b102, T102, h102, L102, e102, Cc102, X102, B102, J102, g102, hQ102, st102⟩ := own_callI Cc B101 J101 X101 rfl (hw _ (List.mem_of_getElem? (i := 135) rfl)) (hw _ (List.mem_of_getElem? (i := 136) rfl)) (hw _ (List.mem_of_getElem? (i := 134) rfl)) (hw _ (List.mem_of_getElem? (i := 137) rfl)) (by decide) (rm27 l Z a0 hw [] o101 _ _ zc _ h101 n0 O101 h0.size (own_ole O0) K101.1 fr101 (List.mem_cons_self ..) A101 F101_value F101_coder F101_count S_C hzc) e101 (g := (mkF m 4 #[.val (.ref s1), .val (.ref s2)] [(.ref o101), (.ref o101)])) rfl (by rw [hml]; rfl) (argsL := []) (rest := [(.ref o101)]) (lenOf pd25 rfl) rfl (W := 1) (by show 2 * 0 + _ ≤ _; exact Nat.le_of_eq rfl) (hb hby d26_4) (by decide) (by decide) (by decide) (by decide)
  have f103 := (Es1.ext E101)
  have f104 := (V1.ext E101)
  have f105 := (Es2.ext E101)
  have f106 := (V2.ext E101)
  obtain ⟨rfl, Nq102, Kq102, v102, kv102, R_v102, Gv102, Gc102, Gn102, W102_, Jv102⟩ := hQ102
  have N102 := Fr.app N0 Nq102
  obtain ⟨hx, hZ, hown, hby, hml, hnm, hret, hlk⟩ := id Cc102
  have sz_v102 : h0.size ≤ v102 := Nat.le_trans K101.1 R_v102
  have fr_v102 : h0.size ≤ v102 := sz_v102
  have ne_s1_v102 : s1 ≠ v102 := Nat.ne_of_lt (Nat.lt_of_lt_of_le f103.lt R_v102)
  have ne_t1_v102 : t1 ≠ v102 := Nat.ne_of_lt (Nat.lt_of_lt_of_le f104.lt R_v102)
  have ne_s2_v102 : s2 ≠ v102 := Nat.ne_of_lt (Nat.lt_of_lt_of_le f105.lt R_v102)
  have ne_t2_v102 : t2 ≠ v102 := Nat.ne_of_lt (Nat.lt_of_lt_of_le f106.lt R_v102)
  have ne_o101_v102 : o101 ≠ v102 := Nat.ne_of_lt (Nat.lt_of_lt_of_le A101.lt R_v102)
  have K102 := K101.trans Kq102 (allS (Or.inr sz101) all0)
  have O102 := O101.keep Kq102 (allS (Nat.le_trans (own_ole O0) fr101) all0)
  refine Go.of st102 ?_
  show Go p e s below _ _ _ _ T102 (mkF m 7 #[.val (.ref s1), .val (.ref s2)] [(.ref o101)])
  refine Go.of (fun _ hr => XS.aloadN X102.here hx rfl (hb hby d26_7) rfl rfl hr) ?_
  show Go p e s below _ _ _ _ T102 (mkF m 8 #[.val (.ref s1), .val (.ref s2)] [(.ref s1), (.ref o101)])
  have f108 := (A101.keep Kq102)
  have f109 := (f103.keep Kq102)
  have f110 := ((Fv1.ext E101).keep Kq102 (ninS ne_s1_o101 nin0))
  have f111 := ((Fc1.ext E101).keep Kq102 (ninS ne_s1_o101 nin0))
  have f112 := (f104.keep Kq102 (ninS ne_t1_o101 nin0))
  obtain ⟨_, b107, T107, h107, L107, e107, Cc107, X107, B107, J107, g107, hQ107, st107⟩ := own_callV Cc102 B102 Jv102 X102 (hw _ (List.mem_of_getElem? (i := 150) rfl)) (hw _ (List.mem_of_getElem? (i := 151) rfl)) (notFace_of_selects (args := #[]) (mvT hZ (hw _ (List.mem_of_getElem? (i := 153) rfl)))) (hw _ (List.mem_of_getElem? (i := 153) rfl)) (hw _ (List.mem_of_getElem? (i := 152) rfl)) (hw _ (List.mem_of_getElem? (i := 134) rfl)) (hw _ (List.mem_of_getElem? (i := 154) rfl)) (by decide) f108 (rm29 l Z a0 hw [] o101 v102 _ ([] : List Int32) s1 t1 _ b1 zc _ h102 n0 O102 h0.size (own_ole O0) K102.1 fr101 (List.mem_cons_of_mem _ (List.mem_cons_self ..)) fr_v102 (List.mem_cons_self ..) f108 Gv102 Gc102 Gn102 W102_ f109 f110 f111 f112 hn1 (by simp only [List.length_append, List.length_nil, litI_dot]; omega) ne_t1_v102 ne_o101_v102 ne_s1_v102 ne_t1_o101 ne_s1_o101 S_C hzc) e102 (g := (mkF m 8 #[.val (.ref s1), .val (.ref s2)] [(.ref s1), (.ref o101)])) rfl (by rw [hml]; rfl) (argsL := [(.ref s1)]) (rest := []) (lenOf pd26 rfl) rfl (W := 0) (by show 2 * 0 + _ ≤ _; exact Nat.le_of_eq rfl) (hb hby d26_8) (by decide) (by decide) (by decide) (by decide)
  obtain ⟨rfl, Nq107, Kq107, Gv107, Gc107, Gn107, Wv107⟩ := hQ107
  have N107 := Fr.app N102 Nq107
  obtain ⟨hx, hZ, hown, hby, hml, hnm, hret, hlk⟩ := id Cc107
  have K107 := K102.trans Kq107 (allS (Or.inr sz101) (allS (Or.inr sz_v102) all0))
  have O107 := O102.keep Kq107 (allS (Nat.le_trans (own_ole O0) fr101) (allS (Nat.le_trans (own_ole O0) fr_v102) all0))
  refine Go.of st107 ?_
  show Go p e s below _ _ _ _ T107 (mkF m 11 #[.val (.ref s1), .val (.ref s2)] [(.ref o101)])
  obtain ⟨o113, t113, k113, b113, T113, h113, e113, Cc113, X113, B113, J113, E113, Sy113, na113, nt113, lt113, st113⟩ := own_ldcV Cc107 B107 J107 X107 lit3_in lit3_one (hw _ (List.mem_of_getElem? (i := 188) rfl)) (own_wS Z a0 hw) lit3_lat lit3_len (by rw [eb]; exact N107) (by rw [eb]; exact O0.2) e107 (g := (mkF m 11 #[.val (.ref s1), .val (.ref s2)] [(.ref o101)])) rfl (hb hby d26_11) (n := 4) lit3_sz (by decide) (by decide) (by decide)
  obtain ⟨hx, hZ, hown, hby, hml, hnm, hret, hlk⟩ := id Cc113
  have K113 := K107.ext E113
  have O113 := O107.ext E113
  have nx_o113_v102 : o113 ≠ v102 := fun q => na113 (by rw [q]; exact (List.mem_cons_self ..))
  have nx_o113_o101 : o113 ≠ o101 := fun q => na113 (by rw [q]; exact (List.mem_cons_of_mem _ (List.mem_cons_self ..)))
  have nx_t113_v102 : t113 ≠ v102 := fun q => nt113 (by rw [q]; exact (List.mem_cons_self ..))
  have nx_t113_o101 : t113 ≠ o101 := fun q => nt113 (by rw [q]; exact (List.mem_cons_of_mem _ (List.mem_cons_self ..)))
  refine Go.of (fun _ hr => st113 _ hr) ?_
  show Go p e s below _ _ _ _ T113 (mkF m 13 #[.val (.ref s1), .val (.ref s2)] [(.ref o113), (.ref o101)])
  have f115 := ((f108.keep Kq107).ext E113)
  have f116 := (Gv107.ext E113)
  have f117 := (Gc107.ext E113)
  have f118 := (Gn107.ext E113)
  have f119 := (Wv107.ext E113)
  obtain ⟨_, b114, T114, h114, L114, e114, Cc114, X114, B114, J114, g114, hQ114, st114⟩ := own_callV Cc113 B113 J113 X113 (hw _ (List.mem_of_getElem? (i := 150) rfl)) (hw _ (List.mem_of_getElem? (i := 151) rfl)) (notFace_of_selects (args := #[]) (mvT hZ (hw _ (List.mem_of_getElem? (i := 153) rfl)))) (hw _ (List.mem_of_getElem? (i := 153) rfl)) (hw _ (List.mem_of_getElem? (i := 152) rfl)) (hw _ (List.mem_of_getElem? (i := 134) rfl)) (hw _ (List.mem_of_getElem? (i := 154) rfl)) (by decide) f115 (rm29 l Z a0 hw [] o101 v102 _ (([] : List Int32) ++ b1) o113 t113 _ (litI ".") zc _ h113 n0 O113 h0.size (own_ole O0) K113.1 fr101 (List.mem_cons_of_mem _ (List.mem_cons_self ..)) fr_v102 (List.mem_cons_self ..) f115 f116 f117 f118 f119 Sy113.1 Sy113.2.2.1 Sy113.2.1 Sy113.2.2.2 (by decide +kernel) (by simp only [List.length_append, List.length_nil, litI_dot]; omega) nx_t113_v102 ne_o101_v102 nx_o113_v102 nx_t113_o101 nx_o113_o101 S_C hzc) e113 (g := (mkF m 13 #[.val (.ref s1), .val (.ref s2)] [(.ref o113), (.ref o101)])) rfl (by rw [hml]; rfl) (argsL := [(.ref o113)]) (rest := []) (lenOf pd26 rfl) rfl (W := 0) (by show 2 * 0 + _ ≤ _; exact Nat.le_of_eq rfl) (hb hby d26_13) (by decide) (by decide) (by decide) (by decide)
  obtain ⟨rfl, Nq114, Kq114, Gv114, Gc114, Gn114, Wv114⟩ := hQ114
  have N114 := Fr.app N107 Nq114
  obtain ⟨hx, hZ, hown, hby, hml, hnm, hret, hlk⟩ := id Cc114
  have K114 := K113.trans Kq114 (allS (Or.inr sz101) (allS (Or.inr sz_v102) all0))
  have O114 := O113.keep Kq114 (allS (Nat.le_trans (own_ole O0) fr101) (allS (Nat.le_trans (own_ole O0) fr_v102) all0))
  refine Go.of st114 ?_
  show Go p e s below _ _ _ _ T114 (mkF m 16 #[.val (.ref s1), .val (.ref s2)] [(.ref o101)])
  refine Go.of (fun _ hr => XS.aloadN X114.here hx rfl (hb hby d26_16) rfl rfl hr) ?_
  show Go p e s below _ _ _ _ T114 (mkF m 17 #[.val (.ref s1), .val (.ref s2)] [(.ref s2), (.ref o101)])
  have f121 := (f115.keep Kq114)
  have f122 := ((((f105.keep Kq102).keep Kq107).ext E113).keep Kq114)
  have f123 := (((((Fv2.ext E101).keep Kq102 (ninS ne_s2_o101 nin0)).keep Kq107 (ninS ne_s2_o101 (ninS ne_s2_v102 nin0))).ext E113).keep Kq114 (ninS ne_s2_o101 (ninS ne_s2_v102 nin0)))
  have f124 := (((((Fc2.ext E101).keep Kq102 (ninS ne_s2_o101 nin0)).keep Kq107 (ninS ne_s2_o101 (ninS ne_s2_v102 nin0))).ext E113).keep Kq114 (ninS ne_s2_o101 (ninS ne_s2_v102 nin0)))
  have f125 := ((((f106.keep Kq102 (ninS ne_t2_o101 nin0)).keep Kq107 (ninS ne_t2_o101 (ninS ne_t2_v102 nin0))).ext E113).keep Kq114 (ninS ne_t2_o101 (ninS ne_t2_v102 nin0)))
  obtain ⟨_, b120, T120, h120, L120, e120, Cc120, X120, B120, J120, g120, hQ120, st120⟩ := own_callV Cc114 B114 J114 X114 (hw _ (List.mem_of_getElem? (i := 150) rfl)) (hw _ (List.mem_of_getElem? (i := 151) rfl)) (notFace_of_selects (args := #[]) (mvT hZ (hw _ (List.mem_of_getElem? (i := 153) rfl)))) (hw _ (List.mem_of_getElem? (i := 153) rfl)) (hw _ (List.mem_of_getElem? (i := 152) rfl)) (hw _ (List.mem_of_getElem? (i := 134) rfl)) (hw _ (List.mem_of_getElem? (i := 154) rfl)) (by decide) f121 (rm29 l Z a0 hw [] o101 v102 _ ((([] : List Int32) ++ b1) ++ (litI ".")) s2 t2 _ b2 zc _ h114 n0 O114 h0.size (own_ole O0) K114.1 fr101 (List.mem_cons_of_mem _ (List.mem_cons_self ..)) fr_v102 (List.mem_cons_self ..) f121 Gv114 Gc114 Gn114 Wv114 f122 f123 f124 f125 hn2 (by simp only [List.length_append, List.length_nil, litI_dot]; omega) ne_t2_v102 ne_o101_v102 ne_s2_v102 ne_t2_o101 ne_s2_o101 S_C hzc) e114 (g := (mkF m 17 #[.val (.ref s1), .val (.ref s2)] [(.ref s2), (.ref o101)])) rfl (by rw [hml]; rfl) (argsL := [(.ref s2)]) (rest := []) (lenOf pd26 rfl) rfl (W := 0) (by show 2 * 0 + _ ≤ _; exact Nat.le_of_eq rfl) (hb hby d26_17) (by decide) (by decide) (by decide) (by decide)
  obtain ⟨rfl, Nq120, Kq120, Gv120, Gc120, Gn120, Wv120⟩ := hQ120
  have N120 := Fr.app N114 Nq120
  obtain ⟨hx, hZ, hown, hby, hml, hnm, hret, hlk⟩ := id Cc120
  have K120 := K114.trans Kq120 (allS (Or.inr sz101) (allS (Or.inr sz_v102) all0))
  have O120 := O114.keep Kq120 (allS (Nat.le_trans (own_ole O0) fr101) (allS (Nat.le_trans (own_ole O0) fr_v102) all0))
  refine Go.of st120 ?_
  show Go p e s below _ _ _ _ T120 (mkF m 20 #[.val (.ref s1), .val (.ref s2)] [(.ref o101)])
  have f127 := (f121.keep Kq120)
  obtain ⟨_, b126, T126, h126, L126, e126, Cc126, X126, B126, J126, g126, hQ126, st126⟩ := own_callV Cc120 B120 J120 X120 (hw _ (List.mem_of_getElem? (i := 189) rfl)) (hw _ (List.mem_of_getElem? (i := 190) rfl)) (notFace_of_selects (args := #[]) (mvT hZ (hw _ (List.mem_of_getElem? (i := 192) rfl)))) (hw _ (List.mem_of_getElem? (i := 192) rfl)) (hw _ (List.mem_of_getElem? (i := 191) rfl)) (hw _ (List.mem_of_getElem? (i := 134) rfl)) (hw _ (List.mem_of_getElem? (i := 193) rfl)) (by decide) f127 (rm35 l Z a0 hw [] o101 v102 _ (((([] : List Int32) ++ b1) ++ (litI ".")) ++ b2) zc _ h120 n0 O120 h0.size (own_ole O0) K120.1 f127 Gv120 Gc120 Gn120 Wv120 (by simp only [List.length_append, List.length_nil, litI_dot]; omega) S_C hzc) e120 (g := (mkF m 20 #[.val (.ref s1), .val (.ref s2)] [(.ref o101)])) rfl (by rw [hml]; rfl) (argsL := []) (rest := []) (lenOf pd27 rfl) rfl (W := 0) (by show 2 * 0 + _ ≤ _; exact Nat.le_of_eq rfl) (hb hby d26_20) (by decide) (by decide) (by decide) (by decide)
  have f128 := ((((f109.keep Kq107).ext E113).keep Kq114).keep Kq120)
  have f129 := ((((f112.keep Kq107 (ninS ne_t1_o101 (ninS ne_t1_v102 nin0))).ext E113).keep Kq114 (ninS ne_t1_o101 (ninS ne_t1_v102 nin0))).keep Kq120 (ninS ne_t1_o101 (ninS ne_t1_v102 nin0)))
  have f130 := (f122.keep Kq120)
  have f131 := (f125.keep Kq120 (ninS ne_t2_o101 (ninS ne_t2_v102 nin0)))
  have f132 := ((Sy113.1.keep Kq114).keep Kq120)
  have f133 := ((Sy113.2.2.2.keep Kq114 (ninS nx_t113_o101 (ninS nx_t113_v102 nin0))).keep Kq120 (ninS nx_t113_o101 (ninS nx_t113_v102 nin0)))
  obtain ⟨r126, t126, kt126, rfl, Nq126, Eq126, R_r126, R_t126, Er126, Fv126, Fc126, Vt126⟩ := hQ126
  have N126 := Fr.app N120 Nq126
  obtain ⟨hx, hZ, hown, hby, hml, hnm, hret, hlk⟩ := id Cc126
  have sz_r126 : h0.size ≤ r126 := Nat.le_trans K120.1 R_r126
  have fr_r126 : h0.size ≤ r126 := sz_r126
  have ne_s1_r126 : s1 ≠ r126 := Nat.ne_of_lt (Nat.lt_of_lt_of_le f128.lt R_r126)
  have ne_t1_r126 : t1 ≠ r126 := Nat.ne_of_lt (Nat.lt_of_lt_of_le f129.lt R_r126)
  have ne_s2_r126 : s2 ≠ r126 := Nat.ne_of_lt (Nat.lt_of_lt_of_le f130.lt R_r126)
  have ne_t2_r126 : t2 ≠ r126 := Nat.ne_of_lt (Nat.lt_of_lt_of_le f131.lt R_r126)
  have ne_o101_r126 : o101 ≠ r126 := Nat.ne_of_lt (Nat.lt_of_lt_of_le f127.lt R_r126)
  have ne_o113_r126 : o113 ≠ r126 := Nat.ne_of_lt (Nat.lt_of_lt_of_le f132.lt R_r126)
  have ne_t113_r126 : t113 ≠ r126 := Nat.ne_of_lt (Nat.lt_of_lt_of_le f133.lt R_r126)
  have ne_v102_r126 : v102 ≠ r126 := Nat.ne_of_lt (Nat.lt_of_lt_of_le Wv120.lt R_r126)
  have sz_t126 : h0.size ≤ t126 := Nat.le_trans K120.1 R_t126
  have fr_t126 : h0.size ≤ t126 := sz_t126
  have ne_s1_t126 : s1 ≠ t126 := Nat.ne_of_lt (Nat.lt_of_lt_of_le f128.lt R_t126)
  have ne_t1_t126 : t1 ≠ t126 := Nat.ne_of_lt (Nat.lt_of_lt_of_le f129.lt R_t126)
  have ne_s2_t126 : s2 ≠ t126 := Nat.ne_of_lt (Nat.lt_of_lt_of_le f130.lt R_t126)
  have ne_t2_t126 : t2 ≠ t126 := Nat.ne_of_lt (Nat.lt_of_lt_of_le f131.lt R_t126)
  have ne_o101_t126 : o101 ≠ t126 := Nat.ne_of_lt (Nat.lt_of_lt_of_le f127.lt R_t126)
  have ne_o113_t126 : o113 ≠ t126 := Nat.ne_of_lt (Nat.lt_of_lt_of_le f132.lt R_t126)
  have ne_t113_t126 : t113 ≠ t126 := Nat.ne_of_lt (Nat.lt_of_lt_of_le f133.lt R_t126)
  have ne_v102_t126 : v102 ≠ t126 := Nat.ne_of_lt (Nat.lt_of_lt_of_le Wv120.lt R_t126)
  have K126 := K120.ext Eq126
  have O126 := O120.ext Eq126
  refine Go.of st126 ?_
  show Go p e s below _ _ _ _ T126 (mkF m 23 #[.val (.ref s1), .val (.ref s2)] [(.ref r126)])
  exact Go.retA X126 hx hlk B126 (J126.sub fun x hx => (List.mem_cons_of_mem _ (List.mem_cons_of_mem _ hx))) e126 hret rfl rfl (hb hby d26_23) (by decide) (by decide) (fun vm_ hw_ => ⟨_, _, _, rfl, (fun y hy => Nat.le_trans hnb (N126 y hy)), keep_ext K126, sz_r126, sz_t126, Er126, Fv126, Fc126, Vt126⟩)

theorem d25_0 : decode prog_16_method_3_code 0 = .ok (.aload_n 0, 1) := by decide +kernel
theorem d25_1 : decode prog_16_method_3_code 1 = .ok (.getfield 15, 3) := by decide +kernel
theorem d25_4 : decode prog_16_method_3_code 4 = .ok (.aload_n 0, 1) := by decide +kernel
theorem d25_5 : decode prog_16_method_3_code 5 = .ok (.getfield 21, 3) := by decide +kernel
theorem d25_8 : decode prog_16_method_3_code 8 = .ok (.invokestatic 29, 3) := by decide +kernel
theorem pd28 : parseMethodDescriptor "(Ljava/lang/String;Ljava/lang/String;)Ljava/lang/String;" = some ⟨[(.object "java/lang/String"), (.object "java/lang/String")], some (.object "java/lang/String")⟩ := by decide +kernel
theorem d25_11 : decode prog_16_method_3_code 11 = .ok (.areturn, 1) := by decide +kernel
set_option maxRecDepth 65536 in
set_option maxHeartbeats 40000000 in
theorem rm25 (l : Launch) (Z : State) (a0 : Array Value) (hw : ∀ d ∈ tables_1, d.before a0 Z = true) (ws : List Jvm.Cond) (a1 : Addr) (s1 t1 : Addr) (k1 : ClassId) (b1 : List Int32) (s2 t2 : Addr) (k2 : ClassId) (b2 : List Int32) (zc : Int32) (ms : List Addr) (h0 : Heap) (n0 : Nat) (O0 : Old Z n0 h0) (nb : Nat) (hb0 : n0 ≤ nb) (hnb : nb ≤ h0.size) (Fg : Fld Z h0 a1 "com/example/grid_job_scheduler/gridjobscheduler/JobKey" "group" "Ljava/lang/String;" (.ref s1)) (Fn : Fld Z h0 a1 "com/example/grid_job_scheduler/gridjobscheduler/JobKey" "name" "Ljava/lang/String;" (.ref s2)) (Es1 : Exa Z h0 s1 "java/lang/String") (Fv1 : Fld Z h0 s1 "java/lang/String" "value" "[B" (.ref t1)) (Fc1 : Fld Z h0 s1 "java/lang/String" "coder" "B" (.int 0)) (V1 : Arv Z h0 t1 k1 .byte (Int32.ofNat b1.length) (b1.map Value.int) (.int 0)) (hn1 : b1.length ≤ 1000) (Es2 : Exa Z h0 s2 "java/lang/String") (Fv2 : Fld Z h0 s2 "java/lang/String" "value" "[B" (.ref t2)) (Fc2 : Fld Z h0 s2 "java/lang/String" "coder" "B" (.int 0)) (V2 : Arv Z h0 t2 k2 .byte (Int32.ofNat b2.length) (b2.map Value.int) (.int 0)) (hn2 : b2.length ≤ 1000) (hl8 : b1.length + b2.length ≤ 8) (S_C : Sta Z Z.heap "java/lang/String" "COMPACT_STRINGS" "Z" (.int zc)) (hzc : ¬ zc = 0) :
    Con l Z ms (⟨"com/example/grid_job_scheduler/gridjobscheduler/JobKey", "toString", "()Ljava/lang/String;"⟩ : MethodName) prog_16_method_3_code 1 (some (.object "java/lang/String")) ws ({ frames := 7, cells := 6, slots := 48, locals := 126 } : Room) #[(.ref a1)] h0 (fun v vm h L => ∃ r t k, v = some (.ref r) ∧ Fr nb L ∧ Ext h0 h ∧ h0.size ≤ r ∧ h0.size ≤ t ∧ Exa Z h r "java/lang/String" ∧ Fld Z h r "java/lang/String" "value" "[B" (.ref t) ∧ Fld Z h r "java/lang/String" "coder" "B" (.int 0) ∧ Arv Z h t k .byte (Int32.ofNat (b1 ++ litI "." ++ b2).length) ((b1 ++ litI "." ++ b2).map Value.int) (.int 0)) := by
  refine Con.mk (plainFor_of_name pn11) ?_
  intro p e s m below meth c s₁ Cc X0 e0 eb J0 B0 M0
  obtain ⟨hx, hZ, hown, hby, hml, hnm, hret, hlk⟩ := id Cc
  have N0 := Fr.nil h0.size
  have K0 := Keep.refl h0 []
  show Go p e s below _ _ _ _ s₁ (mkF m 0 #[.val (.ref a1)] [])
  refine Go.of (fun _ hr => XS.aloadN X0.here hx rfl (hb hby d25_0) rfl rfl hr) ?_
  show Go p e s below _ _ _ _ s₁ (mkF m 1 #[.val (.ref a1)] [(.ref a1)])
  obtain ⟨T101, X101, e101, st101⟩ := getF X0 hx hZ hown (host := "") (Or.inl (hw _ (List.mem_of_getElem? (i := 120) rfl))) Via.refl e0 Fg (g := (mkF m 1 #[.val (.ref a1)] [(.ref a1)])) rfl rfl (hb hby d25_1)
  refine Go.of (fun _ hr => st101 _ hr) ?_
  show Go p e s below _ _ _ _ T101 (mkF m 4 #[.val (.ref a1)] [(.ref s1)])
  refine Go.of (fun _ hr => XS.aloadN X101.here hx rfl (hb hby d25_4) rfl rfl hr) ?_
  show Go p e s below _ _ _ _ T101 (mkF m 5 #[.val (.ref a1)] [(.ref a1), (.ref s1)])
  obtain ⟨T102, X102, e102, st102⟩ := getF X101 hx hZ hown (host := "") (Or.inl (hw _ (List.mem_of_getElem? (i := 122) rfl))) Via.refl e101 Fn (g := (mkF m 5 #[.val (.ref a1)] [(.ref a1), (.ref s1)])) rfl rfl (hb hby d25_5)
  refine Go.of (fun _ hr => st102 _ hr) ?_
  show Go p e s below _ _ _ _ T102 (mkF m 8 #[.val (.ref a1)] [(.ref s2), (.ref s1)])
  obtain ⟨_, b103, T103, h103, L103, e103, Cc103, X103, B103, J103, g103, hQ103, st103⟩ := own_callS Cc B0 J0 X102 (hw _ (List.mem_of_getElem? (i := 129) rfl)) (hw _ (List.mem_of_getElem? (i := 130) rfl)) (hw _ (List.mem_of_getElem? (i := 60) rfl)) (hw _ (List.mem_of_getElem? (i := 131) rfl)) (by decide) (rm26 l Z a0 hw [] s1 t1 _ b1 s2 t2 _ b2 zc _ h0 n0 O0 h0.size (own_ole O0) K0.1 Es1 Fv1 Fc1 V1 hn1 Es2 Fv2 Fc2 V2 hn2 hl8 S_C hzc) e102 (g := (mkF m 8 #[.val (.ref a1)] [(.ref s2), (.ref s1)])) rfl (by rw [hml]; rfl) (argsL := [(.ref s1), (.ref s2)]) (rest := []) (lenOf pd28 rfl) rfl (W := 0) (by show 2 * 0 + _ ≤ _; exact Nat.le_of_eq rfl) (hb hby d25_8) (by decide) (by decide) (by decide) (by decide)
  obtain ⟨r103, t103, kt103, rfl, Nq103, Eq103, R_r103, R_t103, Er103, Fv103, Fc103, Vt103⟩ := hQ103
  have N103 := Fr.app N0 Nq103
  obtain ⟨hx, hZ, hown, hby, hml, hnm, hret, hlk⟩ := id Cc103
  have sz_r103 : h0.size ≤ r103 := Nat.le_trans K0.1 R_r103
  have fr_r103 : h0.size ≤ r103 := sz_r103
  have ne_s1_r103 : s1 ≠ r103 := Nat.ne_of_lt (Nat.lt_of_lt_of_le Es1.lt R_r103)
  have ne_t1_r103 : t1 ≠ r103 := Nat.ne_of_lt (Nat.lt_of_lt_of_le V1.lt R_r103)
  have ne_s2_r103 : s2 ≠ r103 := Nat.ne_of_lt (Nat.lt_of_lt_of_le Es2.lt R_r103)
  have ne_t2_r103 : t2 ≠ r103 := Nat.ne_of_lt (Nat.lt_of_lt_of_le V2.lt R_r103)
  have ne_a1_r103 : a1 ≠ r103 := Nat.ne_of_lt (Nat.lt_of_lt_of_le Fg.lt R_r103)
  have sz_t103 : h0.size ≤ t103 := Nat.le_trans K0.1 R_t103
  have fr_t103 : h0.size ≤ t103 := sz_t103
  have ne_s1_t103 : s1 ≠ t103 := Nat.ne_of_lt (Nat.lt_of_lt_of_le Es1.lt R_t103)
  have ne_t1_t103 : t1 ≠ t103 := Nat.ne_of_lt (Nat.lt_of_lt_of_le V1.lt R_t103)
  have ne_s2_t103 : s2 ≠ t103 := Nat.ne_of_lt (Nat.lt_of_lt_of_le Es2.lt R_t103)
  have ne_t2_t103 : t2 ≠ t103 := Nat.ne_of_lt (Nat.lt_of_lt_of_le V2.lt R_t103)
  have ne_a1_t103 : a1 ≠ t103 := Nat.ne_of_lt (Nat.lt_of_lt_of_le Fg.lt R_t103)
  have K103 := K0.ext Eq103
  have O103 := O0.ext Eq103
  refine Go.of st103 ?_
  show Go p e s below _ _ _ _ T103 (mkF m 11 #[.val (.ref a1)] [(.ref r103)])
  exact Go.retA X103 hx hlk B103 J103 e103 hret rfl rfl (hb hby d25_11) (by decide) (by decide) (fun vm_ hw_ => ⟨_, _, _, rfl, (fun y hy => Nat.le_trans hnb (N103 y hy)), keep_ext K103, sz_r103, sz_t103, Er103, Fv103, Fc103, Vt103⟩)

set_option maxRecDepth 65536 in
theorem own_tabL : jdkStatics_1.drop 17 = (List.range 256).map fun j => Jvm.Cond.eq (Jvm.Term.elem (Jvm.Term.static "java/lang/CharacterDataLatin1" "A" "[I") (Jvm.Term.int (Int32.ofNat j))) (Jvm.Term.int (tabA.getD j 0)) := by rfl
theorem own_sz256 {n : Nat} (h : n < 2 ^ 31) (q : Int32.ofNat n = 256) : n = 256 := oi_inj (by omega) (by decide) q
theorem own_el {args : Array Value} {s : State} {t : Term} {x : Addr} {cl : Cell} {j : Nat} {v : Int32} (ht : t.eval args s none [] s = some (.ref x)) (ha : s.arrayAt? x = some cl) (hs : cl.slots.size = 256) (hj : j < 256) (h : (Jvm.Cond.eq (Jvm.Term.elem t (Jvm.Term.int (Int32.ofNat j))) (Jvm.Term.int v)).value args s none s [] = some true) : cl.slots[j]? = some (.int v) := by
  have q := own_eqI h
  have r := elem_f (t := t) (a := .int (Int32.ofNat j)) ht rfl ha (oi_nn (by omega))
  rw [oi_nat (by omega)] at r
  exact r.symm.trans q
theorem own_tabV {s : State} {wa : Addr} {cc : Cell} (A : Arr s s.heap wa cc .int) (hsz : cc.slots.size = 256) (h : ∀ j, j < 256 → cc.slots[j]? = some (.int (tabA.getD j 0))) : Arv s s.heap wa cc.cls .int 256 (tabA.map Value.int) (.int 0) :=
  ⟨cc, A, rfl, hsz, by decide, fun k hk => by rw [getD_int]; exact h k (hsz ▸ hk), fun i hi => by rw [getD_int]; rfl⟩

theorem chV_map {cs : List Int32} (h : ∀ x ∈ cs, rng x) {j : Nat} (hj : j < cs.length) (hl : cs.length < 2147483648) : chV (cs.map lo8) (Int32.ofNat j) = cs.getD j 0 := by
  rw [chV, oi_nat (by omega)]
  have e : (cs.map lo8).getD j 0 = lo8 (cs.getD j 0) := by
    simp only [List.getD_eq_getElem?_getD, List.getElem?_map, List.getElem?_eq_getElem hj, Option.map_some, Option.getD_some]
  rw [e]
  exact chr_lo8 (h _ (mem_getD hj))
theorem chV_l {b r : List Int32} {i : Int32} (i0 : ¬ i < 0) (h : i < Int32.ofNat b.length) (hn : b.length < 2147483648) : chV (b ++ r) i = chV b i := by
  have hj : i.toNatClampNeg < b.length := by rw [Int32.lt_iff_toInt_lt, oi_toInt hn, nat_of i0] at h; omega
  rw [chV, chV, List.getD_eq_getElem?_getD, List.getElem?_append_left hj, List.getD_eq_getElem?_getD]
theorem chV_m {b r : List Int32} {i : Int32} (h : i = Int32.ofNat b.length) (hn : b.length < 2147483648) : chV (b ++ litI "." ++ r) i = 46 := by
  rw [chV, h, oi_nat hn, List.getD_eq_getElem?_getD, List.append_assoc, List.getElem?_append_right (Nat.le_refl _), Nat.sub_self, litI_dotv, show ([(46 : Int32)] ++ r)[0]? = some 46 from rfl, Option.getD_some]
  decide
theorem pos_r {n : Nat} {i : Int32} (i0 : ¬ i < 0) (h : ¬ i < Int32.ofNat n) (h2 : ¬ i = Int32.ofNat n) (hn : n < 2147483648) : i - Int32.ofNat n - 1 = Int32.ofNat (i.toNatClampNeg - n - 1) ∧ n + 1 ≤ i.toNatClampNeg := by
  have a := nat_of i0
  have r := rng32 i
  have h3 : n + 1 ≤ i.toNatClampNeg := by
    rw [Int32.lt_iff_toInt_lt, oi_toInt hn] at h
    have : i.toInt ≠ (n : Int) := fun q => h2 (Int32.toInt_inj.mp (by rw [q, oi_toInt hn]))
    omega
  refine ⟨Int32.toInt_inj.mp ?_, h3⟩
  have q1 := c_isub i (Int32.ofNat n)
  have q2 := c_isub (i - Int32.ofNat n) 1
  have r1 := rng32 (i - Int32.ofNat n)
  have r2 := rng32 (i - Int32.ofNat n - 1)
  rw [oi_toInt hn] at q1
  rw [show (1 : Int32).toInt = 1 from rfl] at q2
  rw [oi_toInt (by omega)]; omega
theorem chV_r {b r : List Int32} {i : Int32} (i0 : ¬ i < 0) (h : ¬ i < Int32.ofNat b.length) (h2 : ¬ i = Int32.ofNat b.length) (hn : b.length < 2147483648) (hi : i.toNatClampNeg < 2147483648) : chV (b ++ litI "." ++ r) i = chV r (i - Int32.ofNat b.length - 1) := by
  obtain ⟨e, h3⟩ := pos_r i0 h h2 hn
  rw [e, chV, chV, oi_nat (by omega), List.getD_eq_getElem?_getD, List.getElem?_append_right (by rw [List.length_append, litI_dot]; omega), List.length_append, litI_dot, List.getD_eq_getElem?_getD, show i.toNatClampNeg - (b.length + 1) = i.toNatClampNeg - b.length - 1 by omega]
theorem pos_in {b1 b2 : List Int32} {i : Int32} (i0 : ¬ i < 0) (h : i < Int32.ofNat (b1 ++ litI "." ++ b2).length) (q1 : ¬ i < Int32.ofNat b1.length) (q2 : ¬ i = Int32.ofNat b1.length) (hn1 : b1.length ≤ 1000) (hn2 : b2.length ≤ 1000) : ¬ (i - Int32.ofNat b1.length - 1) < 0 ∧ (i - Int32.ofNat b1.length - 1) < Int32.ofNat b2.length := by
  obtain ⟨e, h3⟩ := pos_r i0 q1 q2 (by omega)
  have hl : (b1 ++ litI "." ++ b2).length = b1.length + 1 + b2.length := by rw [List.length_append, List.length_append, litI_dot]
  rw [hl, Int32.lt_iff_toInt_lt, oi_toInt (by omega), nat_of i0] at h
  rw [e]
  exact ⟨oi_nn (by omega), oi_lt (by omega) (by omega) (by omega)⟩
theorem chV_ll {b1 b2 : List Int32} {i : Int32} (i0 : ¬ i < 0) (h : i < Int32.ofNat b1.length) (hn : b1.length < 2147483648) : chV (b1 ++ litI "." ++ b2) i = chV b1 i := by
  rw [List.append_assoc]; exact chV_l i0 h hn

def wsV (c : Int32) : Int32 := if c = 32 ∨ (¬ c < 9 ∧ ¬ 13 < c) ∨ (¬ c < 28 ∧ ¬ 31 < c) then 1 else 0
theorem wsV0 {c : Int32} (h : wsV c = 0) : ¬ wsP c := fun q => by
  have r : c = 32 ∨ (¬ c < 9 ∧ ¬ 13 < c) ∨ (¬ c < 28 ∧ ¬ 31 < c) := by
    rcases q with q | ⟨q1, q2⟩
    · exact Or.inr (Or.inl q)
    · by_cases e : c = 32
      · exact Or.inl e
      · refine Or.inr (Or.inr ⟨q1, fun z => e (Int32.toInt_inj.mp ?_)⟩)
        rw [Int32.lt_iff_toInt_lt] at q2 z
        rw [show (32 : Int32).toInt = 32 from rfl] at q2 ⊢
        rw [show (31 : Int32).toInt = 31 from rfl] at z
        omega
  rw [wsV, if_pos r] at h; exact absurd h (by decide)
def chB (b i : Int32) : Int32 := ((b.toUInt32 >>> (((8 : Int32) * i) &&& 31).toUInt32).toInt32 &&& (255 : Int32)).toUInt32.toUInt16.toUInt32.toInt32
theorem chB_rng (b i : Int32) : rng (chB b i) := chr8 _
def nbB (b n : Int32) : Prop := wsV (chB b 0) = 0 ∨ (¬ n < 2 ∧ wsV (chB b 1) = 0) ∨ (¬ n < 3 ∧ wsV (chB b 2) = 0) ∨ (¬ n < 4 ∧ wsV (chB b 3) = 0)
def mkB (b n : Int32) : List Int32 := if n = 1 then [chB b 0] else if n = 2 then [chB b 0, chB b 1] else if n = 3 then [chB b 0, chB b 1, chB b 2] else [chB b 0, chB b 1, chB b 2, chB b 3]
abbrev r4 (n : Int32) : Prop := n = 1 ∨ n = 2 ∨ n = 3 ∨ n = 4
theorem mkB_rng (b n : Int32) : ∀ x ∈ mkB b n, rng x := by
  intro x hx
  unfold mkB at hx
  have a0 := chB_rng b 0; have a1 := chB_rng b 1; have a2 := chB_rng b 2; have a3 := chB_rng b 3
  repeat' split at hx
  all_goals (simp only [List.mem_cons, List.not_mem_nil, or_false] at hx)
  · rw [hx]; exact a0
  · rcases hx with rfl | rfl <;> assumption
  · rcases hx with rfl | rfl | rfl <;> assumption
  · rcases hx with rfl | rfl | rfl | rfl <;> assumption
theorem mkB_len {b n : Int32} (h : r4 n) : Int32.ofNat (mkB b n).length = n ∧ 1 ≤ (mkB b n).length ∧ (mkB b n).length ≤ 4 := by
  rcases h with rfl | rfl | rfl | rfl <;> refine ⟨by simp [mkB] <;> decide, by simp [mkB], by simp [mkB]⟩
theorem mkB_le {b n : Int32} (h : r4 n) : ((mkB b n).map lo8).length ≤ 4 := by rw [List.length_map]; exact (mkB_len h).2.2
theorem mkB_at {b n i : Int32} (h : r4 n) (hi : i = 0 ∨ i = 1 ∨ i = 2 ∨ i = 3) (hlt : i < n) : chV ((mkB b n).map lo8) i = chB b i := by
  have e : ∀ j : Nat, i = Int32.ofNat j → j < (mkB b n).length → (mkB b n).getD j 0 = chB b i → chV ((mkB b n).map lo8) i = chB b i := fun j e1 e2 e3 => by
    rw [e1, chV_map (mkB_rng b n) e2 (by have := (mkB_len (b := b) h).2.2; omega), e3, e1]
  rcases hi with rfl | rfl | rfl | rfl <;> rcases h with rfl | rfl | rfl | rfl <;> first | exact absurd hlt (by decide) | exact e 0 rfl (by simp [mkB]) (by simp [mkB]) | exact e 1 rfl (by simp [mkB]) (by simp [mkB]) | exact e 2 rfl (by simp [mkB]) (by simp [mkB]) | exact e 3 rfl (by simp [mkB]) (by simp [mkB])
theorem mkB_nb {b n : Int32} (h : r4 n) (q : nbB b n) : ∃ j, j < ((mkB b n).map lo8).length ∧ ¬ spV (chV ((mkB b n).map lo8) (Int32.ofNat j)) := by
  have key : ∀ (j : Nat) (i : Int32), i = Int32.ofNat j → (i = 0 ∨ i = 1 ∨ i = 2 ∨ i = 3) → i < n → wsV (chB b i) = 0 → j < 2147483648 → ∃ j, j < ((mkB b n).map lo8).length ∧ ¬ spV (chV ((mkB b n).map lo8) (Int32.ofNat j)) := fun j i e hi hl hw hj => by
    refine ⟨j, ?_, ?_⟩
    · rw [List.length_map]
      have a := mkB_len (b := b) h
      rw [← a.1, e, Int32.lt_iff_toInt_lt, oi_toInt hj, oi_toInt (by omega)] at hl; omega
    · rw [← e, mkB_at h hi hl]
      exact sp_of_ws (chB_rng ..) (wsV0 hw)
  rcases q with q | ⟨l, q⟩ | ⟨l, q⟩ | ⟨l, q⟩
  · exact key 0 0 rfl (by simp) (by rcases h with rfl | rfl | rfl | rfl <;> decide) q (by decide)
  · exact key 1 1 rfl (by simp) (by rcases h with rfl | rfl | rfl | rfl <;> first | decide | exact absurd (by decide) l) q (by decide)
  · exact key 2 2 rfl (by simp) (by rcases h with rfl | rfl | rfl | rfl <;> first | decide | exact absurd (by decide) l) q (by decide)
  · exact key 3 3 rfl (by simp) (by rcases h with rfl | rfl | rfl | rfl <;> first | decide | exact absurd (by decide) l) q (by decide)
theorem and3b (x : Int32) : r4 ((x &&& 3) + 1) := by
  rcases and3 x with r | r | r | r <;> rw [r] <;> decide
theorem len9 {g n p q : Int32} (hp : r4 p) (hq : r4 q) : Int32.ofNat ((mkB g p).map lo8 ++ litI "." ++ (mkB n q).map lo8).length = p + (1 : Int32) + q ∧ ((mkB g p).map lo8 ++ litI "." ++ (mkB n q).map lo8).length ≤ 1000 := by
  have a := mkB_len (b := g) hp
  have b := mkB_len (b := n) hq
  rw [List.length_append, List.length_append, litI_dot, List.length_map, List.length_map]
  refine ⟨?_, by omega⟩
  rw [← oi_add (by omega), ← oi_add (by omega), a.1, b.1]; rfl
/-- the char at i of the whole -/
theorem whole_l {g n p q i : Int32} (hp : r4 p) (hi : i = 0 ∨ i = 1 ∨ i = 2 ∨ i = 3) (h : i < p) : chV ((mkB g p).map lo8 ++ litI "." ++ (mkB n q).map lo8) i = chB g i := by
  have a := mkB_len (b := g) hp
  rw [chV_ll (by rcases hi with rfl | rfl | rfl | rfl <;> decide) (by rw [List.length_map, a.1]; exact h) (by rw [List.length_map]; omega)]
  exact mkB_at hp hi h
theorem whole_m {g n p q : Int32} (hp : r4 p) : chV ((mkB g p).map lo8 ++ litI "." ++ (mkB n q).map lo8) p = 46 := by
  have a := mkB_len (b := g) hp
  exact chV_m (by rw [List.length_map, a.1]) (by rw [List.length_map]; omega)
theorem whole_r {g n p q i : Int32} (hp : r4 p) (hq : r4 q) (hi : i = 0 ∨ i = 1 ∨ i = 2 ∨ i = 3) (h : i < q) : chV ((mkB g p).map lo8 ++ litI "." ++ (mkB n q).map lo8) (p + (i + 1)) = chB n i := by
  have a := mkB_len (b := g) hp
  have e : (p + (i + 1)) - p - 1 = i := by rcases hi with rfl | rfl | rfl | rfl <;> rcases hp with rfl | rfl | rfl | rfl <;> decide
  rw [chV_r (by rcases hi with rfl | rfl | rfl | rfl <;> rcases hp with rfl | rfl | rfl | rfl <;> decide) (by rw [List.length_map, a.1]; rcases hi with rfl | rfl | rfl | rfl <;> rcases hp with rfl | rfl | rfl | rfl <;> decide) (by rw [List.length_map, a.1]; rcases hi with rfl | rfl | rfl | rfl <;> rcases hp with rfl | rfl | rfl | rfl <;> decide) (by rw [List.length_map]; omega) (by rcases hi with rfl | rfl | rfl | rfl <;> rcases hp with rfl | rfl | rfl | rfl <;> decide), List.length_map, a.1, e]
  exact mkB_at hq hi h
theorem in_w {g n p q i : Int32} (hp : r4 p) (hq : r4 q) (h : (i = p ∨ ((i = 0 ∨ i = 1 ∨ i = 2 ∨ i = 3) ∧ i < p)) ∨ ∃ j : Int32, i = p + (j + 1) ∧ (j = 0 ∨ j = 1 ∨ j = 2 ∨ j = 3) ∧ j < q) : ¬ i < 0 ∧ i < Int32.ofNat ((mkB g p).map lo8 ++ litI "." ++ (mkB n q).map lo8).length := by
  rw [(len9 hp hq).1]
  rcases h with (rfl | ⟨h, hl⟩) | ⟨j, rfl, h, hl⟩
  · rcases hp with rfl | rfl | rfl | rfl <;> rcases hq with rfl | rfl | rfl | rfl <;> decide
  · rcases h with rfl | rfl | rfl | rfl <;> rcases hp with rfl | rfl | rfl | rfl <;> rcases hq with rfl | rfl | rfl | rfl <;> first | decide | exact absurd hl (by decide)
  · rcases h with rfl | rfl | rfl | rfl <;> rcases hp with rfl | rfl | rfl | rfl <;> rcases hq with rfl | rfl | rfl | rfl <;> first | decide | exact absurd hl (by decide)

theorem pn12 : plainName "com/example/grid_job_scheduler/gridjobscheduler/JobKeyToStringPinLaw" = true := by first | (simp [plainName, overriddenIn]; done) | decide +kernel
theorem d2_0 : decode method_2_code 0 = .ok (.iload_n 0, 1) := by decide +kernel
theorem d2_1 : decode method_2_code 1 = .ok (.bipush 8, 2) := by decide +kernel
theorem d2_3 : decode method_2_code 3 = .ok (.iload_n 1, 1) := by decide +kernel
theorem d2_4 : decode method_2_code 4 = .ok (.imul, 1) := by decide +kernel
theorem d2_5 : decode method_2_code 5 = .ok (.iushr, 1) := by decide +kernel
theorem d2_6 : decode method_2_code 6 = .ok (.sipush 255, 3) := by decide +kernel
theorem d2_9 : decode method_2_code 9 = .ok (.iand, 1) := by decide +kernel
theorem d2_10 : decode method_2_code 10 = .ok (.i2c, 1) := by decide +kernel
theorem d2_11 : decode method_2_code 11 = .ok (.ireturn, 1) := by decide +kernel
set_option maxRecDepth 65536 in
set_option maxHeartbeats 40000000 in
theorem rm2 (l : Launch) (Z : State) (a0 : Array Value) (hw : ∀ d ∈ tables_1, d.before a0 Z = true) (ws : List Jvm.Cond) (b1 i1 : Int32) (ms : List Addr) (h0 : Heap) (n0 : Nat) (O0 : Old Z n0 h0) (nb : Nat) (hb0 : n0 ≤ nb) (hnb : nb ≤ h0.size) :
    Con l Z ms (⟨"com/example/grid_job_scheduler/gridjobscheduler/JobKeyToStringPinLaw", "ch", "(II)C"⟩ : MethodName) method_2_code 2 (some .char) ws ({ frames := 0, cells := 0, slots := 0, locals := 0 } : Room) #[(.int b1), (.int i1)] h0 (fun v vm h L => v = some (.int (chB b1 i1)) ∧ Fr nb L ∧ h = h0) := by
  refine Con.mk (plainFor_of_name pn12) ?_
  intro p e s m below meth c s₁ Cc X0 e0 eb J0 B0 M0
  obtain ⟨hx, hZ, hown, hby, hml, hnm, hret, hlk⟩ := id Cc
  have N0 := Fr.nil h0.size
  have K0 := Keep.refl h0 []
  show Go p e s below _ _ _ _ s₁ (mkF m 0 #[.val (.int b1), .val (.int i1)] [])
  refine Go.of (fun _ hr => XS.iloadN X0.here hx rfl (hb hby d2_0) rfl  hr) ?_
  show Go p e s below _ _ _ _ s₁ (mkF m 1 #[.val (.int b1), .val (.int i1)] [(.int b1)])
  refine Go.of (fun _ hr => XS.bipush X0.here hx rfl (hb hby d2_1) hr) ?_
  show Go p e s below _ _ _ _ s₁ (mkF m 3 #[.val (.int b1), .val (.int i1)] [(.int (8 : Int32)), (.int b1)])
  refine Go.of (fun _ hr => XS.iloadN X0.here hx rfl (hb hby d2_3) rfl  hr) ?_
  show Go p e s below _ _ _ _ s₁ (mkF m 4 #[.val (.int b1), .val (.int i1)] [(.int i1), (.int (8 : Int32)), (.int b1)])
  refine Go.of (fun _ hr => XS.imul X0.here hx rfl (hb hby d2_4) rfl hr) ?_
  show Go p e s below _ _ _ _ s₁ (mkF m 5 #[.val (.int b1), .val (.int i1)] [(.int ((8 : Int32) * i1)), (.int b1)])
  refine Go.of (fun _ hr => XS.iushr X0.here hx rfl (hb hby d2_5) rfl hr) ?_
  show Go p e s below _ _ _ _ s₁ (mkF m 6 #[.val (.int b1), .val (.int i1)] [(.int ((b1.toUInt32 >>> (((8 : Int32) * i1) &&& 31).toUInt32).toInt32))])
  refine Go.of (fun _ hr => XS.sipush X0.here hx rfl (hb hby d2_6) hr) ?_
  show Go p e s below _ _ _ _ s₁ (mkF m 9 #[.val (.int b1), .val (.int i1)] [(.int (255 : Int32)), (.int ((b1.toUInt32 >>> (((8 : Int32) * i1) &&& 31).toUInt32).toInt32))])
  refine Go.of (fun _ hr => XS.iand X0.here hx rfl (hb hby d2_9) rfl hr) ?_
  show Go p e s below _ _ _ _ s₁ (mkF m 10 #[.val (.int b1), .val (.int i1)] [(.int (((b1.toUInt32 >>> (((8 : Int32) * i1) &&& 31).toUInt32).toInt32) &&& (255 : Int32)))])
  refine Go.of (fun _ hr => XS.i2c X0.here hx rfl (hb hby d2_10) rfl hr) ?_
  show Go p e s below _ _ _ _ s₁ (mkF m 11 #[.val (.int b1), .val (.int i1)] [(.int ((((b1.toUInt32 >>> (((8 : Int32) * i1) &&& 31).toUInt32).toInt32) &&& (255 : Int32)).toUInt32.toUInt16.toUInt32.toInt32))])
  exact Go.retN X0 hx hlk B0 J0 e0 (t := .char) (z' := ((((b1.toUInt32 >>> (((8 : Int32) * i1) &&& 31).toUInt32).toInt32) &&& (255 : Int32)).toUInt32.toUInt16.toUInt32.toInt32)) hret (by simp) (hb hby d2_11) (own_c2 _) (by decide) (by decide) (fun vm_ hw_ => ⟨rfl, (fun y hy => Nat.le_trans hnb (N0 y hy)), rfl⟩)

theorem d3_0 : decode method_3_code 0 = .ok (.iload_n 0, 1) := by decide +kernel
theorem d3_1 : decode method_3_code 1 = .ok (.bipush 32, 2) := by decide +kernel
theorem d3_3 : decode method_3_code 3 = .ok (.if_icmp .eq 27, 3) := by decide +kernel
theorem d3_30 : decode method_3_code 30 = .ok (.iconst 1, 1) := by decide +kernel
theorem d3_31 : decode method_3_code 31 = .ok (.goto 4, 3) := by decide +kernel
theorem d3_35 : decode method_3_code 35 = .ok (.ireturn, 1) := by decide +kernel
theorem d3_6 : decode method_3_code 6 = .ok (.iload_n 0, 1) := by decide +kernel
theorem d3_7 : decode method_3_code 7 = .ok (.bipush 9, 2) := by decide +kernel
theorem d3_9 : decode method_3_code 9 = .ok (.if_icmp .lt 9, 3) := by decide +kernel
theorem d3_18 : decode method_3_code 18 = .ok (.iload_n 0, 1) := by decide +kernel
theorem d3_19 : decode method_3_code 19 = .ok (.bipush 28, 2) := by decide +kernel
theorem d3_21 : decode method_3_code 21 = .ok (.if_icmp .lt 13, 3) := by decide +kernel
theorem d3_34 : decode method_3_code 34 = .ok (.iconst 0, 1) := by decide +kernel
theorem d3_24 : decode method_3_code 24 = .ok (.iload_n 0, 1) := by decide +kernel
theorem d3_25 : decode method_3_code 25 = .ok (.bipush 31, 2) := by decide +kernel
theorem d3_27 : decode method_3_code 27 = .ok (.if_icmp .gt 7, 3) := by decide +kernel
theorem d3_12 : decode method_3_code 12 = .ok (.iload_n 0, 1) := by decide +kernel
theorem d3_13 : decode method_3_code 13 = .ok (.bipush 13, 2) := by decide +kernel
theorem d3_15 : decode method_3_code 15 = .ok (.if_icmp .le 15, 3) := by decide +kernel
set_option maxRecDepth 65536 in
set_option maxHeartbeats 40000000 in
theorem rm3 (l : Launch) (Z : State) (a0 : Array Value) (hw : ∀ d ∈ tables_1, d.before a0 Z = true) (ws : List Jvm.Cond) (c1 : Int32) (ms : List Addr) (h0 : Heap) (n0 : Nat) (O0 : Old Z n0 h0) (nb : Nat) (hb0 : n0 ≤ nb) (hnb : nb ≤ h0.size) :
    Con l Z ms (⟨"com/example/grid_job_scheduler/gridjobscheduler/JobKeyToStringPinLaw", "ws", "(C)Z"⟩ : MethodName) method_3_code 1 (some .boolean) ws ({ frames := 0, cells := 0, slots := 0, locals := 0 } : Room) #[(.int c1)] h0 (fun v vm h L => v = some (.int (wsV c1)) ∧ Fr nb L ∧ h = h0) := by
  refine Con.mk (plainFor_of_name pn12) ?_
  intro p e s m below meth c s₁ Cc X0 e0 eb J0 B0 M0
  obtain ⟨hx, hZ, hown, hby, hml, hnm, hret, hlk⟩ := id Cc
  have N0 := Fr.nil h0.size
  have K0 := Keep.refl h0 []
  show Go p e s below _ _ _ _ s₁ (mkF m 0 #[.val (.int c1)] [])
  refine Go.of (fun _ hr => XS.iloadN X0.here hx rfl (hb hby d3_0) rfl  hr) ?_
  show Go p e s below _ _ _ _ s₁ (mkF m 1 #[.val (.int c1)] [(.int c1)])
  refine Go.of (fun _ hr => XS.bipush X0.here hx rfl (hb hby d3_1) hr) ?_
  show Go p e s below _ _ _ _ s₁ (mkF m 3 #[.val (.int c1)] [(.int (32 : Int32)), (.int c1)])
  by_cases hb3_101 : c1 = (32 : Int32)
  · refine Go.of (fun _ hr => XS.icmpYes X0.here hx rfl (pc0 := 3) (pc' := 30) rfl (hb hby d3_3) rfl (teq hb3_101).1 (by decide) (by decide) hr) ?_
    show Go p e s below _ _ _ _ s₁ (mkF m 30 #[.val (.int c1)] [])
    refine Go.of (fun _ hr => XS.iconst X0.here hx rfl (hb hby d3_30) hr) ?_
    show Go p e s below _ _ _ _ s₁ (mkF m 31 #[.val (.int c1)] [(.int (1 : Int32))])
    refine Go.of (fun _ hr => XS.goto X0.here hx rfl (pc0 := 31) (pc' := 35) rfl (hb hby d3_31) (by decide) (by decide) hr) ?_
    show Go p e s below _ _ _ _ s₁ (mkF m 35 #[.val (.int c1)] [(.int (1 : Int32))])
    exact Go.retN X0 hx hlk B0 J0 e0 (t := .boolean) (z' := (1 : Int32)) hret (by simp) (hb hby d3_35) rfl (by decide) (by decide) (fun vm_ hw_ => ⟨(by simp [wsV, hb3_101]), (fun y hy => Nat.le_trans hnb (N0 y hy)), rfl⟩)
  · refine Go.of (fun _ hr => XS.icmpNo X0.here hx rfl (hb hby d3_3) rfl (feq hb3_101).1 hr) ?_
    show Go p e s below _ _ _ _ s₁ (mkF m 6 #[.val (.int c1)] [])
    refine Go.of (fun _ hr => XS.iloadN X0.here hx rfl (hb hby d3_6) rfl  hr) ?_
    show Go p e s below _ _ _ _ s₁ (mkF m 7 #[.val (.int c1)] [(.int c1)])
    refine Go.of (fun _ hr => XS.bipush X0.here hx rfl (hb hby d3_7) hr) ?_
    show Go p e s below _ _ _ _ s₁ (mkF m 9 #[.val (.int c1)] [(.int (9 : Int32)), (.int c1)])
    by_cases hb9_102 : c1 < (9 : Int32)
    · refine Go.of (fun _ hr => XS.icmpYes X0.here hx rfl (pc0 := 9) (pc' := 18) rfl (hb hby d3_9) rfl (tlt hb9_102).1 (by decide) (by decide) hr) ?_
      show Go p e s below _ _ _ _ s₁ (mkF m 18 #[.val (.int c1)] [])
      refine Go.of (fun _ hr => XS.iloadN X0.here hx rfl (hb hby d3_18) rfl  hr) ?_
      show Go p e s below _ _ _ _ s₁ (mkF m 19 #[.val (.int c1)] [(.int c1)])
      refine Go.of (fun _ hr => XS.bipush X0.here hx rfl (hb hby d3_19) hr) ?_
      show Go p e s below _ _ _ _ s₁ (mkF m 21 #[.val (.int c1)] [(.int (28 : Int32)), (.int c1)])
      by_cases hb21_103 : c1 < (28 : Int32)
      · refine Go.of (fun _ hr => XS.icmpYes X0.here hx rfl (pc0 := 21) (pc' := 34) rfl (hb hby d3_21) rfl (tlt hb21_103).1 (by decide) (by decide) hr) ?_
        show Go p e s below _ _ _ _ s₁ (mkF m 34 #[.val (.int c1)] [])
        refine Go.of (fun _ hr => XS.iconst X0.here hx rfl (hb hby d3_34) hr) ?_
        show Go p e s below _ _ _ _ s₁ (mkF m 35 #[.val (.int c1)] [(.int (0 : Int32))])
        exact Go.retN X0 hx hlk B0 J0 e0 (t := .boolean) (z' := (0 : Int32)) hret (by simp) (hb hby d3_35) rfl (by decide) (by decide) (fun vm_ hw_ => ⟨(by simp [wsV, hb3_101, hb9_102, hb21_103]), (fun y hy => Nat.le_trans hnb (N0 y hy)), rfl⟩)
      · refine Go.of (fun _ hr => XS.icmpNo X0.here hx rfl (hb hby d3_21) rfl (flt hb21_103).1 hr) ?_
        show Go p e s below _ _ _ _ s₁ (mkF m 24 #[.val (.int c1)] [])
        refine Go.of (fun _ hr => XS.iloadN X0.here hx rfl (hb hby d3_24) rfl  hr) ?_
        show Go p e s below _ _ _ _ s₁ (mkF m 25 #[.val (.int c1)] [(.int c1)])
        refine Go.of (fun _ hr => XS.bipush X0.here hx rfl (hb hby d3_25) hr) ?_
        show Go p e s below _ _ _ _ s₁ (mkF m 27 #[.val (.int c1)] [(.int (31 : Int32)), (.int c1)])
        by_cases hb27_104 : (31 : Int32) < c1
        · refine Go.of (fun _ hr => XS.icmpYes X0.here hx rfl (pc0 := 27) (pc' := 34) rfl (hb hby d3_27) rfl (tlt hb27_104).2.2.1 (by decide) (by decide) hr) ?_
          show Go p e s below _ _ _ _ s₁ (mkF m 34 #[.val (.int c1)] [])
          refine Go.of (fun _ hr => XS.iconst X0.here hx rfl (hb hby d3_34) hr) ?_
          show Go p e s below _ _ _ _ s₁ (mkF m 35 #[.val (.int c1)] [(.int (0 : Int32))])
          exact Go.retN X0 hx hlk B0 J0 e0 (t := .boolean) (z' := (0 : Int32)) hret (by simp) (hb hby d3_35) rfl (by decide) (by decide) (fun vm_ hw_ => ⟨(by simp [wsV, hb3_101, hb9_102, hb21_103, hb27_104]), (fun y hy => Nat.le_trans hnb (N0 y hy)), rfl⟩)
        · refine Go.of (fun _ hr => XS.icmpNo X0.here hx rfl (hb hby d3_27) rfl (flt hb27_104).2.2.1 hr) ?_
          show Go p e s below _ _ _ _ s₁ (mkF m 30 #[.val (.int c1)] [])
          refine Go.of (fun _ hr => XS.iconst X0.here hx rfl (hb hby d3_30) hr) ?_
          show Go p e s below _ _ _ _ s₁ (mkF m 31 #[.val (.int c1)] [(.int (1 : Int32))])
          refine Go.of (fun _ hr => XS.goto X0.here hx rfl (pc0 := 31) (pc' := 35) rfl (hb hby d3_31) (by decide) (by decide) hr) ?_
          show Go p e s below _ _ _ _ s₁ (mkF m 35 #[.val (.int c1)] [(.int (1 : Int32))])
          exact Go.retN X0 hx hlk B0 J0 e0 (t := .boolean) (z' := (1 : Int32)) hret (by simp) (hb hby d3_35) rfl (by decide) (by decide) (fun vm_ hw_ => ⟨(by simp [wsV, hb3_101, hb9_102, hb21_103, hb27_104]), (fun y hy => Nat.le_trans hnb (N0 y hy)), rfl⟩)
    · refine Go.of (fun _ hr => XS.icmpNo X0.here hx rfl (hb hby d3_9) rfl (flt hb9_102).1 hr) ?_
      show Go p e s below _ _ _ _ s₁ (mkF m 12 #[.val (.int c1)] [])
      refine Go.of (fun _ hr => XS.iloadN X0.here hx rfl (hb hby d3_12) rfl  hr) ?_
      show Go p e s below _ _ _ _ s₁ (mkF m 13 #[.val (.int c1)] [(.int c1)])
      refine Go.of (fun _ hr => XS.bipush X0.here hx rfl (hb hby d3_13) hr) ?_
      show Go p e s below _ _ _ _ s₁ (mkF m 15 #[.val (.int c1)] [(.int (13 : Int32)), (.int c1)])
      by_cases hb15_105 : (13 : Int32) < c1
      · refine Go.of (fun _ hr => XS.icmpNo X0.here hx rfl (hb hby d3_15) rfl (tlt hb15_105).2.2.2 hr) ?_
        show Go p e s below _ _ _ _ s₁ (mkF m 18 #[.val (.int c1)] [])
        refine Go.of (fun _ hr => XS.iloadN X0.here hx rfl (hb hby d3_18) rfl  hr) ?_
        show Go p e s below _ _ _ _ s₁ (mkF m 19 #[.val (.int c1)] [(.int c1)])
        refine Go.of (fun _ hr => XS.bipush X0.here hx rfl (hb hby d3_19) hr) ?_
        show Go p e s below _ _ _ _ s₁ (mkF m 21 #[.val (.int c1)] [(.int (28 : Int32)), (.int c1)])
        by_cases hb21_106 : c1 < (28 : Int32)
        · refine Go.of (fun _ hr => XS.icmpYes X0.here hx rfl (pc0 := 21) (pc' := 34) rfl (hb hby d3_21) rfl (tlt hb21_106).1 (by decide) (by decide) hr) ?_
          show Go p e s below _ _ _ _ s₁ (mkF m 34 #[.val (.int c1)] [])
          refine Go.of (fun _ hr => XS.iconst X0.here hx rfl (hb hby d3_34) hr) ?_
          show Go p e s below _ _ _ _ s₁ (mkF m 35 #[.val (.int c1)] [(.int (0 : Int32))])
          exact Go.retN X0 hx hlk B0 J0 e0 (t := .boolean) (z' := (0 : Int32)) hret (by simp) (hb hby d3_35) rfl (by decide) (by decide) (fun vm_ hw_ => ⟨(by simp [wsV, hb3_101, hb9_102, hb15_105, hb21_106]), (fun y hy => Nat.le_trans hnb (N0 y hy)), rfl⟩)
        · refine Go.of (fun _ hr => XS.icmpNo X0.here hx rfl (hb hby d3_21) rfl (flt hb21_106).1 hr) ?_
          show Go p e s below _ _ _ _ s₁ (mkF m 24 #[.val (.int c1)] [])
          refine Go.of (fun _ hr => XS.iloadN X0.here hx rfl (hb hby d3_24) rfl  hr) ?_
          show Go p e s below _ _ _ _ s₁ (mkF m 25 #[.val (.int c1)] [(.int c1)])
          refine Go.of (fun _ hr => XS.bipush X0.here hx rfl (hb hby d3_25) hr) ?_
          show Go p e s below _ _ _ _ s₁ (mkF m 27 #[.val (.int c1)] [(.int (31 : Int32)), (.int c1)])
          by_cases hb27_107 : (31 : Int32) < c1
          · refine Go.of (fun _ hr => XS.icmpYes X0.here hx rfl (pc0 := 27) (pc' := 34) rfl (hb hby d3_27) rfl (tlt hb27_107).2.2.1 (by decide) (by decide) hr) ?_
            show Go p e s below _ _ _ _ s₁ (mkF m 34 #[.val (.int c1)] [])
            refine Go.of (fun _ hr => XS.iconst X0.here hx rfl (hb hby d3_34) hr) ?_
            show Go p e s below _ _ _ _ s₁ (mkF m 35 #[.val (.int c1)] [(.int (0 : Int32))])
            exact Go.retN X0 hx hlk B0 J0 e0 (t := .boolean) (z' := (0 : Int32)) hret (by simp) (hb hby d3_35) rfl (by decide) (by decide) (fun vm_ hw_ => ⟨(by simp [wsV, hb3_101, hb9_102, hb15_105, hb21_106, hb27_107]), (fun y hy => Nat.le_trans hnb (N0 y hy)), rfl⟩)
          · refine Go.of (fun _ hr => XS.icmpNo X0.here hx rfl (hb hby d3_27) rfl (flt hb27_107).2.2.1 hr) ?_
            show Go p e s below _ _ _ _ s₁ (mkF m 30 #[.val (.int c1)] [])
            refine Go.of (fun _ hr => XS.iconst X0.here hx rfl (hb hby d3_30) hr) ?_
            show Go p e s below _ _ _ _ s₁ (mkF m 31 #[.val (.int c1)] [(.int (1 : Int32))])
            refine Go.of (fun _ hr => XS.goto X0.here hx rfl (pc0 := 31) (pc' := 35) rfl (hb hby d3_31) (by decide) (by decide) hr) ?_
            show Go p e s below _ _ _ _ s₁ (mkF m 35 #[.val (.int c1)] [(.int (1 : Int32))])
            exact Go.retN X0 hx hlk B0 J0 e0 (t := .boolean) (z' := (1 : Int32)) hret (by simp) (hb hby d3_35) rfl (by decide) (by decide) (fun vm_ hw_ => ⟨(by simp [wsV, hb3_101, hb9_102, hb15_105, hb21_106, hb27_107]), (fun y hy => Nat.le_trans hnb (N0 y hy)), rfl⟩)
      · refine Go.of (fun _ hr => XS.icmpYes X0.here hx rfl (pc0 := 15) (pc' := 30) rfl (hb hby d3_15) rfl (flt hb15_105).2.2.2 (by decide) (by decide) hr) ?_
        show Go p e s below _ _ _ _ s₁ (mkF m 30 #[.val (.int c1)] [])
        refine Go.of (fun _ hr => XS.iconst X0.here hx rfl (hb hby d3_30) hr) ?_
        show Go p e s below _ _ _ _ s₁ (mkF m 31 #[.val (.int c1)] [(.int (1 : Int32))])
        refine Go.of (fun _ hr => XS.goto X0.here hx rfl (pc0 := 31) (pc' := 35) rfl (hb hby d3_31) (by decide) (by decide) hr) ?_
        show Go p e s below _ _ _ _ s₁ (mkF m 35 #[.val (.int c1)] [(.int (1 : Int32))])
        exact Go.retN X0 hx hlk B0 J0 e0 (t := .boolean) (z' := (1 : Int32)) hret (by simp) (hb hby d3_35) rfl (by decide) (by decide) (fun vm_ hw_ => ⟨(by simp [wsV, hb3_101, hb9_102, hb15_105]), (fun y hy => Nat.le_trans hnb (N0 y hy)), rfl⟩)

theorem d1_0 : decode method_4_code 0 = .ok (.iload_n 0, 1) := by decide +kernel
theorem d1_1 : decode method_4_code 1 = .ok (.iconst 0, 1) := by decide +kernel
theorem d1_2 : decode method_4_code 2 = .ok (.invokestatic 7, 3) := by decide +kernel
theorem pd29 : parseMethodDescriptor "(II)C" = some ⟨[.int, .int], some .char⟩ := by decide +kernel
theorem d1_5 : decode method_4_code 5 = .ok (.invokestatic 13, 3) := by decide +kernel
theorem pd30 : parseMethodDescriptor "(C)Z" = some ⟨[.char], some .boolean⟩ := by decide +kernel
theorem d1_8 : decode method_4_code 8 = .ok (.ifCond .eq 55, 3) := by decide +kernel
theorem d1_63 : decode method_4_code 63 = .ok (.iconst 0, 1) := by decide +kernel
theorem d1_64 : decode method_4_code 64 = .ok (.ireturn, 1) := by decide +kernel
theorem d1_11 : decode method_4_code 11 = .ok (.iload_n 1, 1) := by decide +kernel
theorem d1_12 : decode method_4_code 12 = .ok (.iconst 2, 1) := by decide +kernel
theorem d1_13 : decode method_4_code 13 = .ok (.if_icmp .lt 14, 3) := by decide +kernel
theorem d1_27 : decode method_4_code 27 = .ok (.iload_n 1, 1) := by decide +kernel
theorem d1_28 : decode method_4_code 28 = .ok (.iconst 3, 1) := by decide +kernel
theorem d1_29 : decode method_4_code 29 = .ok (.if_icmp .lt 14, 3) := by decide +kernel
theorem d1_43 : decode method_4_code 43 = .ok (.iload_n 1, 1) := by decide +kernel
theorem d1_44 : decode method_4_code 44 = .ok (.iconst 4, 1) := by decide +kernel
theorem d1_45 : decode method_4_code 45 = .ok (.if_icmp .lt 14, 3) := by decide +kernel
theorem d1_59 : decode method_4_code 59 = .ok (.iconst 1, 1) := by decide +kernel
theorem d1_60 : decode method_4_code 60 = .ok (.goto 4, 3) := by decide +kernel
theorem d1_48 : decode method_4_code 48 = .ok (.iload_n 0, 1) := by decide +kernel
theorem d1_49 : decode method_4_code 49 = .ok (.iconst 3, 1) := by decide +kernel
theorem d1_50 : decode method_4_code 50 = .ok (.invokestatic 7, 3) := by decide +kernel
theorem d1_53 : decode method_4_code 53 = .ok (.invokestatic 13, 3) := by decide +kernel
theorem d1_56 : decode method_4_code 56 = .ok (.ifCond .eq 7, 3) := by decide +kernel
theorem d1_32 : decode method_4_code 32 = .ok (.iload_n 0, 1) := by decide +kernel
theorem d1_33 : decode method_4_code 33 = .ok (.iconst 2, 1) := by decide +kernel
theorem d1_34 : decode method_4_code 34 = .ok (.invokestatic 7, 3) := by decide +kernel
theorem d1_37 : decode method_4_code 37 = .ok (.invokestatic 13, 3) := by decide +kernel
theorem d1_40 : decode method_4_code 40 = .ok (.ifCond .eq 23, 3) := by decide +kernel
theorem d1_16 : decode method_4_code 16 = .ok (.iload_n 0, 1) := by decide +kernel
theorem d1_17 : decode method_4_code 17 = .ok (.iconst 1, 1) := by decide +kernel
theorem d1_18 : decode method_4_code 18 = .ok (.invokestatic 7, 3) := by decide +kernel
theorem d1_21 : decode method_4_code 21 = .ok (.invokestatic 13, 3) := by decide +kernel
theorem d1_24 : decode method_4_code 24 = .ok (.ifCond .eq 39, 3) := by decide +kernel
set_option maxRecDepth 65536 in
set_option maxHeartbeats 40000000 in
theorem rm1 (l : Launch) (Z : State) (a0 : Array Value) (hw : ∀ d ∈ tables_1, d.before a0 Z = true) (ws : List Jvm.Cond) (b1 n1 : Int32) (ms : List Addr) (h0 : Heap) (n0 : Nat) (O0 : Old Z n0 h0) (nb : Nat) (hb0 : n0 ≤ nb) (hnb : nb ≤ h0.size) :
    Con l Z ms (⟨"com/example/grid_job_scheduler/gridjobscheduler/JobKeyToStringPinLaw", "blank", "(II)Z"⟩ : MethodName) method_4_code 2 (some .boolean) ws ({ frames := 1, cells := 0, slots := 0, locals := 14 } : Room) #[(.int b1), (.int n1)] h0 (fun v vm h L => ∃ z, v = some (.int z) ∧ (z = 1 ∨ (z = 0 ∧ nbB b1 n1)) ∧ Fr nb L ∧ h = h0) := by
  refine Con.mk (plainFor_of_name pn12) ?_
  intro p e s m below meth c s₁ Cc X0 e0 eb J0 B0 M0
  obtain ⟨hx, hZ, hown, hby, hml, hnm, hret, hlk⟩ := id Cc
  have N0 := Fr.nil h0.size
  have K0 := Keep.refl h0 []
  show Go p e s below _ _ _ _ s₁ (mkF m 0 #[.val (.int b1), .val (.int n1)] [])
  refine Go.of (fun _ hr => XS.iloadN X0.here hx rfl (hb hby d1_0) rfl  hr) ?_
  show Go p e s below _ _ _ _ s₁ (mkF m 1 #[.val (.int b1), .val (.int n1)] [(.int b1)])
  refine Go.of (fun _ hr => XS.iconst X0.here hx rfl (hb hby d1_1) hr) ?_
  show Go p e s below _ _ _ _ s₁ (mkF m 2 #[.val (.int b1), .val (.int n1)] [(.int (0 : Int32)), (.int b1)])
  obtain ⟨_, b101, T101, h101, L101, e101, Cc101, X101, B101, J101, g101, hQ101, st101⟩ := own_callS Cc B0 J0 X0 (hw _ (List.mem_of_getElem? (i := 4) rfl)) (hw _ (List.mem_of_getElem? (i := 5) rfl)) (hw _ (List.mem_of_getElem? (i := 2) rfl)) (hw _ (List.mem_of_getElem? (i := 6) rfl)) (by decide) (rm2 l Z a0 hw [] b1 (0 : Int32) _ h0 n0 O0 h0.size (own_ole O0) K0.1) e0 (g := (mkF m 2 #[.val (.int b1), .val (.int n1)] [(.int (0 : Int32)), (.int b1)])) rfl (by rw [hml]; rfl) (argsL := [(.int b1), (.int (0 : Int32))]) (rest := []) (lenOf pd29 rfl) rfl (W := 0) (by show 2 * 0 + _ ≤ _; exact Nat.le_of_eq rfl) (hb hby d1_2) (by decide) (by decide) (by decide) (by decide)
  obtain ⟨rfl, Nq101, hh101⟩ := hQ101
  have N101 := Fr.app N0 Nq101
  obtain ⟨hx, hZ, hown, hby, hml, hnm, hret, hlk⟩ := id Cc101
  rw [hh101] at e101 B101 J101
  refine Go.of st101 ?_
  show Go p e s below _ _ _ _ T101 (mkF m 5 #[.val (.int b1), .val (.int n1)] [(.int (chB b1 (0 : Int32)))])
  obtain ⟨_, b102, T102, h102, L102, e102, Cc102, X102, B102, J102, g102, hQ102, st102⟩ := own_callS Cc101 B101 J101 X101 (hw _ (List.mem_of_getElem? (i := 7) rfl)) (hw _ (List.mem_of_getElem? (i := 8) rfl)) (hw _ (List.mem_of_getElem? (i := 2) rfl)) (hw _ (List.mem_of_getElem? (i := 9) rfl)) (by decide) (rm3 l Z a0 hw [] (chB b1 (0 : Int32)) _ h0 n0 O0 h0.size (own_ole O0) K0.1) e101 (g := (mkF m 5 #[.val (.int b1), .val (.int n1)] [(.int (chB b1 (0 : Int32)))])) rfl (by rw [hml]; rfl) (argsL := [(.int (chB b1 (0 : Int32)))]) (rest := []) (lenOf pd30 rfl) rfl (W := 0) (by show 2 * 0 + _ ≤ _; exact Nat.le_of_eq rfl) (hb hby d1_5) (by decide) (by decide) (by decide) (by decide)
  obtain ⟨rfl, Nq102, hh102⟩ := hQ102
  have N102 := Fr.app N101 Nq102
  obtain ⟨hx, hZ, hown, hby, hml, hnm, hret, hlk⟩ := id Cc102
  rw [hh102] at e102 B102 J102
  refine Go.of st102 ?_
  show Go p e s below _ _ _ _ T102 (mkF m 8 #[.val (.int b1), .val (.int n1)] [(.int (wsV (chB b1 (0 : Int32))))])
  by_cases hb8_103 : (wsV (chB b1 (0 : Int32))) = (0 : Int32)
  · refine Go.of (fun _ hr => XS.ifYes X102.here hx rfl (pc0 := 8) (pc' := 63) rfl (hb hby d1_8) rfl ((if0 _ _).trans (teq hb8_103).1) (by decide) (by decide) hr) ?_
    show Go p e s below _ _ _ _ T102 (mkF m 63 #[.val (.int b1), .val (.int n1)] [])
    refine Go.of (fun _ hr => XS.iconst X102.here hx rfl (hb hby d1_63) hr) ?_
    show Go p e s below _ _ _ _ T102 (mkF m 64 #[.val (.int b1), .val (.int n1)] [(.int (0 : Int32))])
    exact Go.retN X102 hx hlk B102 J102 e102 (t := .boolean) (z' := (0 : Int32)) hret (by simp) (hb hby d1_64) rfl (by decide) (by decide) (fun vm_ hw_ => ⟨_, rfl, Or.inr ⟨rfl, Or.inl hb8_103⟩, (fun y hy => Nat.le_trans hnb (N102 y hy)), rfl⟩)
  · refine Go.of (fun _ hr => XS.ifNo X102.here hx rfl (hb hby d1_8) rfl ((if0 _ _).trans (feq hb8_103).1) hr) ?_
    show Go p e s below _ _ _ _ T102 (mkF m 11 #[.val (.int b1), .val (.int n1)] [])
    refine Go.of (fun _ hr => XS.iloadN X102.here hx rfl (hb hby d1_11) rfl  hr) ?_
    show Go p e s below _ _ _ _ T102 (mkF m 12 #[.val (.int b1), .val (.int n1)] [(.int n1)])
    refine Go.of (fun _ hr => XS.iconst X102.here hx rfl (hb hby d1_12) hr) ?_
    show Go p e s below _ _ _ _ T102 (mkF m 13 #[.val (.int b1), .val (.int n1)] [(.int (2 : Int32)), (.int n1)])
    by_cases hb13_104 : n1 < (2 : Int32)
    · refine Go.of (fun _ hr => XS.icmpYes X102.here hx rfl (pc0 := 13) (pc' := 27) rfl (hb hby d1_13) rfl (tlt hb13_104).1 (by decide) (by decide) hr) ?_
      show Go p e s below _ _ _ _ T102 (mkF m 27 #[.val (.int b1), .val (.int n1)] [])
      refine Go.of (fun _ hr => XS.iloadN X102.here hx rfl (hb hby d1_27) rfl  hr) ?_
      show Go p e s below _ _ _ _ T102 (mkF m 28 #[.val (.int b1), .val (.int n1)] [(.int n1)])
      refine Go.of (fun _ hr => XS.iconst X102.here hx rfl (hb hby d1_28) hr) ?_
      show Go p e s below _ _ _ _ T102 (mkF m 29 #[.val (.int b1), .val (.int n1)] [(.int (3 : Int32)), (.int n1)])
      by_cases hb29_105 : n1 < (3 : Int32)
      · refine Go.of (fun _ hr => XS.icmpYes X102.here hx rfl (pc0 := 29) (pc' := 43) rfl (hb hby d1_29) rfl (tlt hb29_105).1 (by decide) (by decide) hr) ?_
        show Go p e s below _ _ _ _ T102 (mkF m 43 #[.val (.int b1), .val (.int n1)] [])
        refine Go.of (fun _ hr => XS.iloadN X102.here hx rfl (hb hby d1_43) rfl  hr) ?_
        show Go p e s below _ _ _ _ T102 (mkF m 44 #[.val (.int b1), .val (.int n1)] [(.int n1)])
        refine Go.of (fun _ hr => XS.iconst X102.here hx rfl (hb hby d1_44) hr) ?_
        show Go p e s below _ _ _ _ T102 (mkF m 45 #[.val (.int b1), .val (.int n1)] [(.int (4 : Int32)), (.int n1)])
        by_cases hb45_106 : n1 < (4 : Int32)
        · refine Go.of (fun _ hr => XS.icmpYes X102.here hx rfl (pc0 := 45) (pc' := 59) rfl (hb hby d1_45) rfl (tlt hb45_106).1 (by decide) (by decide) hr) ?_
          show Go p e s below _ _ _ _ T102 (mkF m 59 #[.val (.int b1), .val (.int n1)] [])
          refine Go.of (fun _ hr => XS.iconst X102.here hx rfl (hb hby d1_59) hr) ?_
          show Go p e s below _ _ _ _ T102 (mkF m 60 #[.val (.int b1), .val (.int n1)] [(.int (1 : Int32))])
          refine Go.of (fun _ hr => XS.goto X102.here hx rfl (pc0 := 60) (pc' := 64) rfl (hb hby d1_60) (by decide) (by decide) hr) ?_
          show Go p e s below _ _ _ _ T102 (mkF m 64 #[.val (.int b1), .val (.int n1)] [(.int (1 : Int32))])
          exact Go.retN X102 hx hlk B102 J102 e102 (t := .boolean) (z' := (1 : Int32)) hret (by simp) (hb hby d1_64) rfl (by decide) (by decide) (fun vm_ hw_ => ⟨_, rfl, Or.inl rfl, (fun y hy => Nat.le_trans hnb (N102 y hy)), rfl⟩)
        · refine Go.of (fun _ hr => XS.icmpNo X102.here hx rfl (hb hby d1_45) rfl (flt hb45_106).1 hr) ?_
          show Go p e s below _ _ _ _ T102 (mkF m 48 #[.val (.int b1), .val (.int n1)] [])
          refine Go.of (fun _ hr => XS.iloadN X102.here hx rfl (hb hby d1_48) rfl  hr) ?_
          show Go p e s below _ _ _ _ T102 (mkF m 49 #[.val (.int b1), .val (.int n1)] [(.int b1)])
          refine Go.of (fun _ hr => XS.iconst X102.here hx rfl (hb hby d1_49) hr) ?_
          show Go p e s below _ _ _ _ T102 (mkF m 50 #[.val (.int b1), .val (.int n1)] [(.int (3 : Int32)), (.int b1)])
          obtain ⟨_, b107, T107, h107, L107, e107, Cc107, X107, B107, J107, g107, hQ107, st107⟩ := own_callS Cc102 B102 J102 X102 (hw _ (List.mem_of_getElem? (i := 4) rfl)) (hw _ (List.mem_of_getElem? (i := 5) rfl)) (hw _ (List.mem_of_getElem? (i := 2) rfl)) (hw _ (List.mem_of_getElem? (i := 6) rfl)) (by decide) (rm2 l Z a0 hw [] b1 (3 : Int32) _ h0 n0 O0 h0.size (own_ole O0) K0.1) e102 (g := (mkF m 50 #[.val (.int b1), .val (.int n1)] [(.int (3 : Int32)), (.int b1)])) rfl (by rw [hml]; rfl) (argsL := [(.int b1), (.int (3 : Int32))]) (rest := []) (lenOf pd29 rfl) rfl (W := 0) (by show 2 * 0 + _ ≤ _; exact Nat.le_of_eq rfl) (hb hby d1_50) (by decide) (by decide) (by decide) (by decide)
          obtain ⟨rfl, Nq107, hh107⟩ := hQ107
          have N107 := Fr.app N102 Nq107
          obtain ⟨hx, hZ, hown, hby, hml, hnm, hret, hlk⟩ := id Cc107
          rw [hh107] at e107 B107 J107
          refine Go.of st107 ?_
          show Go p e s below _ _ _ _ T107 (mkF m 53 #[.val (.int b1), .val (.int n1)] [(.int (chB b1 (3 : Int32)))])
          obtain ⟨_, b108, T108, h108, L108, e108, Cc108, X108, B108, J108, g108, hQ108, st108⟩ := own_callS Cc107 B107 J107 X107 (hw _ (List.mem_of_getElem? (i := 7) rfl)) (hw _ (List.mem_of_getElem? (i := 8) rfl)) (hw _ (List.mem_of_getElem? (i := 2) rfl)) (hw _ (List.mem_of_getElem? (i := 9) rfl)) (by decide) (rm3 l Z a0 hw [] (chB b1 (3 : Int32)) _ h0 n0 O0 h0.size (own_ole O0) K0.1) e107 (g := (mkF m 53 #[.val (.int b1), .val (.int n1)] [(.int (chB b1 (3 : Int32)))])) rfl (by rw [hml]; rfl) (argsL := [(.int (chB b1 (3 : Int32)))]) (rest := []) (lenOf pd30 rfl) rfl (W := 0) (by show 2 * 0 + _ ≤ _; exact Nat.le_of_eq rfl) (hb hby d1_53) (by decide) (by decide) (by decide) (by decide)
          obtain ⟨rfl, Nq108, hh108⟩ := hQ108
          have N108 := Fr.app N107 Nq108
          obtain ⟨hx, hZ, hown, hby, hml, hnm, hret, hlk⟩ := id Cc108
          rw [hh108] at e108 B108 J108
          refine Go.of st108 ?_
          show Go p e s below _ _ _ _ T108 (mkF m 56 #[.val (.int b1), .val (.int n1)] [(.int (wsV (chB b1 (3 : Int32))))])
          by_cases hb56_109 : (wsV (chB b1 (3 : Int32))) = (0 : Int32)
          · refine Go.of (fun _ hr => XS.ifYes X108.here hx rfl (pc0 := 56) (pc' := 63) rfl (hb hby d1_56) rfl ((if0 _ _).trans (teq hb56_109).1) (by decide) (by decide) hr) ?_
            show Go p e s below _ _ _ _ T108 (mkF m 63 #[.val (.int b1), .val (.int n1)] [])
            refine Go.of (fun _ hr => XS.iconst X108.here hx rfl (hb hby d1_63) hr) ?_
            show Go p e s below _ _ _ _ T108 (mkF m 64 #[.val (.int b1), .val (.int n1)] [(.int (0 : Int32))])
            exact Go.retN X108 hx hlk B108 J108 e108 (t := .boolean) (z' := (0 : Int32)) hret (by simp) (hb hby d1_64) rfl (by decide) (by decide) (fun vm_ hw_ => ⟨_, rfl, Or.inr ⟨rfl, Or.inr (Or.inr (Or.inr ⟨hb45_106, hb56_109⟩))⟩, (fun y hy => Nat.le_trans hnb (N108 y hy)), rfl⟩)
          · refine Go.of (fun _ hr => XS.ifNo X108.here hx rfl (hb hby d1_56) rfl ((if0 _ _).trans (feq hb56_109).1) hr) ?_
            show Go p e s below _ _ _ _ T108 (mkF m 59 #[.val (.int b1), .val (.int n1)] [])
            refine Go.of (fun _ hr => XS.iconst X108.here hx rfl (hb hby d1_59) hr) ?_
            show Go p e s below _ _ _ _ T108 (mkF m 60 #[.val (.int b1), .val (.int n1)] [(.int (1 : Int32))])
            refine Go.of (fun _ hr => XS.goto X108.here hx rfl (pc0 := 60) (pc' := 64) rfl (hb hby d1_60) (by decide) (by decide) hr) ?_
            show Go p e s below _ _ _ _ T108 (mkF m 64 #[.val (.int b1), .val (.int n1)] [(.int (1 : Int32))])
            exact Go.retN X108 hx hlk B108 J108 e108 (t := .boolean) (z' := (1 : Int32)) hret (by simp) (hb hby d1_64) rfl (by decide) (by decide) (fun vm_ hw_ => ⟨_, rfl, Or.inl rfl, (fun y hy => Nat.le_trans hnb (N108 y hy)), rfl⟩)
      · refine Go.of (fun _ hr => XS.icmpNo X102.here hx rfl (hb hby d1_29) rfl (flt hb29_105).1 hr) ?_
        show Go p e s below _ _ _ _ T102 (mkF m 32 #[.val (.int b1), .val (.int n1)] [])
        refine Go.of (fun _ hr => XS.iloadN X102.here hx rfl (hb hby d1_32) rfl  hr) ?_
        show Go p e s below _ _ _ _ T102 (mkF m 33 #[.val (.int b1), .val (.int n1)] [(.int b1)])
        refine Go.of (fun _ hr => XS.iconst X102.here hx rfl (hb hby d1_33) hr) ?_
        show Go p e s below _ _ _ _ T102 (mkF m 34 #[.val (.int b1), .val (.int n1)] [(.int (2 : Int32)), (.int b1)])
        obtain ⟨_, b110, T110, h110, L110, e110, Cc110, X110, B110, J110, g110, hQ110, st110⟩ := own_callS Cc102 B102 J102 X102 (hw _ (List.mem_of_getElem? (i := 4) rfl)) (hw _ (List.mem_of_getElem? (i := 5) rfl)) (hw _ (List.mem_of_getElem? (i := 2) rfl)) (hw _ (List.mem_of_getElem? (i := 6) rfl)) (by decide) (rm2 l Z a0 hw [] b1 (2 : Int32) _ h0 n0 O0 h0.size (own_ole O0) K0.1) e102 (g := (mkF m 34 #[.val (.int b1), .val (.int n1)] [(.int (2 : Int32)), (.int b1)])) rfl (by rw [hml]; rfl) (argsL := [(.int b1), (.int (2 : Int32))]) (rest := []) (lenOf pd29 rfl) rfl (W := 0) (by show 2 * 0 + _ ≤ _; exact Nat.le_of_eq rfl) (hb hby d1_34) (by decide) (by decide) (by decide) (by decide)
        obtain ⟨rfl, Nq110, hh110⟩ := hQ110
        have N110 := Fr.app N102 Nq110
        obtain ⟨hx, hZ, hown, hby, hml, hnm, hret, hlk⟩ := id Cc110
        rw [hh110] at e110 B110 J110
        refine Go.of st110 ?_
        show Go p e s below _ _ _ _ T110 (mkF m 37 #[.val (.int b1), .val (.int n1)] [(.int (chB b1 (2 : Int32)))])
        obtain ⟨_, b111, T111, h111, L111, e111, Cc111, X111, B111, J111, g111, hQ111, st111⟩ := own_callS Cc110 B110 J110 X110 (hw _ (List.mem_of_getElem? (i := 7) rfl)) (hw _ (List.mem_of_getElem? (i := 8) rfl)) (hw _ (List.mem_of_getElem? (i := 2) rfl)) (hw _ (List.mem_of_getElem? (i := 9) rfl)) (by decide) (rm3 l Z a0 hw [] (chB b1 (2 : Int32)) _ h0 n0 O0 h0.size (own_ole O0) K0.1) e110 (g := (mkF m 37 #[.val (.int b1), .val (.int n1)] [(.int (chB b1 (2 : Int32)))])) rfl (by rw [hml]; rfl) (argsL := [(.int (chB b1 (2 : Int32)))]) (rest := []) (lenOf pd30 rfl) rfl (W := 0) (by show 2 * 0 + _ ≤ _; exact Nat.le_of_eq rfl) (hb hby d1_37) (by decide) (by decide) (by decide) (by decide)
        obtain ⟨rfl, Nq111, hh111⟩ := hQ111
        have N111 := Fr.app N110 Nq111
        obtain ⟨hx, hZ, hown, hby, hml, hnm, hret, hlk⟩ := id Cc111
        rw [hh111] at e111 B111 J111
        refine Go.of st111 ?_
        show Go p e s below _ _ _ _ T111 (mkF m 40 #[.val (.int b1), .val (.int n1)] [(.int (wsV (chB b1 (2 : Int32))))])
        by_cases hb40_112 : (wsV (chB b1 (2 : Int32))) = (0 : Int32)
        · refine Go.of (fun _ hr => XS.ifYes X111.here hx rfl (pc0 := 40) (pc' := 63) rfl (hb hby d1_40) rfl ((if0 _ _).trans (teq hb40_112).1) (by decide) (by decide) hr) ?_
          show Go p e s below _ _ _ _ T111 (mkF m 63 #[.val (.int b1), .val (.int n1)] [])
          refine Go.of (fun _ hr => XS.iconst X111.here hx rfl (hb hby d1_63) hr) ?_
          show Go p e s below _ _ _ _ T111 (mkF m 64 #[.val (.int b1), .val (.int n1)] [(.int (0 : Int32))])
          exact Go.retN X111 hx hlk B111 J111 e111 (t := .boolean) (z' := (0 : Int32)) hret (by simp) (hb hby d1_64) rfl (by decide) (by decide) (fun vm_ hw_ => ⟨_, rfl, Or.inr ⟨rfl, Or.inr (Or.inr (Or.inl ⟨hb29_105, hb40_112⟩))⟩, (fun y hy => Nat.le_trans hnb (N111 y hy)), rfl⟩)
        · refine Go.of (fun _ hr => XS.ifNo X111.here hx rfl (hb hby d1_40) rfl ((if0 _ _).trans (feq hb40_112).1) hr) ?_
          show Go p e s below _ _ _ _ T111 (mkF m 43 #[.val (.int b1), .val (.int n1)] [])
          refine Go.of (fun _ hr => XS.iloadN X111.here hx rfl (hb hby d1_43) rfl  hr) ?_
          show Go p e s below _ _ _ _ T111 (mkF m 44 #[.val (.int b1), .val (.int n1)] [(.int n1)])
          refine Go.of (fun _ hr => XS.iconst X111.here hx rfl (hb hby d1_44) hr) ?_
          show Go p e s below _ _ _ _ T111 (mkF m 45 #[.val (.int b1), .val (.int n1)] [(.int (4 : Int32)), (.int n1)])
          by_cases hb45_113 : n1 < (4 : Int32)
          · refine Go.of (fun _ hr => XS.icmpYes X111.here hx rfl (pc0 := 45) (pc' := 59) rfl (hb hby d1_45) rfl (tlt hb45_113).1 (by decide) (by decide) hr) ?_
            show Go p e s below _ _ _ _ T111 (mkF m 59 #[.val (.int b1), .val (.int n1)] [])
            refine Go.of (fun _ hr => XS.iconst X111.here hx rfl (hb hby d1_59) hr) ?_
            show Go p e s below _ _ _ _ T111 (mkF m 60 #[.val (.int b1), .val (.int n1)] [(.int (1 : Int32))])
            refine Go.of (fun _ hr => XS.goto X111.here hx rfl (pc0 := 60) (pc' := 64) rfl (hb hby d1_60) (by decide) (by decide) hr) ?_
            show Go p e s below _ _ _ _ T111 (mkF m 64 #[.val (.int b1), .val (.int n1)] [(.int (1 : Int32))])
            exact Go.retN X111 hx hlk B111 J111 e111 (t := .boolean) (z' := (1 : Int32)) hret (by simp) (hb hby d1_64) rfl (by decide) (by decide) (fun vm_ hw_ => ⟨_, rfl, Or.inl rfl, (fun y hy => Nat.le_trans hnb (N111 y hy)), rfl⟩)
          · refine Go.of (fun _ hr => XS.icmpNo X111.here hx rfl (hb hby d1_45) rfl (flt hb45_113).1 hr) ?_
            show Go p e s below _ _ _ _ T111 (mkF m 48 #[.val (.int b1), .val (.int n1)] [])
            refine Go.of (fun _ hr => XS.iloadN X111.here hx rfl (hb hby d1_48) rfl  hr) ?_
            show Go p e s below _ _ _ _ T111 (mkF m 49 #[.val (.int b1), .val (.int n1)] [(.int b1)])
            refine Go.of (fun _ hr => XS.iconst X111.here hx rfl (hb hby d1_49) hr) ?_
            show Go p e s below _ _ _ _ T111 (mkF m 50 #[.val (.int b1), .val (.int n1)] [(.int (3 : Int32)), (.int b1)])
            obtain ⟨_, b114, T114, h114, L114, e114, Cc114, X114, B114, J114, g114, hQ114, st114⟩ := own_callS Cc111 B111 J111 X111 (hw _ (List.mem_of_getElem? (i := 4) rfl)) (hw _ (List.mem_of_getElem? (i := 5) rfl)) (hw _ (List.mem_of_getElem? (i := 2) rfl)) (hw _ (List.mem_of_getElem? (i := 6) rfl)) (by decide) (rm2 l Z a0 hw [] b1 (3 : Int32) _ h0 n0 O0 h0.size (own_ole O0) K0.1) e111 (g := (mkF m 50 #[.val (.int b1), .val (.int n1)] [(.int (3 : Int32)), (.int b1)])) rfl (by rw [hml]; rfl) (argsL := [(.int b1), (.int (3 : Int32))]) (rest := []) (lenOf pd29 rfl) rfl (W := 0) (by show 2 * 0 + _ ≤ _; exact Nat.le_of_eq rfl) (hb hby d1_50) (by decide) (by decide) (by decide) (by decide)
            obtain ⟨rfl, Nq114, hh114⟩ := hQ114
            have N114 := Fr.app N111 Nq114
            obtain ⟨hx, hZ, hown, hby, hml, hnm, hret, hlk⟩ := id Cc114
            rw [hh114] at e114 B114 J114
            refine Go.of st114 ?_
            show Go p e s below _ _ _ _ T114 (mkF m 53 #[.val (.int b1), .val (.int n1)] [(.int (chB b1 (3 : Int32)))])
            obtain ⟨_, b115, T115, h115, L115, e115, Cc115, X115, B115, J115, g115, hQ115, st115⟩ := own_callS Cc114 B114 J114 X114 (hw _ (List.mem_of_getElem? (i := 7) rfl)) (hw _ (List.mem_of_getElem? (i := 8) rfl)) (hw _ (List.mem_of_getElem? (i := 2) rfl)) (hw _ (List.mem_of_getElem? (i := 9) rfl)) (by decide) (rm3 l Z a0 hw [] (chB b1 (3 : Int32)) _ h0 n0 O0 h0.size (own_ole O0) K0.1) e114 (g := (mkF m 53 #[.val (.int b1), .val (.int n1)] [(.int (chB b1 (3 : Int32)))])) rfl (by rw [hml]; rfl) (argsL := [(.int (chB b1 (3 : Int32)))]) (rest := []) (lenOf pd30 rfl) rfl (W := 0) (by show 2 * 0 + _ ≤ _; exact Nat.le_of_eq rfl) (hb hby d1_53) (by decide) (by decide) (by decide) (by decide)
            obtain ⟨rfl, Nq115, hh115⟩ := hQ115
            have N115 := Fr.app N114 Nq115
            obtain ⟨hx, hZ, hown, hby, hml, hnm, hret, hlk⟩ := id Cc115
            rw [hh115] at e115 B115 J115
            refine Go.of st115 ?_
            show Go p e s below _ _ _ _ T115 (mkF m 56 #[.val (.int b1), .val (.int n1)] [(.int (wsV (chB b1 (3 : Int32))))])
            by_cases hb56_116 : (wsV (chB b1 (3 : Int32))) = (0 : Int32)
            · refine Go.of (fun _ hr => XS.ifYes X115.here hx rfl (pc0 := 56) (pc' := 63) rfl (hb hby d1_56) rfl ((if0 _ _).trans (teq hb56_116).1) (by decide) (by decide) hr) ?_
              show Go p e s below _ _ _ _ T115 (mkF m 63 #[.val (.int b1), .val (.int n1)] [])
              refine Go.of (fun _ hr => XS.iconst X115.here hx rfl (hb hby d1_63) hr) ?_
              show Go p e s below _ _ _ _ T115 (mkF m 64 #[.val (.int b1), .val (.int n1)] [(.int (0 : Int32))])
              exact Go.retN X115 hx hlk B115 J115 e115 (t := .boolean) (z' := (0 : Int32)) hret (by simp) (hb hby d1_64) rfl (by decide) (by decide) (fun vm_ hw_ => ⟨_, rfl, Or.inr ⟨rfl, Or.inr (Or.inr (Or.inr ⟨hb45_113, hb56_116⟩))⟩, (fun y hy => Nat.le_trans hnb (N115 y hy)), rfl⟩)
            · refine Go.of (fun _ hr => XS.ifNo X115.here hx rfl (hb hby d1_56) rfl ((if0 _ _).trans (feq hb56_116).1) hr) ?_
              show Go p e s below _ _ _ _ T115 (mkF m 59 #[.val (.int b1), .val (.int n1)] [])
              refine Go.of (fun _ hr => XS.iconst X115.here hx rfl (hb hby d1_59) hr) ?_
              show Go p e s below _ _ _ _ T115 (mkF m 60 #[.val (.int b1), .val (.int n1)] [(.int (1 : Int32))])
              refine Go.of (fun _ hr => XS.goto X115.here hx rfl (pc0 := 60) (pc' := 64) rfl (hb hby d1_60) (by decide) (by decide) hr) ?_
              show Go p e s below _ _ _ _ T115 (mkF m 64 #[.val (.int b1), .val (.int n1)] [(.int (1 : Int32))])
              exact Go.retN X115 hx hlk B115 J115 e115 (t := .boolean) (z' := (1 : Int32)) hret (by simp) (hb hby d1_64) rfl (by decide) (by decide) (fun vm_ hw_ => ⟨_, rfl, Or.inl rfl, (fun y hy => Nat.le_trans hnb (N115 y hy)), rfl⟩)
    · refine Go.of (fun _ hr => XS.icmpNo X102.here hx rfl (hb hby d1_13) rfl (flt hb13_104).1 hr) ?_
      show Go p e s below _ _ _ _ T102 (mkF m 16 #[.val (.int b1), .val (.int n1)] [])
      refine Go.of (fun _ hr => XS.iloadN X102.here hx rfl (hb hby d1_16) rfl  hr) ?_
      show Go p e s below _ _ _ _ T102 (mkF m 17 #[.val (.int b1), .val (.int n1)] [(.int b1)])
      refine Go.of (fun _ hr => XS.iconst X102.here hx rfl (hb hby d1_17) hr) ?_
      show Go p e s below _ _ _ _ T102 (mkF m 18 #[.val (.int b1), .val (.int n1)] [(.int (1 : Int32)), (.int b1)])
      obtain ⟨_, b117, T117, h117, L117, e117, Cc117, X117, B117, J117, g117, hQ117, st117⟩ := own_callS Cc102 B102 J102 X102 (hw _ (List.mem_of_getElem? (i := 4) rfl)) (hw _ (List.mem_of_getElem? (i := 5) rfl)) (hw _ (List.mem_of_getElem? (i := 2) rfl)) (hw _ (List.mem_of_getElem? (i := 6) rfl)) (by decide) (rm2 l Z a0 hw [] b1 (1 : Int32) _ h0 n0 O0 h0.size (own_ole O0) K0.1) e102 (g := (mkF m 18 #[.val (.int b1), .val (.int n1)] [(.int (1 : Int32)), (.int b1)])) rfl (by rw [hml]; rfl) (argsL := [(.int b1), (.int (1 : Int32))]) (rest := []) (lenOf pd29 rfl) rfl (W := 0) (by show 2 * 0 + _ ≤ _; exact Nat.le_of_eq rfl) (hb hby d1_18) (by decide) (by decide) (by decide) (by decide)
      obtain ⟨rfl, Nq117, hh117⟩ := hQ117
      have N117 := Fr.app N102 Nq117
      obtain ⟨hx, hZ, hown, hby, hml, hnm, hret, hlk⟩ := id Cc117
      rw [hh117] at e117 B117 J117
      refine Go.of st117 ?_
      show Go p e s below _ _ _ _ T117 (mkF m 21 #[.val (.int b1), .val (.int n1)] [(.int (chB b1 (1 : Int32)))])
      obtain ⟨_, b118, T118, h118, L118, e118, Cc118, X118, B118, J118, g118, hQ118, st118⟩ := own_callS Cc117 B117 J117 X117 (hw _ (List.mem_of_getElem? (i := 7) rfl)) (hw _ (List.mem_of_getElem? (i := 8) rfl)) (hw _ (List.mem_of_getElem? (i := 2) rfl)) (hw _ (List.mem_of_getElem? (i := 9) rfl)) (by decide) (rm3 l Z a0 hw [] (chB b1 (1 : Int32)) _ h0 n0 O0 h0.size (own_ole O0) K0.1) e117 (g := (mkF m 21 #[.val (.int b1), .val (.int n1)] [(.int (chB b1 (1 : Int32)))])) rfl (by rw [hml]; rfl) (argsL := [(.int (chB b1 (1 : Int32)))]) (rest := []) (lenOf pd30 rfl) rfl (W := 0) (by show 2 * 0 + _ ≤ _; exact Nat.le_of_eq rfl) (hb hby d1_21) (by decide) (by decide) (by decide) (by decide)
      obtain ⟨rfl, Nq118, hh118⟩ := hQ118
      have N118 := Fr.app N117 Nq118
      obtain ⟨hx, hZ, hown, hby, hml, hnm, hret, hlk⟩ := id Cc118
      rw [hh118] at e118 B118 J118
      refine Go.of st118 ?_
      show Go p e s below _ _ _ _ T118 (mkF m 24 #[.val (.int b1), .val (.int n1)] [(.int (wsV (chB b1 (1 : Int32))))])
      by_cases hb24_119 : (wsV (chB b1 (1 : Int32))) = (0 : Int32)
      · refine Go.of (fun _ hr => XS.ifYes X118.here hx rfl (pc0 := 24) (pc' := 63) rfl (hb hby d1_24) rfl ((if0 _ _).trans (teq hb24_119).1) (by decide) (by decide) hr) ?_
        show Go p e s below _ _ _ _ T118 (mkF m 63 #[.val (.int b1), .val (.int n1)] [])
        refine Go.of (fun _ hr => XS.iconst X118.here hx rfl (hb hby d1_63) hr) ?_
        show Go p e s below _ _ _ _ T118 (mkF m 64 #[.val (.int b1), .val (.int n1)] [(.int (0 : Int32))])
        exact Go.retN X118 hx hlk B118 J118 e118 (t := .boolean) (z' := (0 : Int32)) hret (by simp) (hb hby d1_64) rfl (by decide) (by decide) (fun vm_ hw_ => ⟨_, rfl, Or.inr ⟨rfl, Or.inr (Or.inl ⟨hb13_104, hb24_119⟩)⟩, (fun y hy => Nat.le_trans hnb (N118 y hy)), rfl⟩)
      · refine Go.of (fun _ hr => XS.ifNo X118.here hx rfl (hb hby d1_24) rfl ((if0 _ _).trans (feq hb24_119).1) hr) ?_
        show Go p e s below _ _ _ _ T118 (mkF m 27 #[.val (.int b1), .val (.int n1)] [])
        refine Go.of (fun _ hr => XS.iloadN X118.here hx rfl (hb hby d1_27) rfl  hr) ?_
        show Go p e s below _ _ _ _ T118 (mkF m 28 #[.val (.int b1), .val (.int n1)] [(.int n1)])
        refine Go.of (fun _ hr => XS.iconst X118.here hx rfl (hb hby d1_28) hr) ?_
        show Go p e s below _ _ _ _ T118 (mkF m 29 #[.val (.int b1), .val (.int n1)] [(.int (3 : Int32)), (.int n1)])
        by_cases hb29_120 : n1 < (3 : Int32)
        · refine Go.of (fun _ hr => XS.icmpYes X118.here hx rfl (pc0 := 29) (pc' := 43) rfl (hb hby d1_29) rfl (tlt hb29_120).1 (by decide) (by decide) hr) ?_
          show Go p e s below _ _ _ _ T118 (mkF m 43 #[.val (.int b1), .val (.int n1)] [])
          refine Go.of (fun _ hr => XS.iloadN X118.here hx rfl (hb hby d1_43) rfl  hr) ?_
          show Go p e s below _ _ _ _ T118 (mkF m 44 #[.val (.int b1), .val (.int n1)] [(.int n1)])
          refine Go.of (fun _ hr => XS.iconst X118.here hx rfl (hb hby d1_44) hr) ?_
          show Go p e s below _ _ _ _ T118 (mkF m 45 #[.val (.int b1), .val (.int n1)] [(.int (4 : Int32)), (.int n1)])
          by_cases hb45_121 : n1 < (4 : Int32)
          · refine Go.of (fun _ hr => XS.icmpYes X118.here hx rfl (pc0 := 45) (pc' := 59) rfl (hb hby d1_45) rfl (tlt hb45_121).1 (by decide) (by decide) hr) ?_
            show Go p e s below _ _ _ _ T118 (mkF m 59 #[.val (.int b1), .val (.int n1)] [])
            refine Go.of (fun _ hr => XS.iconst X118.here hx rfl (hb hby d1_59) hr) ?_
            show Go p e s below _ _ _ _ T118 (mkF m 60 #[.val (.int b1), .val (.int n1)] [(.int (1 : Int32))])
            refine Go.of (fun _ hr => XS.goto X118.here hx rfl (pc0 := 60) (pc' := 64) rfl (hb hby d1_60) (by decide) (by decide) hr) ?_
            show Go p e s below _ _ _ _ T118 (mkF m 64 #[.val (.int b1), .val (.int n1)] [(.int (1 : Int32))])
            exact Go.retN X118 hx hlk B118 J118 e118 (t := .boolean) (z' := (1 : Int32)) hret (by simp) (hb hby d1_64) rfl (by decide) (by decide) (fun vm_ hw_ => ⟨_, rfl, Or.inl rfl, (fun y hy => Nat.le_trans hnb (N118 y hy)), rfl⟩)
          · refine Go.of (fun _ hr => XS.icmpNo X118.here hx rfl (hb hby d1_45) rfl (flt hb45_121).1 hr) ?_
            show Go p e s below _ _ _ _ T118 (mkF m 48 #[.val (.int b1), .val (.int n1)] [])
            refine Go.of (fun _ hr => XS.iloadN X118.here hx rfl (hb hby d1_48) rfl  hr) ?_
            show Go p e s below _ _ _ _ T118 (mkF m 49 #[.val (.int b1), .val (.int n1)] [(.int b1)])
            refine Go.of (fun _ hr => XS.iconst X118.here hx rfl (hb hby d1_49) hr) ?_
            show Go p e s below _ _ _ _ T118 (mkF m 50 #[.val (.int b1), .val (.int n1)] [(.int (3 : Int32)), (.int b1)])
            obtain ⟨_, b122, T122, h122, L122, e122, Cc122, X122, B122, J122, g122, hQ122, st122⟩ := own_callS Cc118 B118 J118 X118 (hw _ (List.mem_of_getElem? (i := 4) rfl)) (hw _ (List.mem_of_getElem? (i := 5) rfl)) (hw _ (List.mem_of_getElem? (i := 2) rfl)) (hw _ (List.mem_of_getElem? (i := 6) rfl)) (by decide) (rm2 l Z a0 hw [] b1 (3 : Int32) _ h0 n0 O0 h0.size (own_ole O0) K0.1) e118 (g := (mkF m 50 #[.val (.int b1), .val (.int n1)] [(.int (3 : Int32)), (.int b1)])) rfl (by rw [hml]; rfl) (argsL := [(.int b1), (.int (3 : Int32))]) (rest := []) (lenOf pd29 rfl) rfl (W := 0) (by show 2 * 0 + _ ≤ _; exact Nat.le_of_eq rfl) (hb hby d1_50) (by decide) (by decide) (by decide) (by decide)
            obtain ⟨rfl, Nq122, hh122⟩ := hQ122
            have N122 := Fr.app N118 Nq122
            obtain ⟨hx, hZ, hown, hby, hml, hnm, hret, hlk⟩ := id Cc122
            rw [hh122] at e122 B122 J122
            refine Go.of st122 ?_
            show Go p e s below _ _ _ _ T122 (mkF m 53 #[.val (.int b1), .val (.int n1)] [(.int (chB b1 (3 : Int32)))])
            obtain ⟨_, b123, T123, h123, L123, e123, Cc123, X123, B123, J123, g123, hQ123, st123⟩ := own_callS Cc122 B122 J122 X122 (hw _ (List.mem_of_getElem? (i := 7) rfl)) (hw _ (List.mem_of_getElem? (i := 8) rfl)) (hw _ (List.mem_of_getElem? (i := 2) rfl)) (hw _ (List.mem_of_getElem? (i := 9) rfl)) (by decide) (rm3 l Z a0 hw [] (chB b1 (3 : Int32)) _ h0 n0 O0 h0.size (own_ole O0) K0.1) e122 (g := (mkF m 53 #[.val (.int b1), .val (.int n1)] [(.int (chB b1 (3 : Int32)))])) rfl (by rw [hml]; rfl) (argsL := [(.int (chB b1 (3 : Int32)))]) (rest := []) (lenOf pd30 rfl) rfl (W := 0) (by show 2 * 0 + _ ≤ _; exact Nat.le_of_eq rfl) (hb hby d1_53) (by decide) (by decide) (by decide) (by decide)
            obtain ⟨rfl, Nq123, hh123⟩ := hQ123
            have N123 := Fr.app N122 Nq123
            obtain ⟨hx, hZ, hown, hby, hml, hnm, hret, hlk⟩ := id Cc123
            rw [hh123] at e123 B123 J123
            refine Go.of st123 ?_
            show Go p e s below _ _ _ _ T123 (mkF m 56 #[.val (.int b1), .val (.int n1)] [(.int (wsV (chB b1 (3 : Int32))))])
            by_cases hb56_124 : (wsV (chB b1 (3 : Int32))) = (0 : Int32)
            · refine Go.of (fun _ hr => XS.ifYes X123.here hx rfl (pc0 := 56) (pc' := 63) rfl (hb hby d1_56) rfl ((if0 _ _).trans (teq hb56_124).1) (by decide) (by decide) hr) ?_
              show Go p e s below _ _ _ _ T123 (mkF m 63 #[.val (.int b1), .val (.int n1)] [])
              refine Go.of (fun _ hr => XS.iconst X123.here hx rfl (hb hby d1_63) hr) ?_
              show Go p e s below _ _ _ _ T123 (mkF m 64 #[.val (.int b1), .val (.int n1)] [(.int (0 : Int32))])
              exact Go.retN X123 hx hlk B123 J123 e123 (t := .boolean) (z' := (0 : Int32)) hret (by simp) (hb hby d1_64) rfl (by decide) (by decide) (fun vm_ hw_ => ⟨_, rfl, Or.inr ⟨rfl, Or.inr (Or.inr (Or.inr ⟨hb45_121, hb56_124⟩))⟩, (fun y hy => Nat.le_trans hnb (N123 y hy)), rfl⟩)
            · refine Go.of (fun _ hr => XS.ifNo X123.here hx rfl (hb hby d1_56) rfl ((if0 _ _).trans (feq hb56_124).1) hr) ?_
              show Go p e s below _ _ _ _ T123 (mkF m 59 #[.val (.int b1), .val (.int n1)] [])
              refine Go.of (fun _ hr => XS.iconst X123.here hx rfl (hb hby d1_59) hr) ?_
              show Go p e s below _ _ _ _ T123 (mkF m 60 #[.val (.int b1), .val (.int n1)] [(.int (1 : Int32))])
              refine Go.of (fun _ hr => XS.goto X123.here hx rfl (pc0 := 60) (pc' := 64) rfl (hb hby d1_60) (by decide) (by decide) hr) ?_
              show Go p e s below _ _ _ _ T123 (mkF m 64 #[.val (.int b1), .val (.int n1)] [(.int (1 : Int32))])
              exact Go.retN X123 hx hlk B123 J123 e123 (t := .boolean) (z' := (1 : Int32)) hret (by simp) (hb hby d1_64) rfl (by decide) (by decide) (fun vm_ hw_ => ⟨_, rfl, Or.inl rfl, (fun y hy => Nat.le_trans hnb (N123 y hy)), rfl⟩)
        · refine Go.of (fun _ hr => XS.icmpNo X118.here hx rfl (hb hby d1_29) rfl (flt hb29_120).1 hr) ?_
          show Go p e s below _ _ _ _ T118 (mkF m 32 #[.val (.int b1), .val (.int n1)] [])
          refine Go.of (fun _ hr => XS.iloadN X118.here hx rfl (hb hby d1_32) rfl  hr) ?_
          show Go p e s below _ _ _ _ T118 (mkF m 33 #[.val (.int b1), .val (.int n1)] [(.int b1)])
          refine Go.of (fun _ hr => XS.iconst X118.here hx rfl (hb hby d1_33) hr) ?_
          show Go p e s below _ _ _ _ T118 (mkF m 34 #[.val (.int b1), .val (.int n1)] [(.int (2 : Int32)), (.int b1)])
          obtain ⟨_, b125, T125, h125, L125, e125, Cc125, X125, B125, J125, g125, hQ125, st125⟩ := own_callS Cc118 B118 J118 X118 (hw _ (List.mem_of_getElem? (i := 4) rfl)) (hw _ (List.mem_of_getElem? (i := 5) rfl)) (hw _ (List.mem_of_getElem? (i := 2) rfl)) (hw _ (List.mem_of_getElem? (i := 6) rfl)) (by decide) (rm2 l Z a0 hw [] b1 (2 : Int32) _ h0 n0 O0 h0.size (own_ole O0) K0.1) e118 (g := (mkF m 34 #[.val (.int b1), .val (.int n1)] [(.int (2 : Int32)), (.int b1)])) rfl (by rw [hml]; rfl) (argsL := [(.int b1), (.int (2 : Int32))]) (rest := []) (lenOf pd29 rfl) rfl (W := 0) (by show 2 * 0 + _ ≤ _; exact Nat.le_of_eq rfl) (hb hby d1_34) (by decide) (by decide) (by decide) (by decide)
          obtain ⟨rfl, Nq125, hh125⟩ := hQ125
          have N125 := Fr.app N118 Nq125
          obtain ⟨hx, hZ, hown, hby, hml, hnm, hret, hlk⟩ := id Cc125
          rw [hh125] at e125 B125 J125
          refine Go.of st125 ?_
          show Go p e s below _ _ _ _ T125 (mkF m 37 #[.val (.int b1), .val (.int n1)] [(.int (chB b1 (2 : Int32)))])
          obtain ⟨_, b126, T126, h126, L126, e126, Cc126, X126, B126, J126, g126, hQ126, st126⟩ := own_callS Cc125 B125 J125 X125 (hw _ (List.mem_of_getElem? (i := 7) rfl)) (hw _ (List.mem_of_getElem? (i := 8) rfl)) (hw _ (List.mem_of_getElem? (i := 2) rfl)) (hw _ (List.mem_of_getElem? (i := 9) rfl)) (by decide) (rm3 l Z a0 hw [] (chB b1 (2 : Int32)) _ h0 n0 O0 h0.size (own_ole O0) K0.1) e125 (g := (mkF m 37 #[.val (.int b1), .val (.int n1)] [(.int (chB b1 (2 : Int32)))])) rfl (by rw [hml]; rfl) (argsL := [(.int (chB b1 (2 : Int32)))]) (rest := []) (lenOf pd30 rfl) rfl (W := 0) (by show 2 * 0 + _ ≤ _; exact Nat.le_of_eq rfl) (hb hby d1_37) (by decide) (by decide) (by decide) (by decide)
          obtain ⟨rfl, Nq126, hh126⟩ := hQ126
          have N126 := Fr.app N125 Nq126
          obtain ⟨hx, hZ, hown, hby, hml, hnm, hret, hlk⟩ := id Cc126
          rw [hh126] at e126 B126 J126
          refine Go.of st126 ?_
          show Go p e s below _ _ _ _ T126 (mkF m 40 #[.val (.int b1), .val (.int n1)] [(.int (wsV (chB b1 (2 : Int32))))])
          by_cases hb40_127 : (wsV (chB b1 (2 : Int32))) = (0 : Int32)
          · refine Go.of (fun _ hr => XS.ifYes X126.here hx rfl (pc0 := 40) (pc' := 63) rfl (hb hby d1_40) rfl ((if0 _ _).trans (teq hb40_127).1) (by decide) (by decide) hr) ?_
            show Go p e s below _ _ _ _ T126 (mkF m 63 #[.val (.int b1), .val (.int n1)] [])
            refine Go.of (fun _ hr => XS.iconst X126.here hx rfl (hb hby d1_63) hr) ?_
            show Go p e s below _ _ _ _ T126 (mkF m 64 #[.val (.int b1), .val (.int n1)] [(.int (0 : Int32))])
            exact Go.retN X126 hx hlk B126 J126 e126 (t := .boolean) (z' := (0 : Int32)) hret (by simp) (hb hby d1_64) rfl (by decide) (by decide) (fun vm_ hw_ => ⟨_, rfl, Or.inr ⟨rfl, Or.inr (Or.inr (Or.inl ⟨hb29_120, hb40_127⟩))⟩, (fun y hy => Nat.le_trans hnb (N126 y hy)), rfl⟩)
          · refine Go.of (fun _ hr => XS.ifNo X126.here hx rfl (hb hby d1_40) rfl ((if0 _ _).trans (feq hb40_127).1) hr) ?_
            show Go p e s below _ _ _ _ T126 (mkF m 43 #[.val (.int b1), .val (.int n1)] [])
            refine Go.of (fun _ hr => XS.iloadN X126.here hx rfl (hb hby d1_43) rfl  hr) ?_
            show Go p e s below _ _ _ _ T126 (mkF m 44 #[.val (.int b1), .val (.int n1)] [(.int n1)])
            refine Go.of (fun _ hr => XS.iconst X126.here hx rfl (hb hby d1_44) hr) ?_
            show Go p e s below _ _ _ _ T126 (mkF m 45 #[.val (.int b1), .val (.int n1)] [(.int (4 : Int32)), (.int n1)])
            by_cases hb45_128 : n1 < (4 : Int32)
            · refine Go.of (fun _ hr => XS.icmpYes X126.here hx rfl (pc0 := 45) (pc' := 59) rfl (hb hby d1_45) rfl (tlt hb45_128).1 (by decide) (by decide) hr) ?_
              show Go p e s below _ _ _ _ T126 (mkF m 59 #[.val (.int b1), .val (.int n1)] [])
              refine Go.of (fun _ hr => XS.iconst X126.here hx rfl (hb hby d1_59) hr) ?_
              show Go p e s below _ _ _ _ T126 (mkF m 60 #[.val (.int b1), .val (.int n1)] [(.int (1 : Int32))])
              refine Go.of (fun _ hr => XS.goto X126.here hx rfl (pc0 := 60) (pc' := 64) rfl (hb hby d1_60) (by decide) (by decide) hr) ?_
              show Go p e s below _ _ _ _ T126 (mkF m 64 #[.val (.int b1), .val (.int n1)] [(.int (1 : Int32))])
              exact Go.retN X126 hx hlk B126 J126 e126 (t := .boolean) (z' := (1 : Int32)) hret (by simp) (hb hby d1_64) rfl (by decide) (by decide) (fun vm_ hw_ => ⟨_, rfl, Or.inl rfl, (fun y hy => Nat.le_trans hnb (N126 y hy)), rfl⟩)
            · refine Go.of (fun _ hr => XS.icmpNo X126.here hx rfl (hb hby d1_45) rfl (flt hb45_128).1 hr) ?_
              show Go p e s below _ _ _ _ T126 (mkF m 48 #[.val (.int b1), .val (.int n1)] [])
              refine Go.of (fun _ hr => XS.iloadN X126.here hx rfl (hb hby d1_48) rfl  hr) ?_
              show Go p e s below _ _ _ _ T126 (mkF m 49 #[.val (.int b1), .val (.int n1)] [(.int b1)])
              refine Go.of (fun _ hr => XS.iconst X126.here hx rfl (hb hby d1_49) hr) ?_
              show Go p e s below _ _ _ _ T126 (mkF m 50 #[.val (.int b1), .val (.int n1)] [(.int (3 : Int32)), (.int b1)])
              obtain ⟨_, b129, T129, h129, L129, e129, Cc129, X129, B129, J129, g129, hQ129, st129⟩ := own_callS Cc126 B126 J126 X126 (hw _ (List.mem_of_getElem? (i := 4) rfl)) (hw _ (List.mem_of_getElem? (i := 5) rfl)) (hw _ (List.mem_of_getElem? (i := 2) rfl)) (hw _ (List.mem_of_getElem? (i := 6) rfl)) (by decide) (rm2 l Z a0 hw [] b1 (3 : Int32) _ h0 n0 O0 h0.size (own_ole O0) K0.1) e126 (g := (mkF m 50 #[.val (.int b1), .val (.int n1)] [(.int (3 : Int32)), (.int b1)])) rfl (by rw [hml]; rfl) (argsL := [(.int b1), (.int (3 : Int32))]) (rest := []) (lenOf pd29 rfl) rfl (W := 0) (by show 2 * 0 + _ ≤ _; exact Nat.le_of_eq rfl) (hb hby d1_50) (by decide) (by decide) (by decide) (by decide)
              obtain ⟨rfl, Nq129, hh129⟩ := hQ129
              have N129 := Fr.app N126 Nq129
              obtain ⟨hx, hZ, hown, hby, hml, hnm, hret, hlk⟩ := id Cc129
              rw [hh129] at e129 B129 J129
              refine Go.of st129 ?_
              show Go p e s below _ _ _ _ T129 (mkF m 53 #[.val (.int b1), .val (.int n1)] [(.int (chB b1 (3 : Int32)))])
              obtain ⟨_, b130, T130, h130, L130, e130, Cc130, X130, B130, J130, g130, hQ130, st130⟩ := own_callS Cc129 B129 J129 X129 (hw _ (List.mem_of_getElem? (i := 7) rfl)) (hw _ (List.mem_of_getElem? (i := 8) rfl)) (hw _ (List.mem_of_getElem? (i := 2) rfl)) (hw _ (List.mem_of_getElem? (i := 9) rfl)) (by decide) (rm3 l Z a0 hw [] (chB b1 (3 : Int32)) _ h0 n0 O0 h0.size (own_ole O0) K0.1) e129 (g := (mkF m 53 #[.val (.int b1), .val (.int n1)] [(.int (chB b1 (3 : Int32)))])) rfl (by rw [hml]; rfl) (argsL := [(.int (chB b1 (3 : Int32)))]) (rest := []) (lenOf pd30 rfl) rfl (W := 0) (by show 2 * 0 + _ ≤ _; exact Nat.le_of_eq rfl) (hb hby d1_53) (by decide) (by decide) (by decide) (by decide)
              obtain ⟨rfl, Nq130, hh130⟩ := hQ130
              have N130 := Fr.app N129 Nq130
              obtain ⟨hx, hZ, hown, hby, hml, hnm, hret, hlk⟩ := id Cc130
              rw [hh130] at e130 B130 J130
              refine Go.of st130 ?_
              show Go p e s below _ _ _ _ T130 (mkF m 56 #[.val (.int b1), .val (.int n1)] [(.int (wsV (chB b1 (3 : Int32))))])
              by_cases hb56_131 : (wsV (chB b1 (3 : Int32))) = (0 : Int32)
              · refine Go.of (fun _ hr => XS.ifYes X130.here hx rfl (pc0 := 56) (pc' := 63) rfl (hb hby d1_56) rfl ((if0 _ _).trans (teq hb56_131).1) (by decide) (by decide) hr) ?_
                show Go p e s below _ _ _ _ T130 (mkF m 63 #[.val (.int b1), .val (.int n1)] [])
                refine Go.of (fun _ hr => XS.iconst X130.here hx rfl (hb hby d1_63) hr) ?_
                show Go p e s below _ _ _ _ T130 (mkF m 64 #[.val (.int b1), .val (.int n1)] [(.int (0 : Int32))])
                exact Go.retN X130 hx hlk B130 J130 e130 (t := .boolean) (z' := (0 : Int32)) hret (by simp) (hb hby d1_64) rfl (by decide) (by decide) (fun vm_ hw_ => ⟨_, rfl, Or.inr ⟨rfl, Or.inr (Or.inr (Or.inr ⟨hb45_128, hb56_131⟩))⟩, (fun y hy => Nat.le_trans hnb (N130 y hy)), rfl⟩)
              · refine Go.of (fun _ hr => XS.ifNo X130.here hx rfl (hb hby d1_56) rfl ((if0 _ _).trans (feq hb56_131).1) hr) ?_
                show Go p e s below _ _ _ _ T130 (mkF m 59 #[.val (.int b1), .val (.int n1)] [])
                refine Go.of (fun _ hr => XS.iconst X130.here hx rfl (hb hby d1_59) hr) ?_
                show Go p e s below _ _ _ _ T130 (mkF m 60 #[.val (.int b1), .val (.int n1)] [(.int (1 : Int32))])
                refine Go.of (fun _ hr => XS.goto X130.here hx rfl (pc0 := 60) (pc' := 64) rfl (hb hby d1_60) (by decide) (by decide) hr) ?_
                show Go p e s below _ _ _ _ T130 (mkF m 64 #[.val (.int b1), .val (.int n1)] [(.int (1 : Int32))])
                exact Go.retN X130 hx hlk B130 J130 e130 (t := .boolean) (z' := (1 : Int32)) hret (by simp) (hb hby d1_64) rfl (by decide) (by decide) (fun vm_ hw_ => ⟨_, rfl, Or.inl rfl, (fun y hy => Nat.le_trans hnb (N130 y hy)), rfl⟩)

theorem d4_0 : decode method_5_code 0 = .ok (.iload_n 0, 1) := by decide +kernel
theorem d4_1 : decode method_5_code 1 = .ok (.iconst 0, 1) := by decide +kernel
theorem d4_2 : decode method_5_code 2 = .ok (.invokestatic 7, 3) := by decide +kernel
theorem d4_5 : decode method_5_code 5 = .ok (.istore_n 2, 1) := by decide +kernel
theorem d4_6 : decode method_5_code 6 = .ok (.iload_n 0, 1) := by decide +kernel
theorem d4_7 : decode method_5_code 7 = .ok (.iconst 1, 1) := by decide +kernel
theorem d4_8 : decode method_5_code 8 = .ok (.invokestatic 7, 3) := by decide +kernel
theorem d4_11 : decode method_5_code 11 = .ok (.istore_n 3, 1) := by decide +kernel
theorem d4_12 : decode method_5_code 12 = .ok (.iload_n 0, 1) := by decide +kernel
theorem d4_13 : decode method_5_code 13 = .ok (.iconst 2, 1) := by decide +kernel
theorem d4_14 : decode method_5_code 14 = .ok (.invokestatic 7, 3) := by decide +kernel
theorem d4_17 : decode method_5_code 17 = .ok (.istore 4, 2) := by decide +kernel
theorem d4_19 : decode method_5_code 19 = .ok (.iload_n 0, 1) := by decide +kernel
theorem d4_20 : decode method_5_code 20 = .ok (.iconst 3, 1) := by decide +kernel
theorem d4_21 : decode method_5_code 21 = .ok (.invokestatic 7, 3) := by decide +kernel
theorem d4_24 : decode method_5_code 24 = .ok (.istore 5, 2) := by decide +kernel
theorem d4_26 : decode method_5_code 26 = .ok (.iload_n 1, 1) := by decide +kernel
theorem d4_27 : decode method_5_code 27 = .ok (.iconst 1, 1) := by decide +kernel
theorem d4_28 : decode method_5_code 28 = .ok (.if_icmp .ne 18, 3) := by decide +kernel
theorem d4_31 : decode method_5_code 31 = .ok (.new 17, 3) := by decide +kernel
theorem d4_34 : decode method_5_code 34 = .ok (.dup, 1) := by decide +kernel
theorem d4_35 : decode method_5_code 35 = .ok (.iconst 1, 1) := by decide +kernel
theorem d4_36 : decode method_5_code 36 = .ok (.newarray .char, 2) := by decide +kernel
theorem d4_38 : decode method_5_code 38 = .ok (.dup, 1) := by decide +kernel
theorem d4_39 : decode method_5_code 39 = .ok (.iconst 0, 1) := by decide +kernel
theorem d4_40 : decode method_5_code 40 = .ok (.iload_n 2, 1) := by decide +kernel
theorem d4_41 : decode method_5_code 41 = .ok (.castore, 1) := by decide +kernel
theorem d4_42 : decode method_5_code 42 = .ok (.invokespecial 19, 3) := by decide +kernel
theorem pd31 : parseMethodDescriptor "([C)V" = some ⟨[(.array .char)], none⟩ := by decide +kernel
theorem d4_45 : decode method_5_code 45 = .ok (.areturn, 1) := by decide +kernel
theorem d4_46 : decode method_5_code 46 = .ok (.iload_n 1, 1) := by decide +kernel
theorem d4_47 : decode method_5_code 47 = .ok (.iconst 2, 1) := by decide +kernel
theorem d4_48 : decode method_5_code 48 = .ok (.if_icmp .ne 22, 3) := by decide +kernel
theorem d4_51 : decode method_5_code 51 = .ok (.new 17, 3) := by decide +kernel
theorem d4_54 : decode method_5_code 54 = .ok (.dup, 1) := by decide +kernel
theorem d4_55 : decode method_5_code 55 = .ok (.iconst 2, 1) := by decide +kernel
theorem d4_56 : decode method_5_code 56 = .ok (.newarray .char, 2) := by decide +kernel
theorem d4_58 : decode method_5_code 58 = .ok (.dup, 1) := by decide +kernel
theorem d4_59 : decode method_5_code 59 = .ok (.iconst 0, 1) := by decide +kernel
theorem d4_60 : decode method_5_code 60 = .ok (.iload_n 2, 1) := by decide +kernel
theorem d4_61 : decode method_5_code 61 = .ok (.castore, 1) := by decide +kernel
theorem d4_62 : decode method_5_code 62 = .ok (.dup, 1) := by decide +kernel
theorem d4_63 : decode method_5_code 63 = .ok (.iconst 1, 1) := by decide +kernel
theorem d4_64 : decode method_5_code 64 = .ok (.iload_n 3, 1) := by decide +kernel
theorem d4_65 : decode method_5_code 65 = .ok (.castore, 1) := by decide +kernel
theorem d4_66 : decode method_5_code 66 = .ok (.invokespecial 19, 3) := by decide +kernel
theorem d4_69 : decode method_5_code 69 = .ok (.areturn, 1) := by decide +kernel
theorem d4_70 : decode method_5_code 70 = .ok (.iload_n 1, 1) := by decide +kernel
theorem d4_71 : decode method_5_code 71 = .ok (.iconst 3, 1) := by decide +kernel
theorem d4_72 : decode method_5_code 72 = .ok (.if_icmp .ne 27, 3) := by decide +kernel
theorem d4_75 : decode method_5_code 75 = .ok (.new 17, 3) := by decide +kernel
theorem d4_78 : decode method_5_code 78 = .ok (.dup, 1) := by decide +kernel
theorem d4_79 : decode method_5_code 79 = .ok (.iconst 3, 1) := by decide +kernel
theorem d4_80 : decode method_5_code 80 = .ok (.newarray .char, 2) := by decide +kernel
theorem d4_82 : decode method_5_code 82 = .ok (.dup, 1) := by decide +kernel
theorem d4_83 : decode method_5_code 83 = .ok (.iconst 0, 1) := by decide +kernel
theorem d4_84 : decode method_5_code 84 = .ok (.iload_n 2, 1) := by decide +kernel
theorem d4_85 : decode method_5_code 85 = .ok (.castore, 1) := by decide +kernel
theorem d4_86 : decode method_5_code 86 = .ok (.dup, 1) := by decide +kernel
theorem d4_87 : decode method_5_code 87 = .ok (.iconst 1, 1) := by decide +kernel
theorem d4_88 : decode method_5_code 88 = .ok (.iload_n 3, 1) := by decide +kernel
theorem d4_89 : decode method_5_code 89 = .ok (.castore, 1) := by decide +kernel
theorem d4_90 : decode method_5_code 90 = .ok (.dup, 1) := by decide +kernel
theorem d4_91 : decode method_5_code 91 = .ok (.iconst 2, 1) := by decide +kernel
theorem d4_92 : decode method_5_code 92 = .ok (.iload 4, 2) := by decide +kernel
theorem d4_94 : decode method_5_code 94 = .ok (.castore, 1) := by decide +kernel
theorem d4_95 : decode method_5_code 95 = .ok (.invokespecial 19, 3) := by decide +kernel
theorem d4_98 : decode method_5_code 98 = .ok (.areturn, 1) := by decide +kernel
theorem d4_99 : decode method_5_code 99 = .ok (.new 17, 3) := by decide +kernel
theorem d4_102 : decode method_5_code 102 = .ok (.dup, 1) := by decide +kernel
theorem d4_103 : decode method_5_code 103 = .ok (.iconst 4, 1) := by decide +kernel
theorem d4_104 : decode method_5_code 104 = .ok (.newarray .char, 2) := by decide +kernel
theorem d4_106 : decode method_5_code 106 = .ok (.dup, 1) := by decide +kernel
theorem d4_107 : decode method_5_code 107 = .ok (.iconst 0, 1) := by decide +kernel
theorem d4_108 : decode method_5_code 108 = .ok (.iload_n 2, 1) := by decide +kernel
theorem d4_109 : decode method_5_code 109 = .ok (.castore, 1) := by decide +kernel
theorem d4_110 : decode method_5_code 110 = .ok (.dup, 1) := by decide +kernel
theorem d4_111 : decode method_5_code 111 = .ok (.iconst 1, 1) := by decide +kernel
theorem d4_112 : decode method_5_code 112 = .ok (.iload_n 3, 1) := by decide +kernel
theorem d4_113 : decode method_5_code 113 = .ok (.castore, 1) := by decide +kernel
theorem d4_114 : decode method_5_code 114 = .ok (.dup, 1) := by decide +kernel
theorem d4_115 : decode method_5_code 115 = .ok (.iconst 2, 1) := by decide +kernel
theorem d4_116 : decode method_5_code 116 = .ok (.iload 4, 2) := by decide +kernel
theorem d4_118 : decode method_5_code 118 = .ok (.castore, 1) := by decide +kernel
theorem d4_119 : decode method_5_code 119 = .ok (.dup, 1) := by decide +kernel
theorem d4_120 : decode method_5_code 120 = .ok (.iconst 3, 1) := by decide +kernel
theorem d4_121 : decode method_5_code 121 = .ok (.iload 5, 2) := by decide +kernel
theorem d4_123 : decode method_5_code 123 = .ok (.castore, 1) := by decide +kernel
theorem d4_124 : decode method_5_code 124 = .ok (.invokespecial 19, 3) := by decide +kernel
theorem d4_127 : decode method_5_code 127 = .ok (.areturn, 1) := by decide +kernel
set_option maxRecDepth 65536 in
set_option maxHeartbeats 40000000 in
theorem rm4 (l : Launch) (Z : State) (a0 : Array Value) (hw : ∀ d ∈ tables_1, d.before a0 Z = true) (ws : List Jvm.Cond) (b1 n1 : Int32) (zc : Int32) (ms : List Addr) (h0 : Heap) (n0 : Nat) (O0 : Old Z n0 h0) (nb : Nat) (hb0 : n0 ≤ nb) (hnb : nb ≤ h0.size) (S_C : Sta Z Z.heap "java/lang/String" "COMPACT_STRINGS" "Z" (.int zc)) (hzc : ¬ zc = 0) :
    Con l Z ms (⟨"com/example/grid_job_scheduler/gridjobscheduler/JobKeyToStringPinLaw", "mk", "(II)Ljava/lang/String;"⟩ : MethodName) method_5_code 6 (some (.object "java/lang/String")) ws ({ frames := 4, cells := 3, slots := 12, locals := 66 } : Room) #[(.int b1), (.int n1)] h0 (fun v vm h L => ∃ r t k, v = some (.ref r) ∧ Fr nb L ∧ Ext h0 h ∧ h0.size ≤ r ∧ t ∉ ms ∧ Exa Z h r "java/lang/String" ∧ Fld Z h r "java/lang/String" "value" "[B" (.ref t) ∧ Fld Z h r "java/lang/String" "coder" "B" (.int 0) ∧ Arv Z h t k .byte (Int32.ofNat ((mkB b1 n1).map lo8).length) (((mkB b1 n1).map lo8).map Value.int) (.int 0)) := by
  refine Con.mk (plainFor_of_name pn12) ?_
  intro p e s m below meth c s₁ Cc X0 e0 eb J0 B0 M0
  obtain ⟨hx, hZ, hown, hby, hml, hnm, hret, hlk⟩ := id Cc
  have N0 := Fr.nil h0.size
  have K0 := Keep.refl h0 []
  show Go p e s below _ _ _ _ s₁ (mkF m 0 #[.val (.int b1), .val (.int n1), .unset, .unset, .unset, .unset] [])
  refine Go.of (fun _ hr => XS.iloadN X0.here hx rfl (hb hby d4_0) rfl  hr) ?_
  show Go p e s below _ _ _ _ s₁ (mkF m 1 #[.val (.int b1), .val (.int n1), .unset, .unset, .unset, .unset] [(.int b1)])
  refine Go.of (fun _ hr => XS.iconst X0.here hx rfl (hb hby d4_1) hr) ?_
  show Go p e s below _ _ _ _ s₁ (mkF m 2 #[.val (.int b1), .val (.int n1), .unset, .unset, .unset, .unset] [(.int (0 : Int32)), (.int b1)])
  obtain ⟨_, b101, T101, h101, L101, e101, Cc101, X101, B101, J101, g101, hQ101, st101⟩ := own_callS Cc B0 J0 X0 (hw _ (List.mem_of_getElem? (i := 4) rfl)) (hw _ (List.mem_of_getElem? (i := 5) rfl)) (hw _ (List.mem_of_getElem? (i := 2) rfl)) (hw _ (List.mem_of_getElem? (i := 6) rfl)) (by decide) (rm2 l Z a0 hw [] b1 (0 : Int32) _ h0 n0 O0 h0.size (own_ole O0) K0.1) e0 (g := (mkF m 2 #[.val (.int b1), .val (.int n1), .unset, .unset, .unset, .unset] [(.int (0 : Int32)), (.int b1)])) rfl (by rw [hml]; rfl) (argsL := [(.int b1), (.int (0 : Int32))]) (rest := []) (lenOf pd29 rfl) rfl (W := 0) (by show 2 * 0 + _ ≤ _; exact Nat.le_of_eq rfl) (hb hby d4_2) (by decide) (by decide) (by decide) (by decide)
  obtain ⟨rfl, Nq101, hh101⟩ := hQ101
  have N101 := Fr.app N0 Nq101
  obtain ⟨hx, hZ, hown, hby, hml, hnm, hret, hlk⟩ := id Cc101
  rw [hh101] at e101 B101 J101
  refine Go.of st101 ?_
  show Go p e s below _ _ _ _ T101 (mkF m 5 #[.val (.int b1), .val (.int n1), .unset, .unset, .unset, .unset] [(.int (chB b1 (0 : Int32)))])
  have hq_ca0 := chB_rng b1 (0 : Int32)
  obtain ⟨ca0, ea0⟩ : ∃ z, z = chB b1 (0 : Int32) := ⟨_, rfl⟩
  rw [← ea0] at hq_ca0 ⊢
  show Go p e s below _ _ _ _ T101 (mkF m 5 #[.val (.int b1), .val (.int n1), .unset, .unset, .unset, .unset] [(.int ca0)])
  refine Go.of (fun _ hr => XS.istoreN X101.here hx rfl (hb hby d4_5) rfl (l' := #[.val (.int b1), .val (.int n1), .val (.int ca0), .unset, .unset, .unset]) rfl hr) ?_
  show Go p e s below _ _ _ _ T101 (mkF m 6 #[.val (.int b1), .val (.int n1), .val (.int ca0), .unset, .unset, .unset] [])
  refine Go.of (fun _ hr => XS.iloadN X101.here hx rfl (hb hby d4_6) rfl  hr) ?_
  show Go p e s below _ _ _ _ T101 (mkF m 7 #[.val (.int b1), .val (.int n1), .val (.int ca0), .unset, .unset, .unset] [(.int b1)])
  refine Go.of (fun _ hr => XS.iconst X101.here hx rfl (hb hby d4_7) hr) ?_
  show Go p e s below _ _ _ _ T101 (mkF m 8 #[.val (.int b1), .val (.int n1), .val (.int ca0), .unset, .unset, .unset] [(.int (1 : Int32)), (.int b1)])
  obtain ⟨_, b102, T102, h102, L102, e102, Cc102, X102, B102, J102, g102, hQ102, st102⟩ := own_callS Cc101 B101 J101 X101 (hw _ (List.mem_of_getElem? (i := 4) rfl)) (hw _ (List.mem_of_getElem? (i := 5) rfl)) (hw _ (List.mem_of_getElem? (i := 2) rfl)) (hw _ (List.mem_of_getElem? (i := 6) rfl)) (by decide) (rm2 l Z a0 hw [] b1 (1 : Int32) _ h0 n0 O0 h0.size (own_ole O0) K0.1) e101 (g := (mkF m 8 #[.val (.int b1), .val (.int n1), .val (.int ca0), .unset, .unset, .unset] [(.int (1 : Int32)), (.int b1)])) rfl (by rw [hml]; rfl) (argsL := [(.int b1), (.int (1 : Int32))]) (rest := []) (lenOf pd29 rfl) rfl (W := 0) (by show 2 * 0 + _ ≤ _; exact Nat.le_of_eq rfl) (hb hby d4_8) (by decide) (by decide) (by decide) (by decide)
  obtain ⟨rfl, Nq102, hh102⟩ := hQ102
  have N102 := Fr.app N101 Nq102
  obtain ⟨hx, hZ, hown, hby, hml, hnm, hret, hlk⟩ := id Cc102
  rw [hh102] at e102 B102 J102
  refine Go.of st102 ?_
  show Go p e s below _ _ _ _ T102 (mkF m 11 #[.val (.int b1), .val (.int n1), .val (.int ca0), .unset, .unset, .unset] [(.int (chB b1 (1 : Int32)))])
  have hq_ca1 := chB_rng b1 (1 : Int32)
  obtain ⟨ca1, ea1⟩ : ∃ z, z = chB b1 (1 : Int32) := ⟨_, rfl⟩
  rw [← ea1] at hq_ca1 ⊢
  show Go p e s below _ _ _ _ T102 (mkF m 11 #[.val (.int b1), .val (.int n1), .val (.int ca0), .unset, .unset, .unset] [(.int ca1)])
  refine Go.of (fun _ hr => XS.istoreN X102.here hx rfl (hb hby d4_11) rfl (l' := #[.val (.int b1), .val (.int n1), .val (.int ca0), .val (.int ca1), .unset, .unset]) rfl hr) ?_
  show Go p e s below _ _ _ _ T102 (mkF m 12 #[.val (.int b1), .val (.int n1), .val (.int ca0), .val (.int ca1), .unset, .unset] [])
  refine Go.of (fun _ hr => XS.iloadN X102.here hx rfl (hb hby d4_12) rfl  hr) ?_
  show Go p e s below _ _ _ _ T102 (mkF m 13 #[.val (.int b1), .val (.int n1), .val (.int ca0), .val (.int ca1), .unset, .unset] [(.int b1)])
  refine Go.of (fun _ hr => XS.iconst X102.here hx rfl (hb hby d4_13) hr) ?_
  show Go p e s below _ _ _ _ T102 (mkF m 14 #[.val (.int b1), .val (.int n1), .val (.int ca0), .val (.int ca1), .unset, .unset] [(.int (2 : Int32)), (.int b1)])
  obtain ⟨_, b103, T103, h103, L103, e103, Cc103, X103, B103, J103, g103, hQ103, st103⟩ := own_callS Cc102 B102 J102 X102 (hw _ (List.mem_of_getElem? (i := 4) rfl)) (hw _ (List.mem_of_getElem? (i := 5) rfl)) (hw _ (List.mem_of_getElem? (i := 2) rfl)) (hw _ (List.mem_of_getElem? (i := 6) rfl)) (by decide) (rm2 l Z a0 hw [] b1 (2 : Int32) _ h0 n0 O0 h0.size (own_ole O0) K0.1) e102 (g := (mkF m 14 #[.val (.int b1), .val (.int n1), .val (.int ca0), .val (.int ca1), .unset, .unset] [(.int (2 : Int32)), (.int b1)])) rfl (by rw [hml]; rfl) (argsL := [(.int b1), (.int (2 : Int32))]) (rest := []) (lenOf pd29 rfl) rfl (W := 0) (by show 2 * 0 + _ ≤ _; exact Nat.le_of_eq rfl) (hb hby d4_14) (by decide) (by decide) (by decide) (by decide)
  obtain ⟨rfl, Nq103, hh103⟩ := hQ103
  have N103 := Fr.app N102 Nq103
  obtain ⟨hx, hZ, hown, hby, hml, hnm, hret, hlk⟩ := id Cc103
  rw [hh103] at e103 B103 J103
  refine Go.of st103 ?_
  show Go p e s below _ _ _ _ T103 (mkF m 17 #[.val (.int b1), .val (.int n1), .val (.int ca0), .val (.int ca1), .unset, .unset] [(.int (chB b1 (2 : Int32)))])
  have hq_ca2 := chB_rng b1 (2 : Int32)
  obtain ⟨ca2, ea2⟩ : ∃ z, z = chB b1 (2 : Int32) := ⟨_, rfl⟩
  rw [← ea2] at hq_ca2 ⊢
  show Go p e s below _ _ _ _ T103 (mkF m 17 #[.val (.int b1), .val (.int n1), .val (.int ca0), .val (.int ca1), .unset, .unset] [(.int ca2)])
  refine Go.of (fun _ hr => XS.istore X103.here hx rfl (hb hby d4_17) rfl (l' := #[.val (.int b1), .val (.int n1), .val (.int ca0), .val (.int ca1), .val (.int ca2), .unset]) rfl hr) ?_
  show Go p e s below _ _ _ _ T103 (mkF m 19 #[.val (.int b1), .val (.int n1), .val (.int ca0), .val (.int ca1), .val (.int ca2), .unset] [])
  refine Go.of (fun _ hr => XS.iloadN X103.here hx rfl (hb hby d4_19) rfl  hr) ?_
  show Go p e s below _ _ _ _ T103 (mkF m 20 #[.val (.int b1), .val (.int n1), .val (.int ca0), .val (.int ca1), .val (.int ca2), .unset] [(.int b1)])
  refine Go.of (fun _ hr => XS.iconst X103.here hx rfl (hb hby d4_20) hr) ?_
  show Go p e s below _ _ _ _ T103 (mkF m 21 #[.val (.int b1), .val (.int n1), .val (.int ca0), .val (.int ca1), .val (.int ca2), .unset] [(.int (3 : Int32)), (.int b1)])
  obtain ⟨_, b104, T104, h104, L104, e104, Cc104, X104, B104, J104, g104, hQ104, st104⟩ := own_callS Cc103 B103 J103 X103 (hw _ (List.mem_of_getElem? (i := 4) rfl)) (hw _ (List.mem_of_getElem? (i := 5) rfl)) (hw _ (List.mem_of_getElem? (i := 2) rfl)) (hw _ (List.mem_of_getElem? (i := 6) rfl)) (by decide) (rm2 l Z a0 hw [] b1 (3 : Int32) _ h0 n0 O0 h0.size (own_ole O0) K0.1) e103 (g := (mkF m 21 #[.val (.int b1), .val (.int n1), .val (.int ca0), .val (.int ca1), .val (.int ca2), .unset] [(.int (3 : Int32)), (.int b1)])) rfl (by rw [hml]; rfl) (argsL := [(.int b1), (.int (3 : Int32))]) (rest := []) (lenOf pd29 rfl) rfl (W := 0) (by show 2 * 0 + _ ≤ _; exact Nat.le_of_eq rfl) (hb hby d4_21) (by decide) (by decide) (by decide) (by decide)
  obtain ⟨rfl, Nq104, hh104⟩ := hQ104
  have N104 := Fr.app N103 Nq104
  obtain ⟨hx, hZ, hown, hby, hml, hnm, hret, hlk⟩ := id Cc104
  rw [hh104] at e104 B104 J104
  refine Go.of st104 ?_
  show Go p e s below _ _ _ _ T104 (mkF m 24 #[.val (.int b1), .val (.int n1), .val (.int ca0), .val (.int ca1), .val (.int ca2), .unset] [(.int (chB b1 (3 : Int32)))])
  have hq_ca3 := chB_rng b1 (3 : Int32)
  obtain ⟨ca3, ea3⟩ : ∃ z, z = chB b1 (3 : Int32) := ⟨_, rfl⟩
  rw [← ea3] at hq_ca3 ⊢
  show Go p e s below _ _ _ _ T104 (mkF m 24 #[.val (.int b1), .val (.int n1), .val (.int ca0), .val (.int ca1), .val (.int ca2), .unset] [(.int ca3)])
  refine Go.of (fun _ hr => XS.istore X104.here hx rfl (hb hby d4_24) rfl (l' := #[.val (.int b1), .val (.int n1), .val (.int ca0), .val (.int ca1), .val (.int ca2), .val (.int ca3)]) rfl hr) ?_
  show Go p e s below _ _ _ _ T104 (mkF m 26 #[.val (.int b1), .val (.int n1), .val (.int ca0), .val (.int ca1), .val (.int ca2), .val (.int ca3)] [])
  refine Go.of (fun _ hr => XS.iloadN X104.here hx rfl (hb hby d4_26) rfl  hr) ?_
  show Go p e s below _ _ _ _ T104 (mkF m 27 #[.val (.int b1), .val (.int n1), .val (.int ca0), .val (.int ca1), .val (.int ca2), .val (.int ca3)] [(.int n1)])
  refine Go.of (fun _ hr => XS.iconst X104.here hx rfl (hb hby d4_27) hr) ?_
  show Go p e s below _ _ _ _ T104 (mkF m 28 #[.val (.int b1), .val (.int n1), .val (.int ca0), .val (.int ca1), .val (.int ca2), .val (.int ca3)] [(.int (1 : Int32)), (.int n1)])
  by_cases hb28_105 : n1 = (1 : Int32)
  · refine Go.of (fun _ hr => XS.icmpNo X104.here hx rfl (hb hby d4_28) rfl (teq hb28_105).2 hr) ?_
    show Go p e s below _ _ _ _ T104 (mkF m 31 #[.val (.int b1), .val (.int n1), .val (.int ca0), .val (.int ca1), .val (.int ca2), .val (.int ca3)] [])
    obtain ⟨T106, h106, X106, e106, E106, A106, D106, -, st106⟩ := newO X104 hx hZ hown (hw _ (List.mem_of_getElem? (i := 16) rfl)) (hw _ (List.mem_of_getElem? (i := 17) rfl)) (hw _ (List.mem_of_getElem? (i := 18) rfl)) e104 (g := (mkF m 31 #[.val (.int b1), .val (.int n1), .val (.int ca0), .val (.int ca1), .val (.int ca2), .val (.int ca3)] [])) rfl (hb hby d4_31) (by decide) (by decide)
    obtain ⟨o106, g106⟩ : ∃ z, z = h0.size := ⟨_, rfl⟩
    rw [← g106] at A106 D106 st106
    have lt106 : o106 < h106.size := A106.lt
    have J106 := J104.add E106 g106 lt106
    have B106 := B104.mono E106.1
    have O106 := O0.ext E106
    have sz106 : h0.size ≤ o106 := Nat.le_trans K0.1 (Nat.le_of_eq g106.symm)
    have fr106 : h0.size ≤ o106 := sz106
    have K106 := K0.ext E106
    have F106_coder : Fld Z h106 o106 "java/lang/String" "coder" "B" (.int (0 : Int32)) := D106 (Or.inr (hw _ (List.mem_of_getElem? (i := 43) rfl))) (ty := .byte) (by decide)
    have F106_value : Fld Z h106 o106 "java/lang/String" "value" "[B" .null := D106 (Or.inr (hw _ (List.mem_of_getElem? (i := 45) rfl))) (ty := (.array .byte)) (by decide)
    refine Go.of (fun _ hr => st106 _ hr) ?_
    show Go p e s below _ _ _ _ T106 (mkF m 34 #[.val (.int b1), .val (.int n1), .val (.int ca0), .val (.int ca1), .val (.int ca2), .val (.int ca3)] [(.ref o106)])
    refine Go.of (fun _ hr => XS.dup X106.here hx rfl (hb hby d4_34) rfl rfl hr) ?_
    show Go p e s below _ _ _ _ T106 (mkF m 35 #[.val (.int b1), .val (.int n1), .val (.int ca0), .val (.int ca1), .val (.int ca2), .val (.int ca3)] [(.ref o106), (.ref o106)])
    refine Go.of (fun _ hr => XS.iconst X106.here hx rfl (hb hby d4_35) hr) ?_
    show Go p e s below _ _ _ _ T106 (mkF m 36 #[.val (.int b1), .val (.int n1), .val (.int ca0), .val (.int ca1), .val (.int ca2), .val (.int ca3)] [(.int (1 : Int32)), (.ref o106), (.ref o106)])
    obtain ⟨T107, h107, k107, X107, e107, E107, A107, st107⟩ := newP X106 hx hZ (hw _ (List.mem_of_getElem? (i := 19) rfl)) e106 (g := (mkF m 36 #[.val (.int b1), .val (.int n1), .val (.int ca0), .val (.int ca1), .val (.int ca2), .val (.int ca3)] [(.int (1 : Int32)), (.ref o106), (.ref o106)])) rfl (hb hby d4_36) rfl (by decide) (cap := 1) (by decide) (by decide) (by decide) (by decide)
    obtain ⟨o107, g107⟩ : ∃ z, z = h106.size := ⟨_, rfl⟩
    rw [← g107] at A107 st107
    have ne_o106_o107 : o106 ≠ o107 := Nat.ne_of_lt (Nat.lt_of_lt_of_le A106.lt (Nat.le_of_eq g107.symm))
    have V107 : Arv Z h107 o107 k107 .char (1 : Int32) [(.int (0 : Int32))] (.int (0 : Int32)) := (Arv.new A107 (by decide)).pad (pad_rep [] (.int (0 : Int32)) 1)
    have lt107 : o107 < h107.size := A107.lt
    have J107 := J106.add E107 g107 lt107
    have B107 := B106.mono E107.1
    have O107 := O106.ext E107
    have sz107 : h0.size ≤ o107 := Nat.le_trans K106.1 (Nat.le_of_eq g107.symm)
    have fr107 : h0.size ≤ o107 := sz107
    have K107 := K106.ext E107
    refine Go.of (fun _ hr => st107 _ hr) ?_
    show Go p e s below _ _ _ _ T107 (mkF m 38 #[.val (.int b1), .val (.int n1), .val (.int ca0), .val (.int ca1), .val (.int ca2), .val (.int ca3)] [(.ref o107), (.ref o106), (.ref o106)])
    refine Go.of (fun _ hr => XS.dup X107.here hx rfl (hb hby d4_38) rfl rfl hr) ?_
    show Go p e s below _ _ _ _ T107 (mkF m 39 #[.val (.int b1), .val (.int n1), .val (.int ca0), .val (.int ca1), .val (.int ca2), .val (.int ca3)] [(.ref o107), (.ref o107), (.ref o106), (.ref o106)])
    refine Go.of (fun _ hr => XS.iconst X107.here hx rfl (hb hby d4_39) hr) ?_
    show Go p e s below _ _ _ _ T107 (mkF m 40 #[.val (.int b1), .val (.int n1), .val (.int ca0), .val (.int ca1), .val (.int ca2), .val (.int ca3)] [(.int (0 : Int32)), (.ref o107), (.ref o107), (.ref o106), (.ref o106)])
    refine Go.of (fun _ hr => XS.iloadN X107.here hx rfl (hb hby d4_40) rfl  hr) ?_
    show Go p e s below _ _ _ _ T107 (mkF m 41 #[.val (.int b1), .val (.int n1), .val (.int ca0), .val (.int ca1), .val (.int ca2), .val (.int ca3)] [(.int ca0), (.int (0 : Int32)), (.ref o107), (.ref o107), (.ref o106), (.ref o106)])
    obtain ⟨cl108, Ar108, q108, S108, N108_, H108, G108⟩ := id V107
    have hin108 : ¬ ((0 : Int32) < 0 ∨ cl108.slots.size ≤ ((0 : Int32)).toNatClampNeg) := inb_of S108 ⟨by decide, by decide⟩
    obtain ⟨T108, h108, X108, e108, W108, st108⟩ := stC X107 hx hZ e107 Ar108 (j := (0 : Int32)) hin108 (g := (mkF m 41 #[.val (.int b1), .val (.int n1), .val (.int ca0), .val (.int ca1), .val (.int ca2), .val (.int ca3)] [(.int ca0), (.int (0 : Int32)), (.ref o107), (.ref o107), (.ref o106), (.ref o106)])) rfl rfl (hb hby d4_41)
    have W108' := W108
    rw [show nar .char ca0 = ca0 from (nar_c hq_ca0.1 (le255 hq_ca0.2))] at W108'
    have V108 : Arv Z h108 o107 k107 .char (1 : Int32) [(.int ca0)] (.int (0 : Int32)) := Arv.set Ar108 q108 S108 N108_ H108 G108 (fits_c hq_ca0.1 (le255 hq_ca0.2)) W108' 0 rfl (by simp)
    have N108 := Fr.snoc X108 N104 fr107
    have J108 := J107.wr W108 (List.mem_cons_self ..)
    have B108 := B107.mono (Nat.le_of_eq W108.size.symm)
    have O108 := O107.wr W108 (Nat.le_trans (own_ole O0) fr107)
    have K108 := K107.wr W108 (Or.inr sz107)
    refine Go.of (fun _ hr => st108 _ hr) ?_
    show Go p e s below _ _ _ _ T108 (mkF m 42 #[.val (.int b1), .val (.int n1), .val (.int ca0), .val (.int ca1), .val (.int ca2), .val (.int ca3)] [(.ref o107), (.ref o106), (.ref o106)])
    have f110 := ((A106.ext E107).wr W108)
    have f111 := ((F106_value.ext E107).other W108 (Or.inl ne_o106_o107))
    have f112 := ((F106_coder.ext E107).other W108 (Or.inl ne_o106_o107))
    obtain ⟨_, b109, T109, h109, L109, e109, Cc109, X109, B109, J109, g109, hQ109, st109⟩ := own_callI Cc104 B108 J108 X108 rfl (hw _ (List.mem_of_getElem? (i := 20) rfl)) (hw _ (List.mem_of_getElem? (i := 21) rfl)) (hw _ (List.mem_of_getElem? (i := 18) rfl)) (hw _ (List.mem_of_getElem? (i := 22) rfl)) (by decide) (rm5 l Z a0 hw [] o106 o107 _ [ca0] _ _ zc _ h108 n0 O108 h0.size (own_ole O0) K108.1 fr106 (List.mem_cons_of_mem _ (List.mem_cons_self ..)) (by simp) (by intro x hx; simp only [List.mem_cons, List.not_mem_nil, or_false] at hx; rcases hx with rfl <;> assumption) (by simp) V108 (Ne.symm ne_o106_o107) f110 f111 f112 S_C hzc) e108 (g := (mkF m 42 #[.val (.int b1), .val (.int n1), .val (.int ca0), .val (.int ca1), .val (.int ca2), .val (.int ca3)] [(.ref o107), (.ref o106), (.ref o106)])) rfl (by rw [hml]; rfl) (argsL := [(.ref o107)]) (rest := [(.ref o106)]) (lenOf pd31 rfl) rfl (W := 1) (by show 2 * 0 + _ ≤ _; exact Nat.le_of_eq rfl) (hb hby d4_42) (by decide) (by decide) (by decide) (by decide)
    obtain ⟨rfl, Nq109, Kq109, t109, kt109, nt109, Fv109, Fc109, Vt109⟩ := hQ109
    have N109 := Fr.app N108 Nq109
    obtain ⟨hx, hZ, hown, hby, hml, hnm, hret, hlk⟩ := id Cc109
    have K109 := K108.trans Kq109 (allS (Or.inr sz106) all0)
    have O109 := O108.keep Kq109 (allS (Nat.le_trans (own_ole O0) fr106) all0)
    refine Go.of st109 ?_
    have nx_t109_o107 : t109 ≠ o107 := fun q => nt109 (by rw [q]; exact (List.mem_cons_self ..))
    have nx_t109_o106 : t109 ≠ o106 := fun q => nt109 (by rw [q]; exact (List.mem_cons_of_mem _ (List.mem_cons_self ..)))
    show Go p e s below _ _ _ _ T109 (mkF m 45 #[.val (.int b1), .val (.int n1), .val (.int ca0), .val (.int ca1), .val (.int ca2), .val (.int ca3)] [(.ref o106)])
    have f113 := (f110.keep Kq109)
    exact Go.retA X109 hx hlk B109 (J109.sub fun x hx => (List.mem_cons_of_mem _ (List.mem_cons_of_mem _ hx))) e109 hret rfl rfl (hb hby d4_45) (by decide) (by decide) (fun vm_ hw_ => ⟨_, _, _, rfl, (fun y hy => Nat.le_trans hnb (N109 y hy)), keep_ext K109, sz106, (fun hz => nt109 (List.mem_cons_of_mem _ (List.mem_cons_of_mem _ hz))), f113, Fv109, Fc109, (by rw [show mkB b1 n1 = [ca0] from by simp [mkB, ea0, ea1, ea2, ea3, hb28_105]]; exact Vt109)⟩)
  · refine Go.of (fun _ hr => XS.icmpYes X104.here hx rfl (pc0 := 28) (pc' := 46) rfl (hb hby d4_28) rfl (feq hb28_105).2 (by decide) (by decide) hr) ?_
    show Go p e s below _ _ _ _ T104 (mkF m 46 #[.val (.int b1), .val (.int n1), .val (.int ca0), .val (.int ca1), .val (.int ca2), .val (.int ca3)] [])
    refine Go.of (fun _ hr => XS.iloadN X104.here hx rfl (hb hby d4_46) rfl  hr) ?_
    show Go p e s below _ _ _ _ T104 (mkF m 47 #[.val (.int b1), .val (.int n1), .val (.int ca0), .val (.int ca1), .val (.int ca2), .val (.int ca3)] [(.int n1)])
    refine Go.of (fun _ hr => XS.iconst X104.here hx rfl (hb hby d4_47) hr) ?_
    show Go p e s below _ _ _ _ T104 (mkF m 48 #[.val (.int b1), .val (.int n1), .val (.int ca0), .val (.int ca1), .val (.int ca2), .val (.int ca3)] [(.int (2 : Int32)), (.int n1)])
    by_cases hb48_114 : n1 = (2 : Int32)
    · refine Go.of (fun _ hr => XS.icmpNo X104.here hx rfl (hb hby d4_48) rfl (teq hb48_114).2 hr) ?_
      show Go p e s below _ _ _ _ T104 (mkF m 51 #[.val (.int b1), .val (.int n1), .val (.int ca0), .val (.int ca1), .val (.int ca2), .val (.int ca3)] [])
      obtain ⟨T115, h115, X115, e115, E115, A115, D115, -, st115⟩ := newO X104 hx hZ hown (hw _ (List.mem_of_getElem? (i := 16) rfl)) (hw _ (List.mem_of_getElem? (i := 17) rfl)) (hw _ (List.mem_of_getElem? (i := 18) rfl)) e104 (g := (mkF m 51 #[.val (.int b1), .val (.int n1), .val (.int ca0), .val (.int ca1), .val (.int ca2), .val (.int ca3)] [])) rfl (hb hby d4_51) (by decide) (by decide)
      obtain ⟨o115, g115⟩ : ∃ z, z = h0.size := ⟨_, rfl⟩
      rw [← g115] at A115 D115 st115
      have lt115 : o115 < h115.size := A115.lt
      have J115 := J104.add E115 g115 lt115
      have B115 := B104.mono E115.1
      have O115 := O0.ext E115
      have sz115 : h0.size ≤ o115 := Nat.le_trans K0.1 (Nat.le_of_eq g115.symm)
      have fr115 : h0.size ≤ o115 := sz115
      have K115 := K0.ext E115
      have F115_coder : Fld Z h115 o115 "java/lang/String" "coder" "B" (.int (0 : Int32)) := D115 (Or.inr (hw _ (List.mem_of_getElem? (i := 43) rfl))) (ty := .byte) (by decide)
      have F115_value : Fld Z h115 o115 "java/lang/String" "value" "[B" .null := D115 (Or.inr (hw _ (List.mem_of_getElem? (i := 45) rfl))) (ty := (.array .byte)) (by decide)
      refine Go.of (fun _ hr => st115 _ hr) ?_
      show Go p e s below _ _ _ _ T115 (mkF m 54 #[.val (.int b1), .val (.int n1), .val (.int ca0), .val (.int ca1), .val (.int ca2), .val (.int ca3)] [(.ref o115)])
      refine Go.of (fun _ hr => XS.dup X115.here hx rfl (hb hby d4_54) rfl rfl hr) ?_
      show Go p e s below _ _ _ _ T115 (mkF m 55 #[.val (.int b1), .val (.int n1), .val (.int ca0), .val (.int ca1), .val (.int ca2), .val (.int ca3)] [(.ref o115), (.ref o115)])
      refine Go.of (fun _ hr => XS.iconst X115.here hx rfl (hb hby d4_55) hr) ?_
      show Go p e s below _ _ _ _ T115 (mkF m 56 #[.val (.int b1), .val (.int n1), .val (.int ca0), .val (.int ca1), .val (.int ca2), .val (.int ca3)] [(.int (2 : Int32)), (.ref o115), (.ref o115)])
      obtain ⟨T116, h116, k116, X116, e116, E116, A116, st116⟩ := newP X115 hx hZ (hw _ (List.mem_of_getElem? (i := 19) rfl)) e115 (g := (mkF m 56 #[.val (.int b1), .val (.int n1), .val (.int ca0), .val (.int ca1), .val (.int ca2), .val (.int ca3)] [(.int (2 : Int32)), (.ref o115), (.ref o115)])) rfl (hb hby d4_56) rfl (by decide) (cap := 2) (by decide) (by decide) (by decide) (by decide)
      obtain ⟨o116, g116⟩ : ∃ z, z = h115.size := ⟨_, rfl⟩
      rw [← g116] at A116 st116
      have ne_o115_o116 : o115 ≠ o116 := Nat.ne_of_lt (Nat.lt_of_lt_of_le A115.lt (Nat.le_of_eq g116.symm))
      have V116 : Arv Z h116 o116 k116 .char (2 : Int32) [(.int (0 : Int32)), (.int (0 : Int32))] (.int (0 : Int32)) := (Arv.new A116 (by decide)).pad (pad_rep [] (.int (0 : Int32)) 2)
      have lt116 : o116 < h116.size := A116.lt
      have J116 := J115.add E116 g116 lt116
      have B116 := B115.mono E116.1
      have O116 := O115.ext E116
      have sz116 : h0.size ≤ o116 := Nat.le_trans K115.1 (Nat.le_of_eq g116.symm)
      have fr116 : h0.size ≤ o116 := sz116
      have K116 := K115.ext E116
      refine Go.of (fun _ hr => st116 _ hr) ?_
      show Go p e s below _ _ _ _ T116 (mkF m 58 #[.val (.int b1), .val (.int n1), .val (.int ca0), .val (.int ca1), .val (.int ca2), .val (.int ca3)] [(.ref o116), (.ref o115), (.ref o115)])
      refine Go.of (fun _ hr => XS.dup X116.here hx rfl (hb hby d4_58) rfl rfl hr) ?_
      show Go p e s below _ _ _ _ T116 (mkF m 59 #[.val (.int b1), .val (.int n1), .val (.int ca0), .val (.int ca1), .val (.int ca2), .val (.int ca3)] [(.ref o116), (.ref o116), (.ref o115), (.ref o115)])
      refine Go.of (fun _ hr => XS.iconst X116.here hx rfl (hb hby d4_59) hr) ?_
      show Go p e s below _ _ _ _ T116 (mkF m 60 #[.val (.int b1), .val (.int n1), .val (.int ca0), .val (.int ca1), .val (.int ca2), .val (.int ca3)] [(.int (0 : Int32)), (.ref o116), (.ref o116), (.ref o115), (.ref o115)])
      refine Go.of (fun _ hr => XS.iloadN X116.here hx rfl (hb hby d4_60) rfl  hr) ?_
      show Go p e s below _ _ _ _ T116 (mkF m 61 #[.val (.int b1), .val (.int n1), .val (.int ca0), .val (.int ca1), .val (.int ca2), .val (.int ca3)] [(.int ca0), (.int (0 : Int32)), (.ref o116), (.ref o116), (.ref o115), (.ref o115)])
      obtain ⟨cl117, Ar117, q117, S117, N117_, H117, G117⟩ := id V116
      have hin117 : ¬ ((0 : Int32) < 0 ∨ cl117.slots.size ≤ ((0 : Int32)).toNatClampNeg) := inb_of S117 ⟨by decide, by decide⟩
      obtain ⟨T117, h117, X117, e117, W117, st117⟩ := stC X116 hx hZ e116 Ar117 (j := (0 : Int32)) hin117 (g := (mkF m 61 #[.val (.int b1), .val (.int n1), .val (.int ca0), .val (.int ca1), .val (.int ca2), .val (.int ca3)] [(.int ca0), (.int (0 : Int32)), (.ref o116), (.ref o116), (.ref o115), (.ref o115)])) rfl rfl (hb hby d4_61)
      have W117' := W117
      rw [show nar .char ca0 = ca0 from (nar_c hq_ca0.1 (le255 hq_ca0.2))] at W117'
      have V117 : Arv Z h117 o116 k116 .char (2 : Int32) [(.int ca0), (.int (0 : Int32))] (.int (0 : Int32)) := Arv.set Ar117 q117 S117 N117_ H117 G117 (fits_c hq_ca0.1 (le255 hq_ca0.2)) W117' 0 rfl (by simp)
      have N117 := Fr.snoc X117 N104 fr116
      have J117 := J116.wr W117 (List.mem_cons_self ..)
      have B117 := B116.mono (Nat.le_of_eq W117.size.symm)
      have O117 := O116.wr W117 (Nat.le_trans (own_ole O0) fr116)
      have K117 := K116.wr W117 (Or.inr sz116)
      refine Go.of (fun _ hr => st117 _ hr) ?_
      show Go p e s below _ _ _ _ T117 (mkF m 62 #[.val (.int b1), .val (.int n1), .val (.int ca0), .val (.int ca1), .val (.int ca2), .val (.int ca3)] [(.ref o116), (.ref o115), (.ref o115)])
      refine Go.of (fun _ hr => XS.dup X117.here hx rfl (hb hby d4_62) rfl rfl hr) ?_
      show Go p e s below _ _ _ _ T117 (mkF m 63 #[.val (.int b1), .val (.int n1), .val (.int ca0), .val (.int ca1), .val (.int ca2), .val (.int ca3)] [(.ref o116), (.ref o116), (.ref o115), (.ref o115)])
      refine Go.of (fun _ hr => XS.iconst X117.here hx rfl (hb hby d4_63) hr) ?_
      show Go p e s below _ _ _ _ T117 (mkF m 64 #[.val (.int b1), .val (.int n1), .val (.int ca0), .val (.int ca1), .val (.int ca2), .val (.int ca3)] [(.int (1 : Int32)), (.ref o116), (.ref o116), (.ref o115), (.ref o115)])
      refine Go.of (fun _ hr => XS.iloadN X117.here hx rfl (hb hby d4_64) rfl  hr) ?_
      show Go p e s below _ _ _ _ T117 (mkF m 65 #[.val (.int b1), .val (.int n1), .val (.int ca0), .val (.int ca1), .val (.int ca2), .val (.int ca3)] [(.int ca1), (.int (1 : Int32)), (.ref o116), (.ref o116), (.ref o115), (.ref o115)])
      obtain ⟨cl118, Ar118, q118, S118, N118_, H118, G118⟩ := id V117
      have hin118 : ¬ ((1 : Int32) < 0 ∨ cl118.slots.size ≤ ((1 : Int32)).toNatClampNeg) := inb_of S118 ⟨by decide, by decide⟩
      obtain ⟨T118, h118, X118, e118, W118, st118⟩ := stC X117 hx hZ e117 Ar118 (j := (1 : Int32)) hin118 (g := (mkF m 65 #[.val (.int b1), .val (.int n1), .val (.int ca0), .val (.int ca1), .val (.int ca2), .val (.int ca3)] [(.int ca1), (.int (1 : Int32)), (.ref o116), (.ref o116), (.ref o115), (.ref o115)])) rfl rfl (hb hby d4_65)
      have W118' := W118
      rw [show nar .char ca1 = ca1 from (nar_c hq_ca1.1 (le255 hq_ca1.2))] at W118'
      have V118 : Arv Z h118 o116 k116 .char (2 : Int32) [(.int ca0), (.int ca1)] (.int (0 : Int32)) := Arv.set Ar118 q118 S118 N118_ H118 G118 (fits_c hq_ca1.1 (le255 hq_ca1.2)) W118' 1 rfl (by simp)
      have N118 := Fr.snoc X118 N117 fr116
      have J118 := J117.wr W118 (List.mem_cons_self ..)
      have B118 := B117.mono (Nat.le_of_eq W118.size.symm)
      have O118 := O117.wr W118 (Nat.le_trans (own_ole O0) fr116)
      have K118 := K117.wr W118 (Or.inr sz116)
      refine Go.of (fun _ hr => st118 _ hr) ?_
      show Go p e s below _ _ _ _ T118 (mkF m 66 #[.val (.int b1), .val (.int n1), .val (.int ca0), .val (.int ca1), .val (.int ca2), .val (.int ca3)] [(.ref o116), (.ref o115), (.ref o115)])
      have f120 := (((A115.ext E116).wr W117).wr W118)
      have f121 := (((F115_value.ext E116).other W117 (Or.inl ne_o115_o116)).other W118 (Or.inl ne_o115_o116))
      have f122 := (((F115_coder.ext E116).other W117 (Or.inl ne_o115_o116)).other W118 (Or.inl ne_o115_o116))
      obtain ⟨_, b119, T119, h119, L119, e119, Cc119, X119, B119, J119, g119, hQ119, st119⟩ := own_callI Cc104 B118 J118 X118 rfl (hw _ (List.mem_of_getElem? (i := 20) rfl)) (hw _ (List.mem_of_getElem? (i := 21) rfl)) (hw _ (List.mem_of_getElem? (i := 18) rfl)) (hw _ (List.mem_of_getElem? (i := 22) rfl)) (by decide) (rm5 l Z a0 hw [] o115 o116 _ [ca0, ca1] _ _ zc _ h118 n0 O118 h0.size (own_ole O0) K118.1 fr115 (List.mem_cons_of_mem _ (List.mem_cons_self ..)) (by simp) (by intro x hx; simp only [List.mem_cons, List.not_mem_nil, or_false] at hx; rcases hx with rfl | rfl <;> assumption) (by simp) V118 (Ne.symm ne_o115_o116) f120 f121 f122 S_C hzc) e118 (g := (mkF m 66 #[.val (.int b1), .val (.int n1), .val (.int ca0), .val (.int ca1), .val (.int ca2), .val (.int ca3)] [(.ref o116), (.ref o115), (.ref o115)])) rfl (by rw [hml]; rfl) (argsL := [(.ref o116)]) (rest := [(.ref o115)]) (lenOf pd31 rfl) rfl (W := 1) (by show 2 * 0 + _ ≤ _; exact Nat.le_of_eq rfl) (hb hby d4_66) (by decide) (by decide) (by decide) (by decide)
      obtain ⟨rfl, Nq119, Kq119, t119, kt119, nt119, Fv119, Fc119, Vt119⟩ := hQ119
      have N119 := Fr.app N118 Nq119
      obtain ⟨hx, hZ, hown, hby, hml, hnm, hret, hlk⟩ := id Cc119
      have K119 := K118.trans Kq119 (allS (Or.inr sz115) all0)
      have O119 := O118.keep Kq119 (allS (Nat.le_trans (own_ole O0) fr115) all0)
      refine Go.of st119 ?_
      have nx_t119_o116 : t119 ≠ o116 := fun q => nt119 (by rw [q]; exact (List.mem_cons_self ..))
      have nx_t119_o115 : t119 ≠ o115 := fun q => nt119 (by rw [q]; exact (List.mem_cons_of_mem _ (List.mem_cons_self ..)))
      show Go p e s below _ _ _ _ T119 (mkF m 69 #[.val (.int b1), .val (.int n1), .val (.int ca0), .val (.int ca1), .val (.int ca2), .val (.int ca3)] [(.ref o115)])
      have f123 := (f120.keep Kq119)
      exact Go.retA X119 hx hlk B119 (J119.sub fun x hx => (List.mem_cons_of_mem _ (List.mem_cons_of_mem _ hx))) e119 hret rfl rfl (hb hby d4_69) (by decide) (by decide) (fun vm_ hw_ => ⟨_, _, _, rfl, (fun y hy => Nat.le_trans hnb (N119 y hy)), keep_ext K119, sz115, (fun hz => nt119 (List.mem_cons_of_mem _ (List.mem_cons_of_mem _ hz))), f123, Fv119, Fc119, (by rw [show mkB b1 n1 = [ca0, ca1] from by simp [mkB, ea0, ea1, ea2, ea3, hb28_105, hb48_114]]; exact Vt119)⟩)
    · refine Go.of (fun _ hr => XS.icmpYes X104.here hx rfl (pc0 := 48) (pc' := 70) rfl (hb hby d4_48) rfl (feq hb48_114).2 (by decide) (by decide) hr) ?_
      show Go p e s below _ _ _ _ T104 (mkF m 70 #[.val (.int b1), .val (.int n1), .val (.int ca0), .val (.int ca1), .val (.int ca2), .val (.int ca3)] [])
      refine Go.of (fun _ hr => XS.iloadN X104.here hx rfl (hb hby d4_70) rfl  hr) ?_
      show Go p e s below _ _ _ _ T104 (mkF m 71 #[.val (.int b1), .val (.int n1), .val (.int ca0), .val (.int ca1), .val (.int ca2), .val (.int ca3)] [(.int n1)])
      refine Go.of (fun _ hr => XS.iconst X104.here hx rfl (hb hby d4_71) hr) ?_
      show Go p e s below _ _ _ _ T104 (mkF m 72 #[.val (.int b1), .val (.int n1), .val (.int ca0), .val (.int ca1), .val (.int ca2), .val (.int ca3)] [(.int (3 : Int32)), (.int n1)])
      by_cases hb72_124 : n1 = (3 : Int32)
      · refine Go.of (fun _ hr => XS.icmpNo X104.here hx rfl (hb hby d4_72) rfl (teq hb72_124).2 hr) ?_
        show Go p e s below _ _ _ _ T104 (mkF m 75 #[.val (.int b1), .val (.int n1), .val (.int ca0), .val (.int ca1), .val (.int ca2), .val (.int ca3)] [])
        obtain ⟨T125, h125, X125, e125, E125, A125, D125, -, st125⟩ := newO X104 hx hZ hown (hw _ (List.mem_of_getElem? (i := 16) rfl)) (hw _ (List.mem_of_getElem? (i := 17) rfl)) (hw _ (List.mem_of_getElem? (i := 18) rfl)) e104 (g := (mkF m 75 #[.val (.int b1), .val (.int n1), .val (.int ca0), .val (.int ca1), .val (.int ca2), .val (.int ca3)] [])) rfl (hb hby d4_75) (by decide) (by decide)
        obtain ⟨o125, g125⟩ : ∃ z, z = h0.size := ⟨_, rfl⟩
        rw [← g125] at A125 D125 st125
        have lt125 : o125 < h125.size := A125.lt
        have J125 := J104.add E125 g125 lt125
        have B125 := B104.mono E125.1
        have O125 := O0.ext E125
        have sz125 : h0.size ≤ o125 := Nat.le_trans K0.1 (Nat.le_of_eq g125.symm)
        have fr125 : h0.size ≤ o125 := sz125
        have K125 := K0.ext E125
        have F125_coder : Fld Z h125 o125 "java/lang/String" "coder" "B" (.int (0 : Int32)) := D125 (Or.inr (hw _ (List.mem_of_getElem? (i := 43) rfl))) (ty := .byte) (by decide)
        have F125_value : Fld Z h125 o125 "java/lang/String" "value" "[B" .null := D125 (Or.inr (hw _ (List.mem_of_getElem? (i := 45) rfl))) (ty := (.array .byte)) (by decide)
        refine Go.of (fun _ hr => st125 _ hr) ?_
        show Go p e s below _ _ _ _ T125 (mkF m 78 #[.val (.int b1), .val (.int n1), .val (.int ca0), .val (.int ca1), .val (.int ca2), .val (.int ca3)] [(.ref o125)])
        refine Go.of (fun _ hr => XS.dup X125.here hx rfl (hb hby d4_78) rfl rfl hr) ?_
        show Go p e s below _ _ _ _ T125 (mkF m 79 #[.val (.int b1), .val (.int n1), .val (.int ca0), .val (.int ca1), .val (.int ca2), .val (.int ca3)] [(.ref o125), (.ref o125)])
        refine Go.of (fun _ hr => XS.iconst X125.here hx rfl (hb hby d4_79) hr) ?_
        show Go p e s below _ _ _ _ T125 (mkF m 80 #[.val (.int b1), .val (.int n1), .val (.int ca0), .val (.int ca1), .val (.int ca2), .val (.int ca3)] [(.int (3 : Int32)), (.ref o125), (.ref o125)])
        obtain ⟨T126, h126, k126, X126, e126, E126, A126, st126⟩ := newP X125 hx hZ (hw _ (List.mem_of_getElem? (i := 19) rfl)) e125 (g := (mkF m 80 #[.val (.int b1), .val (.int n1), .val (.int ca0), .val (.int ca1), .val (.int ca2), .val (.int ca3)] [(.int (3 : Int32)), (.ref o125), (.ref o125)])) rfl (hb hby d4_80) rfl (by decide) (cap := 3) (by decide) (by decide) (by decide) (by decide)
        obtain ⟨o126, g126⟩ : ∃ z, z = h125.size := ⟨_, rfl⟩
        rw [← g126] at A126 st126
        have ne_o125_o126 : o125 ≠ o126 := Nat.ne_of_lt (Nat.lt_of_lt_of_le A125.lt (Nat.le_of_eq g126.symm))
        have V126 : Arv Z h126 o126 k126 .char (3 : Int32) [(.int (0 : Int32)), (.int (0 : Int32)), (.int (0 : Int32))] (.int (0 : Int32)) := (Arv.new A126 (by decide)).pad (pad_rep [] (.int (0 : Int32)) 3)
        have lt126 : o126 < h126.size := A126.lt
        have J126 := J125.add E126 g126 lt126
        have B126 := B125.mono E126.1
        have O126 := O125.ext E126
        have sz126 : h0.size ≤ o126 := Nat.le_trans K125.1 (Nat.le_of_eq g126.symm)
        have fr126 : h0.size ≤ o126 := sz126
        have K126 := K125.ext E126
        refine Go.of (fun _ hr => st126 _ hr) ?_
        show Go p e s below _ _ _ _ T126 (mkF m 82 #[.val (.int b1), .val (.int n1), .val (.int ca0), .val (.int ca1), .val (.int ca2), .val (.int ca3)] [(.ref o126), (.ref o125), (.ref o125)])
        refine Go.of (fun _ hr => XS.dup X126.here hx rfl (hb hby d4_82) rfl rfl hr) ?_
        show Go p e s below _ _ _ _ T126 (mkF m 83 #[.val (.int b1), .val (.int n1), .val (.int ca0), .val (.int ca1), .val (.int ca2), .val (.int ca3)] [(.ref o126), (.ref o126), (.ref o125), (.ref o125)])
        refine Go.of (fun _ hr => XS.iconst X126.here hx rfl (hb hby d4_83) hr) ?_
        show Go p e s below _ _ _ _ T126 (mkF m 84 #[.val (.int b1), .val (.int n1), .val (.int ca0), .val (.int ca1), .val (.int ca2), .val (.int ca3)] [(.int (0 : Int32)), (.ref o126), (.ref o126), (.ref o125), (.ref o125)])
        refine Go.of (fun _ hr => XS.iloadN X126.here hx rfl (hb hby d4_84) rfl  hr) ?_
        show Go p e s below _ _ _ _ T126 (mkF m 85 #[.val (.int b1), .val (.int n1), .val (.int ca0), .val (.int ca1), .val (.int ca2), .val (.int ca3)] [(.int ca0), (.int (0 : Int32)), (.ref o126), (.ref o126), (.ref o125), (.ref o125)])
        obtain ⟨cl127, Ar127, q127, S127, N127_, H127, G127⟩ := id V126
        have hin127 : ¬ ((0 : Int32) < 0 ∨ cl127.slots.size ≤ ((0 : Int32)).toNatClampNeg) := inb_of S127 ⟨by decide, by decide⟩
        obtain ⟨T127, h127, X127, e127, W127, st127⟩ := stC X126 hx hZ e126 Ar127 (j := (0 : Int32)) hin127 (g := (mkF m 85 #[.val (.int b1), .val (.int n1), .val (.int ca0), .val (.int ca1), .val (.int ca2), .val (.int ca3)] [(.int ca0), (.int (0 : Int32)), (.ref o126), (.ref o126), (.ref o125), (.ref o125)])) rfl rfl (hb hby d4_85)
        have W127' := W127
        rw [show nar .char ca0 = ca0 from (nar_c hq_ca0.1 (le255 hq_ca0.2))] at W127'
        have V127 : Arv Z h127 o126 k126 .char (3 : Int32) [(.int ca0), (.int (0 : Int32)), (.int (0 : Int32))] (.int (0 : Int32)) := Arv.set Ar127 q127 S127 N127_ H127 G127 (fits_c hq_ca0.1 (le255 hq_ca0.2)) W127' 0 rfl (by simp)
        have N127 := Fr.snoc X127 N104 fr126
        have J127 := J126.wr W127 (List.mem_cons_self ..)
        have B127 := B126.mono (Nat.le_of_eq W127.size.symm)
        have O127 := O126.wr W127 (Nat.le_trans (own_ole O0) fr126)
        have K127 := K126.wr W127 (Or.inr sz126)
        refine Go.of (fun _ hr => st127 _ hr) ?_
        show Go p e s below _ _ _ _ T127 (mkF m 86 #[.val (.int b1), .val (.int n1), .val (.int ca0), .val (.int ca1), .val (.int ca2), .val (.int ca3)] [(.ref o126), (.ref o125), (.ref o125)])
        refine Go.of (fun _ hr => XS.dup X127.here hx rfl (hb hby d4_86) rfl rfl hr) ?_
        show Go p e s below _ _ _ _ T127 (mkF m 87 #[.val (.int b1), .val (.int n1), .val (.int ca0), .val (.int ca1), .val (.int ca2), .val (.int ca3)] [(.ref o126), (.ref o126), (.ref o125), (.ref o125)])
        refine Go.of (fun _ hr => XS.iconst X127.here hx rfl (hb hby d4_87) hr) ?_
        show Go p e s below _ _ _ _ T127 (mkF m 88 #[.val (.int b1), .val (.int n1), .val (.int ca0), .val (.int ca1), .val (.int ca2), .val (.int ca3)] [(.int (1 : Int32)), (.ref o126), (.ref o126), (.ref o125), (.ref o125)])
        refine Go.of (fun _ hr => XS.iloadN X127.here hx rfl (hb hby d4_88) rfl  hr) ?_
        show Go p e s below _ _ _ _ T127 (mkF m 89 #[.val (.int b1), .val (.int n1), .val (.int ca0), .val (.int ca1), .val (.int ca2), .val (.int ca3)] [(.int ca1), (.int (1 : Int32)), (.ref o126), (.ref o126), (.ref o125), (.ref o125)])
        obtain ⟨cl128, Ar128, q128, S128, N128_, H128, G128⟩ := id V127
        have hin128 : ¬ ((1 : Int32) < 0 ∨ cl128.slots.size ≤ ((1 : Int32)).toNatClampNeg) := inb_of S128 ⟨by decide, by decide⟩
        obtain ⟨T128, h128, X128, e128, W128, st128⟩ := stC X127 hx hZ e127 Ar128 (j := (1 : Int32)) hin128 (g := (mkF m 89 #[.val (.int b1), .val (.int n1), .val (.int ca0), .val (.int ca1), .val (.int ca2), .val (.int ca3)] [(.int ca1), (.int (1 : Int32)), (.ref o126), (.ref o126), (.ref o125), (.ref o125)])) rfl rfl (hb hby d4_89)
        have W128' := W128
        rw [show nar .char ca1 = ca1 from (nar_c hq_ca1.1 (le255 hq_ca1.2))] at W128'
        have V128 : Arv Z h128 o126 k126 .char (3 : Int32) [(.int ca0), (.int ca1), (.int (0 : Int32))] (.int (0 : Int32)) := Arv.set Ar128 q128 S128 N128_ H128 G128 (fits_c hq_ca1.1 (le255 hq_ca1.2)) W128' 1 rfl (by simp)
        have N128 := Fr.snoc X128 N127 fr126
        have J128 := J127.wr W128 (List.mem_cons_self ..)
        have B128 := B127.mono (Nat.le_of_eq W128.size.symm)
        have O128 := O127.wr W128 (Nat.le_trans (own_ole O0) fr126)
        have K128 := K127.wr W128 (Or.inr sz126)
        refine Go.of (fun _ hr => st128 _ hr) ?_
        show Go p e s below _ _ _ _ T128 (mkF m 90 #[.val (.int b1), .val (.int n1), .val (.int ca0), .val (.int ca1), .val (.int ca2), .val (.int ca3)] [(.ref o126), (.ref o125), (.ref o125)])
        refine Go.of (fun _ hr => XS.dup X128.here hx rfl (hb hby d4_90) rfl rfl hr) ?_
        show Go p e s below _ _ _ _ T128 (mkF m 91 #[.val (.int b1), .val (.int n1), .val (.int ca0), .val (.int ca1), .val (.int ca2), .val (.int ca3)] [(.ref o126), (.ref o126), (.ref o125), (.ref o125)])
        refine Go.of (fun _ hr => XS.iconst X128.here hx rfl (hb hby d4_91) hr) ?_
        show Go p e s below _ _ _ _ T128 (mkF m 92 #[.val (.int b1), .val (.int n1), .val (.int ca0), .val (.int ca1), .val (.int ca2), .val (.int ca3)] [(.int (2 : Int32)), (.ref o126), (.ref o126), (.ref o125), (.ref o125)])
        refine Go.of (fun _ hr => XS.iload X128.here hx rfl (hb hby d4_92) rfl  hr) ?_
        show Go p e s below _ _ _ _ T128 (mkF m 94 #[.val (.int b1), .val (.int n1), .val (.int ca0), .val (.int ca1), .val (.int ca2), .val (.int ca3)] [(.int ca2), (.int (2 : Int32)), (.ref o126), (.ref o126), (.ref o125), (.ref o125)])
        obtain ⟨cl129, Ar129, q129, S129, N129_, H129, G129⟩ := id V128
        have hin129 : ¬ ((2 : Int32) < 0 ∨ cl129.slots.size ≤ ((2 : Int32)).toNatClampNeg) := inb_of S129 ⟨by decide, by decide⟩
        obtain ⟨T129, h129, X129, e129, W129, st129⟩ := stC X128 hx hZ e128 Ar129 (j := (2 : Int32)) hin129 (g := (mkF m 94 #[.val (.int b1), .val (.int n1), .val (.int ca0), .val (.int ca1), .val (.int ca2), .val (.int ca3)] [(.int ca2), (.int (2 : Int32)), (.ref o126), (.ref o126), (.ref o125), (.ref o125)])) rfl rfl (hb hby d4_94)
        have W129' := W129
        rw [show nar .char ca2 = ca2 from (nar_c hq_ca2.1 (le255 hq_ca2.2))] at W129'
        have V129 : Arv Z h129 o126 k126 .char (3 : Int32) [(.int ca0), (.int ca1), (.int ca2)] (.int (0 : Int32)) := Arv.set Ar129 q129 S129 N129_ H129 G129 (fits_c hq_ca2.1 (le255 hq_ca2.2)) W129' 2 rfl (by simp)
        have N129 := Fr.snoc X129 N128 fr126
        have J129 := J128.wr W129 (List.mem_cons_self ..)
        have B129 := B128.mono (Nat.le_of_eq W129.size.symm)
        have O129 := O128.wr W129 (Nat.le_trans (own_ole O0) fr126)
        have K129 := K128.wr W129 (Or.inr sz126)
        refine Go.of (fun _ hr => st129 _ hr) ?_
        show Go p e s below _ _ _ _ T129 (mkF m 95 #[.val (.int b1), .val (.int n1), .val (.int ca0), .val (.int ca1), .val (.int ca2), .val (.int ca3)] [(.ref o126), (.ref o125), (.ref o125)])
        have f131 := ((((A125.ext E126).wr W127).wr W128).wr W129)
        have f132 := ((((F125_value.ext E126).other W127 (Or.inl ne_o125_o126)).other W128 (Or.inl ne_o125_o126)).other W129 (Or.inl ne_o125_o126))
        have f133 := ((((F125_coder.ext E126).other W127 (Or.inl ne_o125_o126)).other W128 (Or.inl ne_o125_o126)).other W129 (Or.inl ne_o125_o126))
        obtain ⟨_, b130, T130, h130, L130, e130, Cc130, X130, B130, J130, g130, hQ130, st130⟩ := own_callI Cc104 B129 J129 X129 rfl (hw _ (List.mem_of_getElem? (i := 20) rfl)) (hw _ (List.mem_of_getElem? (i := 21) rfl)) (hw _ (List.mem_of_getElem? (i := 18) rfl)) (hw _ (List.mem_of_getElem? (i := 22) rfl)) (by decide) (rm5 l Z a0 hw [] o125 o126 _ [ca0, ca1, ca2] _ _ zc _ h129 n0 O129 h0.size (own_ole O0) K129.1 fr125 (List.mem_cons_of_mem _ (List.mem_cons_self ..)) (by simp) (by intro x hx; simp only [List.mem_cons, List.not_mem_nil, or_false] at hx; rcases hx with rfl | rfl | rfl <;> assumption) (by simp) V129 (Ne.symm ne_o125_o126) f131 f132 f133 S_C hzc) e129 (g := (mkF m 95 #[.val (.int b1), .val (.int n1), .val (.int ca0), .val (.int ca1), .val (.int ca2), .val (.int ca3)] [(.ref o126), (.ref o125), (.ref o125)])) rfl (by rw [hml]; rfl) (argsL := [(.ref o126)]) (rest := [(.ref o125)]) (lenOf pd31 rfl) rfl (W := 1) (by show 2 * 0 + _ ≤ _; exact Nat.le_of_eq rfl) (hb hby d4_95) (by decide) (by decide) (by decide) (by decide)
        obtain ⟨rfl, Nq130, Kq130, t130, kt130, nt130, Fv130, Fc130, Vt130⟩ := hQ130
        have N130 := Fr.app N129 Nq130
        obtain ⟨hx, hZ, hown, hby, hml, hnm, hret, hlk⟩ := id Cc130
        have K130 := K129.trans Kq130 (allS (Or.inr sz125) all0)
        have O130 := O129.keep Kq130 (allS (Nat.le_trans (own_ole O0) fr125) all0)
        refine Go.of st130 ?_
        have nx_t130_o126 : t130 ≠ o126 := fun q => nt130 (by rw [q]; exact (List.mem_cons_self ..))
        have nx_t130_o125 : t130 ≠ o125 := fun q => nt130 (by rw [q]; exact (List.mem_cons_of_mem _ (List.mem_cons_self ..)))
        show Go p e s below _ _ _ _ T130 (mkF m 98 #[.val (.int b1), .val (.int n1), .val (.int ca0), .val (.int ca1), .val (.int ca2), .val (.int ca3)] [(.ref o125)])
        have f134 := (f131.keep Kq130)
        exact Go.retA X130 hx hlk B130 (J130.sub fun x hx => (List.mem_cons_of_mem _ (List.mem_cons_of_mem _ hx))) e130 hret rfl rfl (hb hby d4_98) (by decide) (by decide) (fun vm_ hw_ => ⟨_, _, _, rfl, (fun y hy => Nat.le_trans hnb (N130 y hy)), keep_ext K130, sz125, (fun hz => nt130 (List.mem_cons_of_mem _ (List.mem_cons_of_mem _ hz))), f134, Fv130, Fc130, (by rw [show mkB b1 n1 = [ca0, ca1, ca2] from by simp [mkB, ea0, ea1, ea2, ea3, hb28_105, hb48_114, hb72_124]]; exact Vt130)⟩)
      · refine Go.of (fun _ hr => XS.icmpYes X104.here hx rfl (pc0 := 72) (pc' := 99) rfl (hb hby d4_72) rfl (feq hb72_124).2 (by decide) (by decide) hr) ?_
        show Go p e s below _ _ _ _ T104 (mkF m 99 #[.val (.int b1), .val (.int n1), .val (.int ca0), .val (.int ca1), .val (.int ca2), .val (.int ca3)] [])
        obtain ⟨T135, h135, X135, e135, E135, A135, D135, -, st135⟩ := newO X104 hx hZ hown (hw _ (List.mem_of_getElem? (i := 16) rfl)) (hw _ (List.mem_of_getElem? (i := 17) rfl)) (hw _ (List.mem_of_getElem? (i := 18) rfl)) e104 (g := (mkF m 99 #[.val (.int b1), .val (.int n1), .val (.int ca0), .val (.int ca1), .val (.int ca2), .val (.int ca3)] [])) rfl (hb hby d4_99) (by decide) (by decide)
        obtain ⟨o135, g135⟩ : ∃ z, z = h0.size := ⟨_, rfl⟩
        rw [← g135] at A135 D135 st135
        have lt135 : o135 < h135.size := A135.lt
        have J135 := J104.add E135 g135 lt135
        have B135 := B104.mono E135.1
        have O135 := O0.ext E135
        have sz135 : h0.size ≤ o135 := Nat.le_trans K0.1 (Nat.le_of_eq g135.symm)
        have fr135 : h0.size ≤ o135 := sz135
        have K135 := K0.ext E135
        have F135_coder : Fld Z h135 o135 "java/lang/String" "coder" "B" (.int (0 : Int32)) := D135 (Or.inr (hw _ (List.mem_of_getElem? (i := 43) rfl))) (ty := .byte) (by decide)
        have F135_value : Fld Z h135 o135 "java/lang/String" "value" "[B" .null := D135 (Or.inr (hw _ (List.mem_of_getElem? (i := 45) rfl))) (ty := (.array .byte)) (by decide)
        refine Go.of (fun _ hr => st135 _ hr) ?_
        show Go p e s below _ _ _ _ T135 (mkF m 102 #[.val (.int b1), .val (.int n1), .val (.int ca0), .val (.int ca1), .val (.int ca2), .val (.int ca3)] [(.ref o135)])
        refine Go.of (fun _ hr => XS.dup X135.here hx rfl (hb hby d4_102) rfl rfl hr) ?_
        show Go p e s below _ _ _ _ T135 (mkF m 103 #[.val (.int b1), .val (.int n1), .val (.int ca0), .val (.int ca1), .val (.int ca2), .val (.int ca3)] [(.ref o135), (.ref o135)])
        refine Go.of (fun _ hr => XS.iconst X135.here hx rfl (hb hby d4_103) hr) ?_
        show Go p e s below _ _ _ _ T135 (mkF m 104 #[.val (.int b1), .val (.int n1), .val (.int ca0), .val (.int ca1), .val (.int ca2), .val (.int ca3)] [(.int (4 : Int32)), (.ref o135), (.ref o135)])
        obtain ⟨T136, h136, k136, X136, e136, E136, A136, st136⟩ := newP X135 hx hZ (hw _ (List.mem_of_getElem? (i := 19) rfl)) e135 (g := (mkF m 104 #[.val (.int b1), .val (.int n1), .val (.int ca0), .val (.int ca1), .val (.int ca2), .val (.int ca3)] [(.int (4 : Int32)), (.ref o135), (.ref o135)])) rfl (hb hby d4_104) rfl (by decide) (cap := 4) (by decide) (by decide) (by decide) (by decide)
        obtain ⟨o136, g136⟩ : ∃ z, z = h135.size := ⟨_, rfl⟩
        rw [← g136] at A136 st136
        have ne_o135_o136 : o135 ≠ o136 := Nat.ne_of_lt (Nat.lt_of_lt_of_le A135.lt (Nat.le_of_eq g136.symm))
        have V136 : Arv Z h136 o136 k136 .char (4 : Int32) [(.int (0 : Int32)), (.int (0 : Int32)), (.int (0 : Int32)), (.int (0 : Int32))] (.int (0 : Int32)) := (Arv.new A136 (by decide)).pad (pad_rep [] (.int (0 : Int32)) 4)
        have lt136 : o136 < h136.size := A136.lt
        have J136 := J135.add E136 g136 lt136
        have B136 := B135.mono E136.1
        have O136 := O135.ext E136
        have sz136 : h0.size ≤ o136 := Nat.le_trans K135.1 (Nat.le_of_eq g136.symm)
        have fr136 : h0.size ≤ o136 := sz136
        have K136 := K135.ext E136
        refine Go.of (fun _ hr => st136 _ hr) ?_
        show Go p e s below _ _ _ _ T136 (mkF m 106 #[.val (.int b1), .val (.int n1), .val (.int ca0), .val (.int ca1), .val (.int ca2), .val (.int ca3)] [(.ref o136), (.ref o135), (.ref o135)])
        refine Go.of (fun _ hr => XS.dup X136.here hx rfl (hb hby d4_106) rfl rfl hr) ?_
        show Go p e s below _ _ _ _ T136 (mkF m 107 #[.val (.int b1), .val (.int n1), .val (.int ca0), .val (.int ca1), .val (.int ca2), .val (.int ca3)] [(.ref o136), (.ref o136), (.ref o135), (.ref o135)])
        refine Go.of (fun _ hr => XS.iconst X136.here hx rfl (hb hby d4_107) hr) ?_
        show Go p e s below _ _ _ _ T136 (mkF m 108 #[.val (.int b1), .val (.int n1), .val (.int ca0), .val (.int ca1), .val (.int ca2), .val (.int ca3)] [(.int (0 : Int32)), (.ref o136), (.ref o136), (.ref o135), (.ref o135)])
        refine Go.of (fun _ hr => XS.iloadN X136.here hx rfl (hb hby d4_108) rfl  hr) ?_
        show Go p e s below _ _ _ _ T136 (mkF m 109 #[.val (.int b1), .val (.int n1), .val (.int ca0), .val (.int ca1), .val (.int ca2), .val (.int ca3)] [(.int ca0), (.int (0 : Int32)), (.ref o136), (.ref o136), (.ref o135), (.ref o135)])
        obtain ⟨cl137, Ar137, q137, S137, N137_, H137, G137⟩ := id V136
        have hin137 : ¬ ((0 : Int32) < 0 ∨ cl137.slots.size ≤ ((0 : Int32)).toNatClampNeg) := inb_of S137 ⟨by decide, by decide⟩
        obtain ⟨T137, h137, X137, e137, W137, st137⟩ := stC X136 hx hZ e136 Ar137 (j := (0 : Int32)) hin137 (g := (mkF m 109 #[.val (.int b1), .val (.int n1), .val (.int ca0), .val (.int ca1), .val (.int ca2), .val (.int ca3)] [(.int ca0), (.int (0 : Int32)), (.ref o136), (.ref o136), (.ref o135), (.ref o135)])) rfl rfl (hb hby d4_109)
        have W137' := W137
        rw [show nar .char ca0 = ca0 from (nar_c hq_ca0.1 (le255 hq_ca0.2))] at W137'
        have V137 : Arv Z h137 o136 k136 .char (4 : Int32) [(.int ca0), (.int (0 : Int32)), (.int (0 : Int32)), (.int (0 : Int32))] (.int (0 : Int32)) := Arv.set Ar137 q137 S137 N137_ H137 G137 (fits_c hq_ca0.1 (le255 hq_ca0.2)) W137' 0 rfl (by simp)
        have N137 := Fr.snoc X137 N104 fr136
        have J137 := J136.wr W137 (List.mem_cons_self ..)
        have B137 := B136.mono (Nat.le_of_eq W137.size.symm)
        have O137 := O136.wr W137 (Nat.le_trans (own_ole O0) fr136)
        have K137 := K136.wr W137 (Or.inr sz136)
        refine Go.of (fun _ hr => st137 _ hr) ?_
        show Go p e s below _ _ _ _ T137 (mkF m 110 #[.val (.int b1), .val (.int n1), .val (.int ca0), .val (.int ca1), .val (.int ca2), .val (.int ca3)] [(.ref o136), (.ref o135), (.ref o135)])
        refine Go.of (fun _ hr => XS.dup X137.here hx rfl (hb hby d4_110) rfl rfl hr) ?_
        show Go p e s below _ _ _ _ T137 (mkF m 111 #[.val (.int b1), .val (.int n1), .val (.int ca0), .val (.int ca1), .val (.int ca2), .val (.int ca3)] [(.ref o136), (.ref o136), (.ref o135), (.ref o135)])
        refine Go.of (fun _ hr => XS.iconst X137.here hx rfl (hb hby d4_111) hr) ?_
        show Go p e s below _ _ _ _ T137 (mkF m 112 #[.val (.int b1), .val (.int n1), .val (.int ca0), .val (.int ca1), .val (.int ca2), .val (.int ca3)] [(.int (1 : Int32)), (.ref o136), (.ref o136), (.ref o135), (.ref o135)])
        refine Go.of (fun _ hr => XS.iloadN X137.here hx rfl (hb hby d4_112) rfl  hr) ?_
        show Go p e s below _ _ _ _ T137 (mkF m 113 #[.val (.int b1), .val (.int n1), .val (.int ca0), .val (.int ca1), .val (.int ca2), .val (.int ca3)] [(.int ca1), (.int (1 : Int32)), (.ref o136), (.ref o136), (.ref o135), (.ref o135)])
        obtain ⟨cl138, Ar138, q138, S138, N138_, H138, G138⟩ := id V137
        have hin138 : ¬ ((1 : Int32) < 0 ∨ cl138.slots.size ≤ ((1 : Int32)).toNatClampNeg) := inb_of S138 ⟨by decide, by decide⟩
        obtain ⟨T138, h138, X138, e138, W138, st138⟩ := stC X137 hx hZ e137 Ar138 (j := (1 : Int32)) hin138 (g := (mkF m 113 #[.val (.int b1), .val (.int n1), .val (.int ca0), .val (.int ca1), .val (.int ca2), .val (.int ca3)] [(.int ca1), (.int (1 : Int32)), (.ref o136), (.ref o136), (.ref o135), (.ref o135)])) rfl rfl (hb hby d4_113)
        have W138' := W138
        rw [show nar .char ca1 = ca1 from (nar_c hq_ca1.1 (le255 hq_ca1.2))] at W138'
        have V138 : Arv Z h138 o136 k136 .char (4 : Int32) [(.int ca0), (.int ca1), (.int (0 : Int32)), (.int (0 : Int32))] (.int (0 : Int32)) := Arv.set Ar138 q138 S138 N138_ H138 G138 (fits_c hq_ca1.1 (le255 hq_ca1.2)) W138' 1 rfl (by simp)
        have N138 := Fr.snoc X138 N137 fr136
        have J138 := J137.wr W138 (List.mem_cons_self ..)
        have B138 := B137.mono (Nat.le_of_eq W138.size.symm)
        have O138 := O137.wr W138 (Nat.le_trans (own_ole O0) fr136)
        have K138 := K137.wr W138 (Or.inr sz136)
        refine Go.of (fun _ hr => st138 _ hr) ?_
        show Go p e s below _ _ _ _ T138 (mkF m 114 #[.val (.int b1), .val (.int n1), .val (.int ca0), .val (.int ca1), .val (.int ca2), .val (.int ca3)] [(.ref o136), (.ref o135), (.ref o135)])
        refine Go.of (fun _ hr => XS.dup X138.here hx rfl (hb hby d4_114) rfl rfl hr) ?_
        show Go p e s below _ _ _ _ T138 (mkF m 115 #[.val (.int b1), .val (.int n1), .val (.int ca0), .val (.int ca1), .val (.int ca2), .val (.int ca3)] [(.ref o136), (.ref o136), (.ref o135), (.ref o135)])
        refine Go.of (fun _ hr => XS.iconst X138.here hx rfl (hb hby d4_115) hr) ?_
        show Go p e s below _ _ _ _ T138 (mkF m 116 #[.val (.int b1), .val (.int n1), .val (.int ca0), .val (.int ca1), .val (.int ca2), .val (.int ca3)] [(.int (2 : Int32)), (.ref o136), (.ref o136), (.ref o135), (.ref o135)])
        refine Go.of (fun _ hr => XS.iload X138.here hx rfl (hb hby d4_116) rfl  hr) ?_
        show Go p e s below _ _ _ _ T138 (mkF m 118 #[.val (.int b1), .val (.int n1), .val (.int ca0), .val (.int ca1), .val (.int ca2), .val (.int ca3)] [(.int ca2), (.int (2 : Int32)), (.ref o136), (.ref o136), (.ref o135), (.ref o135)])
        obtain ⟨cl139, Ar139, q139, S139, N139_, H139, G139⟩ := id V138
        have hin139 : ¬ ((2 : Int32) < 0 ∨ cl139.slots.size ≤ ((2 : Int32)).toNatClampNeg) := inb_of S139 ⟨by decide, by decide⟩
        obtain ⟨T139, h139, X139, e139, W139, st139⟩ := stC X138 hx hZ e138 Ar139 (j := (2 : Int32)) hin139 (g := (mkF m 118 #[.val (.int b1), .val (.int n1), .val (.int ca0), .val (.int ca1), .val (.int ca2), .val (.int ca3)] [(.int ca2), (.int (2 : Int32)), (.ref o136), (.ref o136), (.ref o135), (.ref o135)])) rfl rfl (hb hby d4_118)
        have W139' := W139
        rw [show nar .char ca2 = ca2 from (nar_c hq_ca2.1 (le255 hq_ca2.2))] at W139'
        have V139 : Arv Z h139 o136 k136 .char (4 : Int32) [(.int ca0), (.int ca1), (.int ca2), (.int (0 : Int32))] (.int (0 : Int32)) := Arv.set Ar139 q139 S139 N139_ H139 G139 (fits_c hq_ca2.1 (le255 hq_ca2.2)) W139' 2 rfl (by simp)
        have N139 := Fr.snoc X139 N138 fr136
        have J139 := J138.wr W139 (List.mem_cons_self ..)
        have B139 := B138.mono (Nat.le_of_eq W139.size.symm)
        have O139 := O138.wr W139 (Nat.le_trans (own_ole O0) fr136)
        have K139 := K138.wr W139 (Or.inr sz136)
        refine Go.of (fun _ hr => st139 _ hr) ?_
        show Go p e s below _ _ _ _ T139 (mkF m 119 #[.val (.int b1), .val (.int n1), .val (.int ca0), .val (.int ca1), .val (.int ca2), .val (.int ca3)] [(.ref o136), (.ref o135), (.ref o135)])
        refine Go.of (fun _ hr => XS.dup X139.here hx rfl (hb hby d4_119) rfl rfl hr) ?_
        show Go p e s below _ _ _ _ T139 (mkF m 120 #[.val (.int b1), .val (.int n1), .val (.int ca0), .val (.int ca1), .val (.int ca2), .val (.int ca3)] [(.ref o136), (.ref o136), (.ref o135), (.ref o135)])
        refine Go.of (fun _ hr => XS.iconst X139.here hx rfl (hb hby d4_120) hr) ?_
        show Go p e s below _ _ _ _ T139 (mkF m 121 #[.val (.int b1), .val (.int n1), .val (.int ca0), .val (.int ca1), .val (.int ca2), .val (.int ca3)] [(.int (3 : Int32)), (.ref o136), (.ref o136), (.ref o135), (.ref o135)])
        refine Go.of (fun _ hr => XS.iload X139.here hx rfl (hb hby d4_121) rfl  hr) ?_
        show Go p e s below _ _ _ _ T139 (mkF m 123 #[.val (.int b1), .val (.int n1), .val (.int ca0), .val (.int ca1), .val (.int ca2), .val (.int ca3)] [(.int ca3), (.int (3 : Int32)), (.ref o136), (.ref o136), (.ref o135), (.ref o135)])
        obtain ⟨cl140, Ar140, q140, S140, N140_, H140, G140⟩ := id V139
        have hin140 : ¬ ((3 : Int32) < 0 ∨ cl140.slots.size ≤ ((3 : Int32)).toNatClampNeg) := inb_of S140 ⟨by decide, by decide⟩
        obtain ⟨T140, h140, X140, e140, W140, st140⟩ := stC X139 hx hZ e139 Ar140 (j := (3 : Int32)) hin140 (g := (mkF m 123 #[.val (.int b1), .val (.int n1), .val (.int ca0), .val (.int ca1), .val (.int ca2), .val (.int ca3)] [(.int ca3), (.int (3 : Int32)), (.ref o136), (.ref o136), (.ref o135), (.ref o135)])) rfl rfl (hb hby d4_123)
        have W140' := W140
        rw [show nar .char ca3 = ca3 from (nar_c hq_ca3.1 (le255 hq_ca3.2))] at W140'
        have V140 : Arv Z h140 o136 k136 .char (4 : Int32) [(.int ca0), (.int ca1), (.int ca2), (.int ca3)] (.int (0 : Int32)) := Arv.set Ar140 q140 S140 N140_ H140 G140 (fits_c hq_ca3.1 (le255 hq_ca3.2)) W140' 3 rfl (by simp)
        have N140 := Fr.snoc X140 N139 fr136
        have J140 := J139.wr W140 (List.mem_cons_self ..)
        have B140 := B139.mono (Nat.le_of_eq W140.size.symm)
        have O140 := O139.wr W140 (Nat.le_trans (own_ole O0) fr136)
        have K140 := K139.wr W140 (Or.inr sz136)
        refine Go.of (fun _ hr => st140 _ hr) ?_
        show Go p e s below _ _ _ _ T140 (mkF m 124 #[.val (.int b1), .val (.int n1), .val (.int ca0), .val (.int ca1), .val (.int ca2), .val (.int ca3)] [(.ref o136), (.ref o135), (.ref o135)])
        have f142 := (((((A135.ext E136).wr W137).wr W138).wr W139).wr W140)
        have f143 := (((((F135_value.ext E136).other W137 (Or.inl ne_o135_o136)).other W138 (Or.inl ne_o135_o136)).other W139 (Or.inl ne_o135_o136)).other W140 (Or.inl ne_o135_o136))
        have f144 := (((((F135_coder.ext E136).other W137 (Or.inl ne_o135_o136)).other W138 (Or.inl ne_o135_o136)).other W139 (Or.inl ne_o135_o136)).other W140 (Or.inl ne_o135_o136))
        obtain ⟨_, b141, T141, h141, L141, e141, Cc141, X141, B141, J141, g141, hQ141, st141⟩ := own_callI Cc104 B140 J140 X140 rfl (hw _ (List.mem_of_getElem? (i := 20) rfl)) (hw _ (List.mem_of_getElem? (i := 21) rfl)) (hw _ (List.mem_of_getElem? (i := 18) rfl)) (hw _ (List.mem_of_getElem? (i := 22) rfl)) (by decide) (rm5 l Z a0 hw [] o135 o136 _ [ca0, ca1, ca2, ca3] _ _ zc _ h140 n0 O140 h0.size (own_ole O0) K140.1 fr135 (List.mem_cons_of_mem _ (List.mem_cons_self ..)) (by simp) (by intro x hx; simp only [List.mem_cons, List.not_mem_nil, or_false] at hx; rcases hx with rfl | rfl | rfl | rfl <;> assumption) (by simp) V140 (Ne.symm ne_o135_o136) f142 f143 f144 S_C hzc) e140 (g := (mkF m 124 #[.val (.int b1), .val (.int n1), .val (.int ca0), .val (.int ca1), .val (.int ca2), .val (.int ca3)] [(.ref o136), (.ref o135), (.ref o135)])) rfl (by rw [hml]; rfl) (argsL := [(.ref o136)]) (rest := [(.ref o135)]) (lenOf pd31 rfl) rfl (W := 1) (by show 2 * 0 + _ ≤ _; exact Nat.le_of_eq rfl) (hb hby d4_124) (by decide) (by decide) (by decide) (by decide)
        obtain ⟨rfl, Nq141, Kq141, t141, kt141, nt141, Fv141, Fc141, Vt141⟩ := hQ141
        have N141 := Fr.app N140 Nq141
        obtain ⟨hx, hZ, hown, hby, hml, hnm, hret, hlk⟩ := id Cc141
        have K141 := K140.trans Kq141 (allS (Or.inr sz135) all0)
        have O141 := O140.keep Kq141 (allS (Nat.le_trans (own_ole O0) fr135) all0)
        refine Go.of st141 ?_
        have nx_t141_o136 : t141 ≠ o136 := fun q => nt141 (by rw [q]; exact (List.mem_cons_self ..))
        have nx_t141_o135 : t141 ≠ o135 := fun q => nt141 (by rw [q]; exact (List.mem_cons_of_mem _ (List.mem_cons_self ..)))
        show Go p e s below _ _ _ _ T141 (mkF m 127 #[.val (.int b1), .val (.int n1), .val (.int ca0), .val (.int ca1), .val (.int ca2), .val (.int ca3)] [(.ref o135)])
        have f145 := (f142.keep Kq141)
        exact Go.retA X141 hx hlk B141 (J141.sub fun x hx => (List.mem_cons_of_mem _ (List.mem_cons_of_mem _ hx))) e141 hret rfl rfl (hb hby d4_127) (by decide) (by decide) (fun vm_ hw_ => ⟨_, _, _, rfl, (fun y hy => Nat.le_trans hnb (N141 y hy)), keep_ext K141, sz135, (fun hz => nt141 (List.mem_cons_of_mem _ (List.mem_cons_of_mem _ hz))), f145, Fv141, Fc141, (by rw [show mkB b1 n1 = [ca0, ca1, ca2, ca3] from by simp [mkB, ea0, ea1, ea2, ea3, hb28_105, hb48_114, hb72_124]]; exact Vt141)⟩)

theorem whole_r2 {g n p q i k : Int32} (hp : r4 p) (hq : r4 q) (hi : i = 0 ∨ i = 1 ∨ i = 2 ∨ i = 3) (h : i < q) (hk : k = i + 1) : chV ((mkB g p).map lo8 ++ litI "." ++ (mkB n q).map lo8) (p + k) = chB n i := by subst hk; exact whole_r hp hq hi h
theorem in_r {g n p q i k : Int32} (hp : r4 p) (hq : r4 q) (hi : i = 0 ∨ i = 1 ∨ i = 2 ∨ i = 3) (h : i < q) (hk : k = i + 1) : ¬ p + k < 0 ∧ p + k < Int32.ofNat ((mkB g p).map lo8 ++ litI "." ++ (mkB n q).map lo8).length := by subst hk; exact in_w hp hq (Or.inr ⟨i, rfl, hi, h⟩)

theorem r4_lt1 {n : Int32} (h : r4 n) (q : ¬ n < 2) : (1 : Int32) < n := by rcases h with rfl | rfl | rfl | rfl <;> first | decide | exact absurd (by decide) q
theorem r4_lt2 {n : Int32} (h : r4 n) (q : ¬ n < 3) : (2 : Int32) < n := by rcases h with rfl | rfl | rfl | rfl <;> first | decide | exact absurd (by decide) q
theorem r4_lt3 {n : Int32} (h : r4 n) (q : ¬ n < 4) : (3 : Int32) < n := by rcases h with rfl | rfl | rfl | rfl <;> first | decide | exact absurd (by decide) q

abbrev LB0 (p1 : Int32) (p2 : Int32) (p3 : Int32) (lg : Int32) (ln : Int32) (s1 : Addr) : Array Slot := #[.val (.int p1), .val (.int p2), .val (.int p3), .val (.int lg), .val (.int ln), .val (.ref s1), .val (.int (1 : Int32))]
theorem pd35 : parseMethodDescriptor "(I)C" = some ⟨[.int], some .char⟩ := by decide +kernel
set_option maxRecDepth 65536 in
set_option maxHeartbeats 40000000 in
theorem law_tail (l : Launch) (Z : State) (a0 : Array Value) (hw : ∀ d ∈ tables_1, d.before a0 Z = true) {p : Program} {e : Env} {s b T0 : State} {m : MethodId} {args : Array Value} {below : List Frame} {meth : Method} {c : Code} {locs : List Loc} {ms : List Addr} (p1 p2 p3 lg ln : Int32) (s1 v1 : Addr) (k1 : ClassId) (zc : Int32) (h0 : Heap) (n0 : Nat) (O0 : Old Z n0 h0) (nb : Nat) (hb0 : n0 ≤ nb) (hnb : nb ≤ h0.size) (fs : Value) (hfs : fs = .null ∨ ∃ a, fs = .ref a) (S_F : Sta Z Z.heap "jdk/internal/util/Preconditions" "SIOOBE_FORMATTER" "Ljava/util/function/BiFunction;" fs) (h4_lg : r4 lg) (h4_ln : r4 ln) (Es1 : Exa Z h0 s1 "java/lang/String") (Fv1 : Fld Z h0 s1 "java/lang/String" "value" "[B" (.ref v1)) (Fc1 : Fld Z h0 s1 "java/lang/String" "coder" "B" (.int 0)) (V1 : Arv Z h0 v1 k1 .byte (Int32.ofNat (((mkB p1 lg).map lo8) ++ litI "." ++ ((mkB p2 ln).map lo8)).length) ((((mkB p1 lg).map lo8) ++ litI "." ++ ((mkB p2 ln).map lo8)).map Value.int) (.int 0)) (S_C : Sta Z Z.heap "java/lang/String" "COMPACT_STRINGS" "Z" (.int zc)) (hzc : ¬ zc = 0) (Cc : Cx Z p b m meth c "com/example/grid_job_scheduler/gridjobscheduler/JobKeyToStringPinLaw" code 7 "law" ret) (X0 : Stand p l e room_1 b m args below meth c T0 locs 21 166) (e0 : T0.heap = h0) (N0 : Fr nb locs) (J0 : Hd Z (ms) b.vm h0) (B0 : Bs s b h0) :
    Go p e s below room_1.cells room_1.slots (Hd Z ms) (fun v vm h L => v = some (.int 1) ∧ Fr nb L) T0 (mkF m 57 #[.val (.int p1), .val (.int p2), .val (.int p3), .val (.int lg), .val (.int ln), .val (.ref s1), .unset] []) := by
  obtain ⟨hx, hZ, hown, hby, hml, hnm, hret, hlk⟩ := id Cc
  have K0 := Keep.refl h0 []
  show Go p e s below _ _ _ _ T0 (mkF m 57 #[.val (.int p1), .val (.int p2), .val (.int p3), .val (.int lg), .val (.int ln), .val (.ref s1), .unset] [])
  refine Go.of (fun _ hr => XS.aload X0.here hx rfl (hb hby at_57) rfl rfl hr) ?_
  show Go p e s below _ _ _ _ T0 (mkF m 59 #[.val (.int p1), .val (.int p2), .val (.int p3), .val (.int lg), .val (.int ln), .val (.ref s1), .unset] [(.ref s1)])
  refine Go.of (fun _ hr => XS.ifnullNo X0.here hx rfl (hb hby at_59) rfl hr) ?_
  show Go p e s below _ _ _ _ T0 (mkF m 62 #[.val (.int p1), .val (.int p2), .val (.int p3), .val (.int lg), .val (.int ln), .val (.ref s1), .unset] [])
  refine Go.of (fun _ hr => XS.aload X0.here hx rfl (hb hby at_62) rfl rfl hr) ?_
  show Go p e s below _ _ _ _ T0 (mkF m 64 #[.val (.int p1), .val (.int p2), .val (.int p3), .val (.int lg), .val (.int ln), .val (.ref s1), .unset] [(.ref s1)])
  obtain ⟨_, b101, T101, h101, L101, e101, Cc101, X101, B101, J101, g101, hQ101, st101⟩ := own_callV Cc B0 J0 X0 (hw _ (List.mem_of_getElem? (i := 234) rfl)) (hw _ (List.mem_of_getElem? (i := 110) rfl)) (notFace_of_selects (args := #[]) (mvT hZ (hw _ (List.mem_of_getElem? (i := 112) rfl)))) (hw _ (List.mem_of_getElem? (i := 112) rfl)) (hw _ (List.mem_of_getElem? (i := 111) rfl)) (hw _ (List.mem_of_getElem? (i := 18) rfl)) (hw _ (List.mem_of_getElem? (i := 113) rfl)) (by decide) Es1 (rm23 l Z a0 hw [] s1 v1 _ (((mkB p1 lg).map lo8) ++ litI "." ++ ((mkB p2 ln).map lo8)) zc _ h0 n0 O0 h0.size (own_ole O0) K0.1 Es1 Fv1 Fc1 V1 (len9 h4_lg h4_ln).2 S_C hzc) e0 (g := (mkF m 64 #[.val (.int p1), .val (.int p2), .val (.int p3), .val (.int lg), .val (.int ln), .val (.ref s1), .unset] [(.ref s1)])) rfl (by rw [hml]; rfl) (argsL := []) (rest := []) (lenOf pd12 rfl) rfl (W := 0) (by show 2 * 0 + _ ≤ _; exact Nat.le_of_eq rfl) (hb hby at_64) (by decide) (by decide) (by decide) (by decide)
  obtain ⟨rfl, Nq101, hh101⟩ := hQ101
  have N101 := Fr.app N0 (show Fr nb _ from fun y hy => Nat.le_trans hnb (Nq101 y hy))
  obtain ⟨hx, hZ, hown, hby, hml, hnm, hret, hlk⟩ := id Cc101
  rw [hh101] at e101 B101 J101
  refine Go.of st101 ?_
  show Go p e s below _ _ _ _ T101 (mkF m 67 #[.val (.int p1), .val (.int p2), .val (.int p3), .val (.int lg), .val (.int ln), .val (.ref s1), .unset] [(.int (Int32.ofNat (((mkB p1 lg).map lo8) ++ litI "." ++ ((mkB p2 ln).map lo8)).length))])
  refine Go.of (fun _ hr => XS.iloadN X101.here hx rfl (hb hby at_67) rfl  hr) ?_
  show Go p e s below _ _ _ _ T101 (mkF m 68 #[.val (.int p1), .val (.int p2), .val (.int p3), .val (.int lg), .val (.int ln), .val (.ref s1), .unset] [(.int lg), (.int (Int32.ofNat (((mkB p1 lg).map lo8) ++ litI "." ++ ((mkB p2 ln).map lo8)).length))])
  refine Go.of (fun _ hr => XS.iconst X101.here hx rfl (hb hby at_68) hr) ?_
  show Go p e s below _ _ _ _ T101 (mkF m 69 #[.val (.int p1), .val (.int p2), .val (.int p3), .val (.int lg), .val (.int ln), .val (.ref s1), .unset] [(.int (1 : Int32)), (.int lg), (.int (Int32.ofNat (((mkB p1 lg).map lo8) ++ litI "." ++ ((mkB p2 ln).map lo8)).length))])
  refine Go.of (fun _ hr => XS.iadd X101.here hx rfl (hb hby at_69) rfl hr) ?_
  show Go p e s below _ _ _ _ T101 (mkF m 70 #[.val (.int p1), .val (.int p2), .val (.int p3), .val (.int lg), .val (.int ln), .val (.ref s1), .unset] [(.int (lg + (1 : Int32))), (.int (Int32.ofNat (((mkB p1 lg).map lo8) ++ litI "." ++ ((mkB p2 ln).map lo8)).length))])
  refine Go.of (fun _ hr => XS.iload X101.here hx rfl (hb hby at_70) rfl  hr) ?_
  show Go p e s below _ _ _ _ T101 (mkF m 72 #[.val (.int p1), .val (.int p2), .val (.int p3), .val (.int lg), .val (.int ln), .val (.ref s1), .unset] [(.int ln), (.int (lg + (1 : Int32))), (.int (Int32.ofNat (((mkB p1 lg).map lo8) ++ litI "." ++ ((mkB p2 ln).map lo8)).length))])
  refine Go.of (fun _ hr => XS.iadd X101.here hx rfl (hb hby at_72) rfl hr) ?_
  show Go p e s below _ _ _ _ T101 (mkF m 73 #[.val (.int p1), .val (.int p2), .val (.int p3), .val (.int lg), .val (.int ln), .val (.ref s1), .unset] [(.int ((lg + (1 : Int32)) + ln)), (.int (Int32.ofNat (((mkB p1 lg).map lo8) ++ litI "." ++ ((mkB p2 ln).map lo8)).length))])
  refine Go.of (fun _ hr => XS.icmpYes X101.here hx rfl (pc0 := 73) (pc' := 78) rfl (hb hby at_73) rfl (teq (len9 h4_lg h4_ln).1).1 (by decide) (by decide) hr) ?_
  show Go p e s below _ _ _ _ T101 (mkF m 78 #[.val (.int p1), .val (.int p2), .val (.int p3), .val (.int lg), .val (.int ln), .val (.ref s1), .unset] [])
  refine Go.of (fun _ hr => XS.aload X101.here hx rfl (hb hby at_78) rfl rfl hr) ?_
  show Go p e s below _ _ _ _ T101 (mkF m 80 #[.val (.int p1), .val (.int p2), .val (.int p3), .val (.int lg), .val (.int ln), .val (.ref s1), .unset] [(.ref s1)])
  refine Go.of (fun _ hr => XS.iloadN X101.here hx rfl (hb hby at_80) rfl  hr) ?_
  show Go p e s below _ _ _ _ T101 (mkF m 81 #[.val (.int p1), .val (.int p2), .val (.int p3), .val (.int lg), .val (.int ln), .val (.ref s1), .unset] [(.int lg), (.ref s1)])
  obtain ⟨_, b102, T102, h102, L102, e102, Cc102, X102, B102, J102, g102, hQ102, st102⟩ := own_callV Cc101 B101 J101 X101 (hw _ (List.mem_of_getElem? (i := 235) rfl)) (hw _ (List.mem_of_getElem? (i := 236) rfl)) (notFace_of_selects (args := #[]) (mvT hZ (hw _ (List.mem_of_getElem? (i := 238) rfl)))) (hw _ (List.mem_of_getElem? (i := 238) rfl)) (hw _ (List.mem_of_getElem? (i := 237) rfl)) (hw _ (List.mem_of_getElem? (i := 18) rfl)) (hw _ (List.mem_of_getElem? (i := 239) rfl)) (by decide) Es1 (rm46 l Z a0 hw [] s1 v1 _ (((mkB p1 lg).map lo8) ++ litI "." ++ ((mkB p2 ln).map lo8)) lg zc _ h0 n0 O0 h0.size (own_ole O0) K0.1 fs hfs S_F Es1 Fv1 Fc1 V1 (len9 h4_lg h4_ln).2 (in_w (g := p1) (n := p2) h4_lg h4_ln (Or.inl (Or.inl rfl))).1 (in_w (g := p1) (n := p2) h4_lg h4_ln (Or.inl (Or.inl rfl))).2 S_C hzc) e101 (g := (mkF m 81 #[.val (.int p1), .val (.int p2), .val (.int p3), .val (.int lg), .val (.int ln), .val (.ref s1), .unset] [(.int lg), (.ref s1)])) rfl (by rw [hml]; rfl) (argsL := [(.int lg)]) (rest := []) (lenOf pd35 rfl) rfl (W := 0) (by show 2 * 0 + _ ≤ _; exact Nat.le_of_eq rfl) (hb hby at_81) (by decide) (by decide) (by decide) (by decide)
  obtain ⟨rfl, Nq102, hh102⟩ := hQ102
  have N102 := Fr.app N101 (show Fr nb _ from fun y hy => Nat.le_trans hnb (Nq102 y hy))
  obtain ⟨hx, hZ, hown, hby, hml, hnm, hret, hlk⟩ := id Cc102
  rw [hh102] at e102 B102 J102
  refine Go.of st102 ?_
  show Go p e s below _ _ _ _ T102 (mkF m 84 #[.val (.int p1), .val (.int p2), .val (.int p3), .val (.int lg), .val (.int ln), .val (.ref s1), .unset] [(.int (chV (((mkB p1 lg).map lo8) ++ litI "." ++ ((mkB p2 ln).map lo8)) lg))])
  refine Go.of (fun _ hr => XS.bipush X102.here hx rfl (hb hby at_84) hr) ?_
  show Go p e s below _ _ _ _ T102 (mkF m 86 #[.val (.int p1), .val (.int p2), .val (.int p3), .val (.int lg), .val (.int ln), .val (.ref s1), .unset] [(.int (46 : Int32)), (.int (chV (((mkB p1 lg).map lo8) ++ litI "." ++ ((mkB p2 ln).map lo8)) lg))])
  refine Go.of (fun _ hr => XS.icmpNo X102.here hx rfl (hb hby at_86) rfl (teq (whole_m h4_lg)).2 hr) ?_
  show Go p e s below _ _ _ _ T102 (mkF m 89 #[.val (.int p1), .val (.int p2), .val (.int p3), .val (.int lg), .val (.int ln), .val (.ref s1), .unset] [])
  refine Go.of (fun _ hr => XS.iconst X102.here hx rfl (hb hby at_89) hr) ?_
  show Go p e s below _ _ _ _ T102 (mkF m 90 #[.val (.int p1), .val (.int p2), .val (.int p3), .val (.int lg), .val (.int ln), .val (.ref s1), .unset] [(.int (1 : Int32))])
  refine Go.of (fun _ hr => XS.goto X102.here hx rfl (pc0 := 90) (pc' := 94) rfl (hb hby at_90) (by decide) (by decide) hr) ?_
  show Go p e s below _ _ _ _ T102 (mkF m 94 #[.val (.int p1), .val (.int p2), .val (.int p3), .val (.int lg), .val (.int ln), .val (.ref s1), .unset] [(.int (1 : Int32))])
  refine Go.of (fun _ hr => XS.istore X102.here hx rfl (hb hby at_94) rfl (l' := (LB0 p1 p2 p3 lg ln s1)) rfl hr) ?_
  show Go p e s below _ _ _ _ T102 (mkF m 96 (LB0 p1 p2 p3 lg ln s1) [])
  refine Go.of (fun _ hr => XS.iload X102.here hx rfl (hb hby at_96) rfl  hr) ?_
  show Go p e s below _ _ _ _ T102 (mkF m 98 (LB0 p1 p2 p3 lg ln s1) [(.int (1 : Int32))])
  refine Go.of (fun _ hr => XS.ifNo X102.here hx rfl (hb hby at_98) rfl ((if0 _ _).trans (feq (by decide : ¬ ((1 : Int32) = (0 : Int32)))).1) hr) ?_
  show Go p e s below _ _ _ _ T102 (mkF m 101 (LB0 p1 p2 p3 lg ln s1) [])
  refine Go.of (fun _ hr => XS.aload X102.here hx rfl (hb hby at_101) rfl rfl hr) ?_
  show Go p e s below _ _ _ _ T102 (mkF m 103 (LB0 p1 p2 p3 lg ln s1) [(.ref s1)])
  refine Go.of (fun _ hr => XS.iconst X102.here hx rfl (hb hby at_103) hr) ?_
  show Go p e s below _ _ _ _ T102 (mkF m 104 (LB0 p1 p2 p3 lg ln s1) [(.int (0 : Int32)), (.ref s1)])
  obtain ⟨_, b103, T103, h103, L103, e103, Cc103, X103, B103, J103, g103, hQ103, st103⟩ := own_callV Cc102 B102 J102 X102 (hw _ (List.mem_of_getElem? (i := 235) rfl)) (hw _ (List.mem_of_getElem? (i := 236) rfl)) (notFace_of_selects (args := #[]) (mvT hZ (hw _ (List.mem_of_getElem? (i := 238) rfl)))) (hw _ (List.mem_of_getElem? (i := 238) rfl)) (hw _ (List.mem_of_getElem? (i := 237) rfl)) (hw _ (List.mem_of_getElem? (i := 18) rfl)) (hw _ (List.mem_of_getElem? (i := 239) rfl)) (by decide) Es1 (rm46 l Z a0 hw [] s1 v1 _ (((mkB p1 lg).map lo8) ++ litI "." ++ ((mkB p2 ln).map lo8)) (0 : Int32) zc _ h0 n0 O0 h0.size (own_ole O0) K0.1 fs hfs S_F Es1 Fv1 Fc1 V1 (len9 h4_lg h4_ln).2 (in_w (g := p1) (n := p2) h4_lg h4_ln (Or.inl (Or.inr ⟨by simp, (by rcases h4_lg with rfl | rfl | rfl | rfl <;> decide)⟩))).1 (in_w (g := p1) (n := p2) h4_lg h4_ln (Or.inl (Or.inr ⟨by simp, (by rcases h4_lg with rfl | rfl | rfl | rfl <;> decide)⟩))).2 S_C hzc) e102 (g := (mkF m 104 (LB0 p1 p2 p3 lg ln s1) [(.int (0 : Int32)), (.ref s1)])) rfl (by rw [hml]; rfl) (argsL := [(.int (0 : Int32))]) (rest := []) (lenOf pd35 rfl) rfl (W := 0) (by show 2 * 0 + _ ≤ _; exact Nat.le_of_eq rfl) (hb hby at_104) (by decide) (by decide) (by decide) (by decide)
  obtain ⟨rfl, Nq103, hh103⟩ := hQ103
  have N103 := Fr.app N102 (show Fr nb _ from fun y hy => Nat.le_trans hnb (Nq103 y hy))
  obtain ⟨hx, hZ, hown, hby, hml, hnm, hret, hlk⟩ := id Cc103
  rw [hh103] at e103 B103 J103
  refine Go.of st103 ?_
  show Go p e s below _ _ _ _ T103 (mkF m 107 (LB0 p1 p2 p3 lg ln s1) [(.int (chV (((mkB p1 lg).map lo8) ++ litI "." ++ ((mkB p2 ln).map lo8)) (0 : Int32)))])
  refine Go.of (fun _ hr => XS.iloadN X103.here hx rfl (hb hby at_107) rfl  hr) ?_
  show Go p e s below _ _ _ _ T103 (mkF m 108 (LB0 p1 p2 p3 lg ln s1) [(.int p1), (.int (chV (((mkB p1 lg).map lo8) ++ litI "." ++ ((mkB p2 ln).map lo8)) (0 : Int32)))])
  refine Go.of (fun _ hr => XS.iconst X103.here hx rfl (hb hby at_108) hr) ?_
  show Go p e s below _ _ _ _ T103 (mkF m 109 (LB0 p1 p2 p3 lg ln s1) [(.int (0 : Int32)), (.int p1), (.int (chV (((mkB p1 lg).map lo8) ++ litI "." ++ ((mkB p2 ln).map lo8)) (0 : Int32)))])
  obtain ⟨_, b104, T104, h104, L104, e104, Cc104, X104, B104, J104, g104, hQ104, st104⟩ := own_callS Cc103 B103 J103 X103 (hw _ (List.mem_of_getElem? (i := 4) rfl)) (hw _ (List.mem_of_getElem? (i := 5) rfl)) (hw _ (List.mem_of_getElem? (i := 2) rfl)) (hw _ (List.mem_of_getElem? (i := 6) rfl)) (by decide) (rm2 l Z a0 hw [] p1 (0 : Int32) _ h0 n0 O0 h0.size (own_ole O0) K0.1) e103 (g := (mkF m 109 (LB0 p1 p2 p3 lg ln s1) [(.int (0 : Int32)), (.int p1), (.int (chV (((mkB p1 lg).map lo8) ++ litI "." ++ ((mkB p2 ln).map lo8)) (0 : Int32)))])) rfl (by rw [hml]; rfl) (argsL := [(.int p1), (.int (0 : Int32))]) (rest := [(.int (chV (((mkB p1 lg).map lo8) ++ litI "." ++ ((mkB p2 ln).map lo8)) (0 : Int32)))]) (lenOf pd29 rfl) rfl (W := 1) (by show 2 * 0 + _ ≤ _; exact Nat.le_of_eq rfl) (hb hby at_109) (by decide) (by decide) (by decide) (by decide)
  obtain ⟨rfl, Nq104, hh104⟩ := hQ104
  have N104 := Fr.app N103 (show Fr nb _ from fun y hy => Nat.le_trans hnb (Nq104 y hy))
  obtain ⟨hx, hZ, hown, hby, hml, hnm, hret, hlk⟩ := id Cc104
  rw [hh104] at e104 B104 J104
  refine Go.of st104 ?_
  show Go p e s below _ _ _ _ T104 (mkF m 112 (LB0 p1 p2 p3 lg ln s1) [(.int (chB p1 (0 : Int32))), (.int (chV (((mkB p1 lg).map lo8) ++ litI "." ++ ((mkB p2 ln).map lo8)) (0 : Int32)))])
  refine Go.of (fun _ hr => XS.icmpNo X104.here hx rfl (hb hby at_112) rfl (teq (whole_l h4_lg (by simp) (by rcases h4_lg with rfl | rfl | rfl | rfl <;> decide))).2 hr) ?_
  show Go p e s below _ _ _ _ T104 (mkF m 115 (LB0 p1 p2 p3 lg ln s1) [])
  refine Go.of (fun _ hr => XS.iconst X104.here hx rfl (hb hby at_115) hr) ?_
  show Go p e s below _ _ _ _ T104 (mkF m 116 (LB0 p1 p2 p3 lg ln s1) [(.int (1 : Int32))])
  refine Go.of (fun _ hr => XS.goto X104.here hx rfl (pc0 := 116) (pc' := 120) rfl (hb hby at_116) (by decide) (by decide) hr) ?_
  show Go p e s below _ _ _ _ T104 (mkF m 120 (LB0 p1 p2 p3 lg ln s1) [(.int (1 : Int32))])
  refine Go.of (fun _ hr => XS.istore X104.here hx rfl (hb hby at_120) rfl (l' := (LB0 p1 p2 p3 lg ln s1)) rfl hr) ?_
  show Go p e s below _ _ _ _ T104 (mkF m 122 (LB0 p1 p2 p3 lg ln s1) [])
  refine Go.of (fun _ hr => XS.iload X104.here hx rfl (hb hby at_122) rfl  hr) ?_
  show Go p e s below _ _ _ _ T104 (mkF m 124 (LB0 p1 p2 p3 lg ln s1) [(.int (1 : Int32))])
  refine Go.of (fun _ hr => XS.ifNo X104.here hx rfl (hb hby at_124) rfl ((if0 _ _).trans (feq (by decide : ¬ ((1 : Int32) = (0 : Int32)))).1) hr) ?_
  show Go p e s below _ _ _ _ T104 (mkF m 127 (LB0 p1 p2 p3 lg ln s1) [])
  refine Go.of (fun _ hr => XS.iloadN X104.here hx rfl (hb hby at_127) rfl  hr) ?_
  show Go p e s below _ _ _ _ T104 (mkF m 128 (LB0 p1 p2 p3 lg ln s1) [(.int lg)])
  refine Go.of (fun _ hr => XS.iconst X104.here hx rfl (hb hby at_128) hr) ?_
  show Go p e s below _ _ _ _ T104 (mkF m 129 (LB0 p1 p2 p3 lg ln s1) [(.int (2 : Int32)), (.int lg)])
  refine Go.joinC (α := Int32) Cc104 X104 J104 N104 (fun x_ => x_ = 1) (fun x_ => (mkF m 151 (LB0 p1 p2 p3 lg ln s1) [(.int x_)])) ?_ ?_
  · rintro ok151 b105 T105 L105 Cc105 X105 e105 B105 J105 N105 hj105
    replace hj105 : ok151 = 1 := hj105
    obtain ⟨hx, hZ, hown, hby, hml, hnm, hret, hlk⟩ := id Cc105
    show Go p e s below _ _ _ _ T105 (mkF m 151 (LB0 p1 p2 p3 lg ln s1) [(.int ok151)])
    subst hj105
    show Go p e s below _ _ _ _ T105 (mkF m 151 (LB0 p1 p2 p3 lg ln s1) [(.int (1 : Int32))])
    refine Go.of (fun _ hr => XS.istore X105.here hx rfl (hb hby at_151) rfl (l' := (LB0 p1 p2 p3 lg ln s1)) rfl hr) ?_
    show Go p e s below _ _ _ _ T105 (mkF m 153 (LB0 p1 p2 p3 lg ln s1) [])
    refine Go.of (fun _ hr => XS.iload X105.here hx rfl (hb hby at_153) rfl  hr) ?_
    show Go p e s below _ _ _ _ T105 (mkF m 155 (LB0 p1 p2 p3 lg ln s1) [(.int (1 : Int32))])
    refine Go.of (fun _ hr => XS.ifNo X105.here hx rfl (hb hby at_155) rfl ((if0 _ _).trans (feq (by decide : ¬ ((1 : Int32) = (0 : Int32)))).1) hr) ?_
    show Go p e s below _ _ _ _ T105 (mkF m 158 (LB0 p1 p2 p3 lg ln s1) [])
    refine Go.of (fun _ hr => XS.iloadN X105.here hx rfl (hb hby at_158) rfl  hr) ?_
    show Go p e s below _ _ _ _ T105 (mkF m 159 (LB0 p1 p2 p3 lg ln s1) [(.int lg)])
    refine Go.of (fun _ hr => XS.iconst X105.here hx rfl (hb hby at_159) hr) ?_
    show Go p e s below _ _ _ _ T105 (mkF m 160 (LB0 p1 p2 p3 lg ln s1) [(.int (3 : Int32)), (.int lg)])
    refine Go.joinC (α := Int32) Cc105 X105 J105 N105 (fun x_ => x_ = 1) (fun x_ => (mkF m 182 (LB0 p1 p2 p3 lg ln s1) [(.int x_)])) ?_ ?_
    · rintro ok182 b106 T106 L106 Cc106 X106 e106 B106 J106 N106 hj106
      replace hj106 : ok182 = 1 := hj106
      obtain ⟨hx, hZ, hown, hby, hml, hnm, hret, hlk⟩ := id Cc106
      show Go p e s below _ _ _ _ T106 (mkF m 182 (LB0 p1 p2 p3 lg ln s1) [(.int ok182)])
      subst hj106
      show Go p e s below _ _ _ _ T106 (mkF m 182 (LB0 p1 p2 p3 lg ln s1) [(.int (1 : Int32))])
      refine Go.of (fun _ hr => XS.istore X106.here hx rfl (hb hby at_182) rfl (l' := (LB0 p1 p2 p3 lg ln s1)) rfl hr) ?_
      show Go p e s below _ _ _ _ T106 (mkF m 184 (LB0 p1 p2 p3 lg ln s1) [])
      refine Go.of (fun _ hr => XS.iload X106.here hx rfl (hb hby at_184) rfl  hr) ?_
      show Go p e s below _ _ _ _ T106 (mkF m 186 (LB0 p1 p2 p3 lg ln s1) [(.int (1 : Int32))])
      refine Go.of (fun _ hr => XS.ifNo X106.here hx rfl (hb hby at_186) rfl ((if0 _ _).trans (feq (by decide : ¬ ((1 : Int32) = (0 : Int32)))).1) hr) ?_
      show Go p e s below _ _ _ _ T106 (mkF m 189 (LB0 p1 p2 p3 lg ln s1) [])
      refine Go.of (fun _ hr => XS.iloadN X106.here hx rfl (hb hby at_189) rfl  hr) ?_
      show Go p e s below _ _ _ _ T106 (mkF m 190 (LB0 p1 p2 p3 lg ln s1) [(.int lg)])
      refine Go.of (fun _ hr => XS.iconst X106.here hx rfl (hb hby at_190) hr) ?_
      show Go p e s below _ _ _ _ T106 (mkF m 191 (LB0 p1 p2 p3 lg ln s1) [(.int (4 : Int32)), (.int lg)])
      refine Go.joinC (α := Int32) Cc106 X106 J106 N106 (fun x_ => x_ = 1) (fun x_ => (mkF m 213 (LB0 p1 p2 p3 lg ln s1) [(.int x_)])) ?_ ?_
      · rintro ok213 b107 T107 L107 Cc107 X107 e107 B107 J107 N107 hj107
        replace hj107 : ok213 = 1 := hj107
        obtain ⟨hx, hZ, hown, hby, hml, hnm, hret, hlk⟩ := id Cc107
        show Go p e s below _ _ _ _ T107 (mkF m 213 (LB0 p1 p2 p3 lg ln s1) [(.int ok213)])
        subst hj107
        show Go p e s below _ _ _ _ T107 (mkF m 213 (LB0 p1 p2 p3 lg ln s1) [(.int (1 : Int32))])
        refine Go.of (fun _ hr => XS.istore X107.here hx rfl (hb hby at_213) rfl (l' := (LB0 p1 p2 p3 lg ln s1)) rfl hr) ?_
        show Go p e s below _ _ _ _ T107 (mkF m 215 (LB0 p1 p2 p3 lg ln s1) [])
        refine Go.of (fun _ hr => XS.iload X107.here hx rfl (hb hby at_215) rfl  hr) ?_
        show Go p e s below _ _ _ _ T107 (mkF m 217 (LB0 p1 p2 p3 lg ln s1) [(.int (1 : Int32))])
        refine Go.of (fun _ hr => XS.ifNo X107.here hx rfl (hb hby at_217) rfl ((if0 _ _).trans (feq (by decide : ¬ ((1 : Int32) = (0 : Int32)))).1) hr) ?_
        show Go p e s below _ _ _ _ T107 (mkF m 220 (LB0 p1 p2 p3 lg ln s1) [])
        refine Go.of (fun _ hr => XS.aload X107.here hx rfl (hb hby at_220) rfl rfl hr) ?_
        show Go p e s below _ _ _ _ T107 (mkF m 222 (LB0 p1 p2 p3 lg ln s1) [(.ref s1)])
        refine Go.of (fun _ hr => XS.iloadN X107.here hx rfl (hb hby at_222) rfl  hr) ?_
        show Go p e s below _ _ _ _ T107 (mkF m 223 (LB0 p1 p2 p3 lg ln s1) [(.int lg), (.ref s1)])
        refine Go.of (fun _ hr => XS.iconst X107.here hx rfl (hb hby at_223) hr) ?_
        show Go p e s below _ _ _ _ T107 (mkF m 224 (LB0 p1 p2 p3 lg ln s1) [(.int (1 : Int32)), (.int lg), (.ref s1)])
        refine Go.of (fun _ hr => XS.iadd X107.here hx rfl (hb hby at_224) rfl hr) ?_
        show Go p e s below _ _ _ _ T107 (mkF m 225 (LB0 p1 p2 p3 lg ln s1) [(.int (lg + (1 : Int32))), (.ref s1)])
        obtain ⟨_, b108, T108, h108, L108, e108, Cc108, X108, B108, J108, g108, hQ108, st108⟩ := own_callV Cc107 B107 J107 X107 (hw _ (List.mem_of_getElem? (i := 235) rfl)) (hw _ (List.mem_of_getElem? (i := 236) rfl)) (notFace_of_selects (args := #[]) (mvT hZ (hw _ (List.mem_of_getElem? (i := 238) rfl)))) (hw _ (List.mem_of_getElem? (i := 238) rfl)) (hw _ (List.mem_of_getElem? (i := 237) rfl)) (hw _ (List.mem_of_getElem? (i := 18) rfl)) (hw _ (List.mem_of_getElem? (i := 239) rfl)) (by decide) Es1 (rm46 l Z a0 hw [] s1 v1 _ (((mkB p1 lg).map lo8) ++ litI "." ++ ((mkB p2 ln).map lo8)) (lg + (1 : Int32)) zc _ h0 n0 O0 h0.size (own_ole O0) K0.1 fs hfs S_F Es1 Fv1 Fc1 V1 (len9 h4_lg h4_ln).2 (in_r (g := p1) (n := p2) (i := (0 : Int32)) h4_lg h4_ln (by simp) (by rcases h4_ln with rfl | rfl | rfl | rfl <;> decide) (by decide)).1 (in_r (g := p1) (n := p2) (i := (0 : Int32)) h4_lg h4_ln (by simp) (by rcases h4_ln with rfl | rfl | rfl | rfl <;> decide) (by decide)).2 S_C hzc) e107 (g := (mkF m 225 (LB0 p1 p2 p3 lg ln s1) [(.int (lg + (1 : Int32))), (.ref s1)])) rfl (by rw [hml]; rfl) (argsL := [(.int (lg + (1 : Int32)))]) (rest := []) (lenOf pd35 rfl) rfl (W := 0) (by show 2 * 0 + _ ≤ _; exact Nat.le_of_eq rfl) (hb hby at_225) (by decide) (by decide) (by decide) (by decide)
        obtain ⟨rfl, Nq108, hh108⟩ := hQ108
        have N108 := Fr.app N107 (show Fr nb _ from fun y hy => Nat.le_trans hnb (Nq108 y hy))
        obtain ⟨hx, hZ, hown, hby, hml, hnm, hret, hlk⟩ := id Cc108
        rw [hh108] at e108 B108 J108
        refine Go.of st108 ?_
        show Go p e s below _ _ _ _ T108 (mkF m 228 (LB0 p1 p2 p3 lg ln s1) [(.int (chV (((mkB p1 lg).map lo8) ++ litI "." ++ ((mkB p2 ln).map lo8)) (lg + (1 : Int32))))])
        refine Go.of (fun _ hr => XS.iloadN X108.here hx rfl (hb hby at_228) rfl  hr) ?_
        show Go p e s below _ _ _ _ T108 (mkF m 229 (LB0 p1 p2 p3 lg ln s1) [(.int p2), (.int (chV (((mkB p1 lg).map lo8) ++ litI "." ++ ((mkB p2 ln).map lo8)) (lg + (1 : Int32))))])
        refine Go.of (fun _ hr => XS.iconst X108.here hx rfl (hb hby at_229) hr) ?_
        show Go p e s below _ _ _ _ T108 (mkF m 230 (LB0 p1 p2 p3 lg ln s1) [(.int (0 : Int32)), (.int p2), (.int (chV (((mkB p1 lg).map lo8) ++ litI "." ++ ((mkB p2 ln).map lo8)) (lg + (1 : Int32))))])
        obtain ⟨_, b109, T109, h109, L109, e109, Cc109, X109, B109, J109, g109, hQ109, st109⟩ := own_callS Cc108 B108 J108 X108 (hw _ (List.mem_of_getElem? (i := 4) rfl)) (hw _ (List.mem_of_getElem? (i := 5) rfl)) (hw _ (List.mem_of_getElem? (i := 2) rfl)) (hw _ (List.mem_of_getElem? (i := 6) rfl)) (by decide) (rm2 l Z a0 hw [] p2 (0 : Int32) _ h0 n0 O0 h0.size (own_ole O0) K0.1) e108 (g := (mkF m 230 (LB0 p1 p2 p3 lg ln s1) [(.int (0 : Int32)), (.int p2), (.int (chV (((mkB p1 lg).map lo8) ++ litI "." ++ ((mkB p2 ln).map lo8)) (lg + (1 : Int32))))])) rfl (by rw [hml]; rfl) (argsL := [(.int p2), (.int (0 : Int32))]) (rest := [(.int (chV (((mkB p1 lg).map lo8) ++ litI "." ++ ((mkB p2 ln).map lo8)) (lg + (1 : Int32))))]) (lenOf pd29 rfl) rfl (W := 1) (by show 2 * 0 + _ ≤ _; exact Nat.le_of_eq rfl) (hb hby at_230) (by decide) (by decide) (by decide) (by decide)
        obtain ⟨rfl, Nq109, hh109⟩ := hQ109
        have N109 := Fr.app N108 (show Fr nb _ from fun y hy => Nat.le_trans hnb (Nq109 y hy))
        obtain ⟨hx, hZ, hown, hby, hml, hnm, hret, hlk⟩ := id Cc109
        rw [hh109] at e109 B109 J109
        refine Go.of st109 ?_
        show Go p e s below _ _ _ _ T109 (mkF m 233 (LB0 p1 p2 p3 lg ln s1) [(.int (chB p2 (0 : Int32))), (.int (chV (((mkB p1 lg).map lo8) ++ litI "." ++ ((mkB p2 ln).map lo8)) (lg + (1 : Int32))))])
        refine Go.of (fun _ hr => XS.icmpNo X109.here hx rfl (hb hby at_233) rfl (teq (whole_r2 (i := (0 : Int32)) h4_lg h4_ln (by simp) (by rcases h4_ln with rfl | rfl | rfl | rfl <;> decide) (by decide))).2 hr) ?_
        show Go p e s below _ _ _ _ T109 (mkF m 236 (LB0 p1 p2 p3 lg ln s1) [])
        refine Go.of (fun _ hr => XS.iconst X109.here hx rfl (hb hby at_236) hr) ?_
        show Go p e s below _ _ _ _ T109 (mkF m 237 (LB0 p1 p2 p3 lg ln s1) [(.int (1 : Int32))])
        refine Go.of (fun _ hr => XS.goto X109.here hx rfl (pc0 := 237) (pc' := 241) rfl (hb hby at_237) (by decide) (by decide) hr) ?_
        show Go p e s below _ _ _ _ T109 (mkF m 241 (LB0 p1 p2 p3 lg ln s1) [(.int (1 : Int32))])
        refine Go.of (fun _ hr => XS.istore X109.here hx rfl (hb hby at_241) rfl (l' := (LB0 p1 p2 p3 lg ln s1)) rfl hr) ?_
        show Go p e s below _ _ _ _ T109 (mkF m 243 (LB0 p1 p2 p3 lg ln s1) [])
        refine Go.of (fun _ hr => XS.iload X109.here hx rfl (hb hby at_243) rfl  hr) ?_
        show Go p e s below _ _ _ _ T109 (mkF m 245 (LB0 p1 p2 p3 lg ln s1) [(.int (1 : Int32))])
        refine Go.of (fun _ hr => XS.ifNo X109.here hx rfl (hb hby at_245) rfl ((if0 _ _).trans (feq (by decide : ¬ ((1 : Int32) = (0 : Int32)))).1) hr) ?_
        show Go p e s below _ _ _ _ T109 (mkF m 248 (LB0 p1 p2 p3 lg ln s1) [])
        refine Go.of (fun _ hr => XS.iload X109.here hx rfl (hb hby at_248) rfl  hr) ?_
        show Go p e s below _ _ _ _ T109 (mkF m 250 (LB0 p1 p2 p3 lg ln s1) [(.int ln)])
        refine Go.of (fun _ hr => XS.iconst X109.here hx rfl (hb hby at_250) hr) ?_
        show Go p e s below _ _ _ _ T109 (mkF m 251 (LB0 p1 p2 p3 lg ln s1) [(.int (2 : Int32)), (.int ln)])
        refine Go.joinC (α := Int32) Cc109 X109 J109 N109 (fun x_ => x_ = 1) (fun x_ => (mkF m 275 (LB0 p1 p2 p3 lg ln s1) [(.int x_)])) ?_ ?_
        · rintro ok275 b110 T110 L110 Cc110 X110 e110 B110 J110 N110 hj110
          replace hj110 : ok275 = 1 := hj110
          obtain ⟨hx, hZ, hown, hby, hml, hnm, hret, hlk⟩ := id Cc110
          show Go p e s below _ _ _ _ T110 (mkF m 275 (LB0 p1 p2 p3 lg ln s1) [(.int ok275)])
          subst hj110
          show Go p e s below _ _ _ _ T110 (mkF m 275 (LB0 p1 p2 p3 lg ln s1) [(.int (1 : Int32))])
          refine Go.of (fun _ hr => XS.istore X110.here hx rfl (hb hby at_275) rfl (l' := (LB0 p1 p2 p3 lg ln s1)) rfl hr) ?_
          show Go p e s below _ _ _ _ T110 (mkF m 277 (LB0 p1 p2 p3 lg ln s1) [])
          refine Go.of (fun _ hr => XS.iload X110.here hx rfl (hb hby at_277) rfl  hr) ?_
          show Go p e s below _ _ _ _ T110 (mkF m 279 (LB0 p1 p2 p3 lg ln s1) [(.int (1 : Int32))])
          refine Go.of (fun _ hr => XS.ifNo X110.here hx rfl (hb hby at_279) rfl ((if0 _ _).trans (feq (by decide : ¬ ((1 : Int32) = (0 : Int32)))).1) hr) ?_
          show Go p e s below _ _ _ _ T110 (mkF m 282 (LB0 p1 p2 p3 lg ln s1) [])
          refine Go.of (fun _ hr => XS.iload X110.here hx rfl (hb hby at_282) rfl  hr) ?_
          show Go p e s below _ _ _ _ T110 (mkF m 284 (LB0 p1 p2 p3 lg ln s1) [(.int ln)])
          refine Go.of (fun _ hr => XS.iconst X110.here hx rfl (hb hby at_284) hr) ?_
          show Go p e s below _ _ _ _ T110 (mkF m 285 (LB0 p1 p2 p3 lg ln s1) [(.int (3 : Int32)), (.int ln)])
          refine Go.joinC (α := Int32) Cc110 X110 J110 N110 (fun x_ => x_ = 1) (fun x_ => (mkF m 309 (LB0 p1 p2 p3 lg ln s1) [(.int x_)])) ?_ ?_
          · rintro ok309 b111 T111 L111 Cc111 X111 e111 B111 J111 N111 hj111
            replace hj111 : ok309 = 1 := hj111
            obtain ⟨hx, hZ, hown, hby, hml, hnm, hret, hlk⟩ := id Cc111
            show Go p e s below _ _ _ _ T111 (mkF m 309 (LB0 p1 p2 p3 lg ln s1) [(.int ok309)])
            subst hj111
            show Go p e s below _ _ _ _ T111 (mkF m 309 (LB0 p1 p2 p3 lg ln s1) [(.int (1 : Int32))])
            refine Go.of (fun _ hr => XS.istore X111.here hx rfl (hb hby at_309) rfl (l' := (LB0 p1 p2 p3 lg ln s1)) rfl hr) ?_
            show Go p e s below _ _ _ _ T111 (mkF m 311 (LB0 p1 p2 p3 lg ln s1) [])
            refine Go.of (fun _ hr => XS.iload X111.here hx rfl (hb hby at_311) rfl  hr) ?_
            show Go p e s below _ _ _ _ T111 (mkF m 313 (LB0 p1 p2 p3 lg ln s1) [(.int (1 : Int32))])
            refine Go.of (fun _ hr => XS.ifNo X111.here hx rfl (hb hby at_313) rfl ((if0 _ _).trans (feq (by decide : ¬ ((1 : Int32) = (0 : Int32)))).1) hr) ?_
            show Go p e s below _ _ _ _ T111 (mkF m 316 (LB0 p1 p2 p3 lg ln s1) [])
            refine Go.of (fun _ hr => XS.iload X111.here hx rfl (hb hby at_316) rfl  hr) ?_
            show Go p e s below _ _ _ _ T111 (mkF m 318 (LB0 p1 p2 p3 lg ln s1) [(.int ln)])
            refine Go.of (fun _ hr => XS.iconst X111.here hx rfl (hb hby at_318) hr) ?_
            show Go p e s below _ _ _ _ T111 (mkF m 319 (LB0 p1 p2 p3 lg ln s1) [(.int (4 : Int32)), (.int ln)])
            refine Go.joinC (α := Int32) Cc111 X111 J111 N111 (fun x_ => x_ = 1) (fun x_ => (mkF m 343 (LB0 p1 p2 p3 lg ln s1) [(.int x_)])) ?_ ?_
            · rintro ok343 b112 T112 L112 Cc112 X112 e112 B112 J112 N112 hj112
              replace hj112 : ok343 = 1 := hj112
              obtain ⟨hx, hZ, hown, hby, hml, hnm, hret, hlk⟩ := id Cc112
              show Go p e s below _ _ _ _ T112 (mkF m 343 (LB0 p1 p2 p3 lg ln s1) [(.int ok343)])
              subst hj112
              show Go p e s below _ _ _ _ T112 (mkF m 343 (LB0 p1 p2 p3 lg ln s1) [(.int (1 : Int32))])
              refine Go.of (fun _ hr => XS.istore X112.here hx rfl (hb hby at_343) rfl (l' := (LB0 p1 p2 p3 lg ln s1)) rfl hr) ?_
              show Go p e s below _ _ _ _ T112 (mkF m 345 (LB0 p1 p2 p3 lg ln s1) [])
              refine Go.of (fun _ hr => XS.iload X112.here hx rfl (hb hby at_345) rfl  hr) ?_
              show Go p e s below _ _ _ _ T112 (mkF m 347 (LB0 p1 p2 p3 lg ln s1) [(.int (1 : Int32))])
              exact Go.retN X112 hx hlk B112 J112 e112 (t := .boolean) (z' := (1 : Int32)) hret (by simp) (hb hby at_347) rfl (by decide) (by decide) (fun vm_ hw_ => ⟨rfl, N112⟩)
            intro jn112
            show Go p e s below _ _ _ _ T111 (mkF m 319 (LB0 p1 p2 p3 lg ln s1) [(.int (4 : Int32)), (.int ln)])
            by_cases hb319_113 : ln < (4 : Int32)
            · refine Go.of (fun _ hr => XS.icmpYes X111.here hx rfl (pc0 := 319) (pc' := 338) rfl (hb hby at_319) rfl (tlt hb319_113).1 (by decide) (by decide) hr) ?_
              show Go p e s below _ _ _ _ T111 (mkF m 338 (LB0 p1 p2 p3 lg ln s1) [])
              refine Go.of (fun _ hr => XS.iconst X111.here hx rfl (hb hby at_338) hr) ?_
              show Go p e s below _ _ _ _ T111 (mkF m 339 (LB0 p1 p2 p3 lg ln s1) [(.int (1 : Int32))])
              refine Go.of (fun _ hr => XS.goto X111.here hx rfl (pc0 := 339) (pc' := 343) rfl (hb hby at_339) (by decide) (by decide) hr) ?_
              show Go p e s below _ _ _ _ T111 (mkF m 343 (LB0 p1 p2 p3 lg ln s1) [(.int (1 : Int32))])
              exact jn112 (1 : Int32) _ _ _ Cc111 X111 e111 B111 J111 N111 rfl
            · refine Go.of (fun _ hr => XS.icmpNo X111.here hx rfl (hb hby at_319) rfl (flt hb319_113).1 hr) ?_
              show Go p e s below _ _ _ _ T111 (mkF m 322 (LB0 p1 p2 p3 lg ln s1) [])
              refine Go.of (fun _ hr => XS.aload X111.here hx rfl (hb hby at_322) rfl rfl hr) ?_
              show Go p e s below _ _ _ _ T111 (mkF m 324 (LB0 p1 p2 p3 lg ln s1) [(.ref s1)])
              refine Go.of (fun _ hr => XS.iloadN X111.here hx rfl (hb hby at_324) rfl  hr) ?_
              show Go p e s below _ _ _ _ T111 (mkF m 325 (LB0 p1 p2 p3 lg ln s1) [(.int lg), (.ref s1)])
              refine Go.of (fun _ hr => XS.iconst X111.here hx rfl (hb hby at_325) hr) ?_
              show Go p e s below _ _ _ _ T111 (mkF m 326 (LB0 p1 p2 p3 lg ln s1) [(.int (4 : Int32)), (.int lg), (.ref s1)])
              refine Go.of (fun _ hr => XS.iadd X111.here hx rfl (hb hby at_326) rfl hr) ?_
              show Go p e s below _ _ _ _ T111 (mkF m 327 (LB0 p1 p2 p3 lg ln s1) [(.int (lg + (4 : Int32))), (.ref s1)])
              obtain ⟨_, b114, T114, h114, L114, e114, Cc114, X114, B114, J114, g114, hQ114, st114⟩ := own_callV Cc111 B111 J111 X111 (hw _ (List.mem_of_getElem? (i := 235) rfl)) (hw _ (List.mem_of_getElem? (i := 236) rfl)) (notFace_of_selects (args := #[]) (mvT hZ (hw _ (List.mem_of_getElem? (i := 238) rfl)))) (hw _ (List.mem_of_getElem? (i := 238) rfl)) (hw _ (List.mem_of_getElem? (i := 237) rfl)) (hw _ (List.mem_of_getElem? (i := 18) rfl)) (hw _ (List.mem_of_getElem? (i := 239) rfl)) (by decide) Es1 (rm46 l Z a0 hw [] s1 v1 _ (((mkB p1 lg).map lo8) ++ litI "." ++ ((mkB p2 ln).map lo8)) (lg + (4 : Int32)) zc _ h0 n0 O0 h0.size (own_ole O0) K0.1 fs hfs S_F Es1 Fv1 Fc1 V1 (len9 h4_lg h4_ln).2 (in_r (g := p1) (n := p2) (i := (3 : Int32)) h4_lg h4_ln (by simp) (r4_lt3 h4_ln hb319_113) (by decide)).1 (in_r (g := p1) (n := p2) (i := (3 : Int32)) h4_lg h4_ln (by simp) (r4_lt3 h4_ln hb319_113) (by decide)).2 S_C hzc) e111 (g := (mkF m 327 (LB0 p1 p2 p3 lg ln s1) [(.int (lg + (4 : Int32))), (.ref s1)])) rfl (by rw [hml]; rfl) (argsL := [(.int (lg + (4 : Int32)))]) (rest := []) (lenOf pd35 rfl) rfl (W := 0) (by show 2 * 0 + _ ≤ _; exact Nat.le_of_eq rfl) (hb hby at_327) (by decide) (by decide) (by decide) (by decide)
              obtain ⟨rfl, Nq114, hh114⟩ := hQ114
              have N114 := Fr.app N111 (show Fr nb _ from fun y hy => Nat.le_trans hnb (Nq114 y hy))
              obtain ⟨hx, hZ, hown, hby, hml, hnm, hret, hlk⟩ := id Cc114
              rw [hh114] at e114 B114 J114
              refine Go.of st114 ?_
              show Go p e s below _ _ _ _ T114 (mkF m 330 (LB0 p1 p2 p3 lg ln s1) [(.int (chV (((mkB p1 lg).map lo8) ++ litI "." ++ ((mkB p2 ln).map lo8)) (lg + (4 : Int32))))])
              refine Go.of (fun _ hr => XS.iloadN X114.here hx rfl (hb hby at_330) rfl  hr) ?_
              show Go p e s below _ _ _ _ T114 (mkF m 331 (LB0 p1 p2 p3 lg ln s1) [(.int p2), (.int (chV (((mkB p1 lg).map lo8) ++ litI "." ++ ((mkB p2 ln).map lo8)) (lg + (4 : Int32))))])
              refine Go.of (fun _ hr => XS.iconst X114.here hx rfl (hb hby at_331) hr) ?_
              show Go p e s below _ _ _ _ T114 (mkF m 332 (LB0 p1 p2 p3 lg ln s1) [(.int (3 : Int32)), (.int p2), (.int (chV (((mkB p1 lg).map lo8) ++ litI "." ++ ((mkB p2 ln).map lo8)) (lg + (4 : Int32))))])
              obtain ⟨_, b115, T115, h115, L115, e115, Cc115, X115, B115, J115, g115, hQ115, st115⟩ := own_callS Cc114 B114 J114 X114 (hw _ (List.mem_of_getElem? (i := 4) rfl)) (hw _ (List.mem_of_getElem? (i := 5) rfl)) (hw _ (List.mem_of_getElem? (i := 2) rfl)) (hw _ (List.mem_of_getElem? (i := 6) rfl)) (by decide) (rm2 l Z a0 hw [] p2 (3 : Int32) _ h0 n0 O0 h0.size (own_ole O0) K0.1) e114 (g := (mkF m 332 (LB0 p1 p2 p3 lg ln s1) [(.int (3 : Int32)), (.int p2), (.int (chV (((mkB p1 lg).map lo8) ++ litI "." ++ ((mkB p2 ln).map lo8)) (lg + (4 : Int32))))])) rfl (by rw [hml]; rfl) (argsL := [(.int p2), (.int (3 : Int32))]) (rest := [(.int (chV (((mkB p1 lg).map lo8) ++ litI "." ++ ((mkB p2 ln).map lo8)) (lg + (4 : Int32))))]) (lenOf pd29 rfl) rfl (W := 1) (by show 2 * 0 + _ ≤ _; exact Nat.le_of_eq rfl) (hb hby at_332) (by decide) (by decide) (by decide) (by decide)
              obtain ⟨rfl, Nq115, hh115⟩ := hQ115
              have N115 := Fr.app N114 (show Fr nb _ from fun y hy => Nat.le_trans hnb (Nq115 y hy))
              obtain ⟨hx, hZ, hown, hby, hml, hnm, hret, hlk⟩ := id Cc115
              rw [hh115] at e115 B115 J115
              refine Go.of st115 ?_
              show Go p e s below _ _ _ _ T115 (mkF m 335 (LB0 p1 p2 p3 lg ln s1) [(.int (chB p2 (3 : Int32))), (.int (chV (((mkB p1 lg).map lo8) ++ litI "." ++ ((mkB p2 ln).map lo8)) (lg + (4 : Int32))))])
              refine Go.of (fun _ hr => XS.icmpNo X115.here hx rfl (hb hby at_335) rfl (teq (whole_r2 (i := (3 : Int32)) h4_lg h4_ln (by simp) (r4_lt3 h4_ln hb319_113) (by decide))).2 hr) ?_
              show Go p e s below _ _ _ _ T115 (mkF m 338 (LB0 p1 p2 p3 lg ln s1) [])
              refine Go.of (fun _ hr => XS.iconst X115.here hx rfl (hb hby at_338) hr) ?_
              show Go p e s below _ _ _ _ T115 (mkF m 339 (LB0 p1 p2 p3 lg ln s1) [(.int (1 : Int32))])
              refine Go.of (fun _ hr => XS.goto X115.here hx rfl (pc0 := 339) (pc' := 343) rfl (hb hby at_339) (by decide) (by decide) hr) ?_
              show Go p e s below _ _ _ _ T115 (mkF m 343 (LB0 p1 p2 p3 lg ln s1) [(.int (1 : Int32))])
              exact jn112 (1 : Int32) _ _ _ Cc115 X115 e115 B115 J115 N115 rfl
          intro jn111
          show Go p e s below _ _ _ _ T110 (mkF m 285 (LB0 p1 p2 p3 lg ln s1) [(.int (3 : Int32)), (.int ln)])
          by_cases hb285_116 : ln < (3 : Int32)
          · refine Go.of (fun _ hr => XS.icmpYes X110.here hx rfl (pc0 := 285) (pc' := 304) rfl (hb hby at_285) rfl (tlt hb285_116).1 (by decide) (by decide) hr) ?_
            show Go p e s below _ _ _ _ T110 (mkF m 304 (LB0 p1 p2 p3 lg ln s1) [])
            refine Go.of (fun _ hr => XS.iconst X110.here hx rfl (hb hby at_304) hr) ?_
            show Go p e s below _ _ _ _ T110 (mkF m 305 (LB0 p1 p2 p3 lg ln s1) [(.int (1 : Int32))])
            refine Go.of (fun _ hr => XS.goto X110.here hx rfl (pc0 := 305) (pc' := 309) rfl (hb hby at_305) (by decide) (by decide) hr) ?_
            show Go p e s below _ _ _ _ T110 (mkF m 309 (LB0 p1 p2 p3 lg ln s1) [(.int (1 : Int32))])
            exact jn111 (1 : Int32) _ _ _ Cc110 X110 e110 B110 J110 N110 rfl
          · refine Go.of (fun _ hr => XS.icmpNo X110.here hx rfl (hb hby at_285) rfl (flt hb285_116).1 hr) ?_
            show Go p e s below _ _ _ _ T110 (mkF m 288 (LB0 p1 p2 p3 lg ln s1) [])
            refine Go.of (fun _ hr => XS.aload X110.here hx rfl (hb hby at_288) rfl rfl hr) ?_
            show Go p e s below _ _ _ _ T110 (mkF m 290 (LB0 p1 p2 p3 lg ln s1) [(.ref s1)])
            refine Go.of (fun _ hr => XS.iloadN X110.here hx rfl (hb hby at_290) rfl  hr) ?_
            show Go p e s below _ _ _ _ T110 (mkF m 291 (LB0 p1 p2 p3 lg ln s1) [(.int lg), (.ref s1)])
            refine Go.of (fun _ hr => XS.iconst X110.here hx rfl (hb hby at_291) hr) ?_
            show Go p e s below _ _ _ _ T110 (mkF m 292 (LB0 p1 p2 p3 lg ln s1) [(.int (3 : Int32)), (.int lg), (.ref s1)])
            refine Go.of (fun _ hr => XS.iadd X110.here hx rfl (hb hby at_292) rfl hr) ?_
            show Go p e s below _ _ _ _ T110 (mkF m 293 (LB0 p1 p2 p3 lg ln s1) [(.int (lg + (3 : Int32))), (.ref s1)])
            obtain ⟨_, b117, T117, h117, L117, e117, Cc117, X117, B117, J117, g117, hQ117, st117⟩ := own_callV Cc110 B110 J110 X110 (hw _ (List.mem_of_getElem? (i := 235) rfl)) (hw _ (List.mem_of_getElem? (i := 236) rfl)) (notFace_of_selects (args := #[]) (mvT hZ (hw _ (List.mem_of_getElem? (i := 238) rfl)))) (hw _ (List.mem_of_getElem? (i := 238) rfl)) (hw _ (List.mem_of_getElem? (i := 237) rfl)) (hw _ (List.mem_of_getElem? (i := 18) rfl)) (hw _ (List.mem_of_getElem? (i := 239) rfl)) (by decide) Es1 (rm46 l Z a0 hw [] s1 v1 _ (((mkB p1 lg).map lo8) ++ litI "." ++ ((mkB p2 ln).map lo8)) (lg + (3 : Int32)) zc _ h0 n0 O0 h0.size (own_ole O0) K0.1 fs hfs S_F Es1 Fv1 Fc1 V1 (len9 h4_lg h4_ln).2 (in_r (g := p1) (n := p2) (i := (2 : Int32)) h4_lg h4_ln (by simp) (r4_lt2 h4_ln hb285_116) (by decide)).1 (in_r (g := p1) (n := p2) (i := (2 : Int32)) h4_lg h4_ln (by simp) (r4_lt2 h4_ln hb285_116) (by decide)).2 S_C hzc) e110 (g := (mkF m 293 (LB0 p1 p2 p3 lg ln s1) [(.int (lg + (3 : Int32))), (.ref s1)])) rfl (by rw [hml]; rfl) (argsL := [(.int (lg + (3 : Int32)))]) (rest := []) (lenOf pd35 rfl) rfl (W := 0) (by show 2 * 0 + _ ≤ _; exact Nat.le_of_eq rfl) (hb hby at_293) (by decide) (by decide) (by decide) (by decide)
            obtain ⟨rfl, Nq117, hh117⟩ := hQ117
            have N117 := Fr.app N110 (show Fr nb _ from fun y hy => Nat.le_trans hnb (Nq117 y hy))
            obtain ⟨hx, hZ, hown, hby, hml, hnm, hret, hlk⟩ := id Cc117
            rw [hh117] at e117 B117 J117
            refine Go.of st117 ?_
            show Go p e s below _ _ _ _ T117 (mkF m 296 (LB0 p1 p2 p3 lg ln s1) [(.int (chV (((mkB p1 lg).map lo8) ++ litI "." ++ ((mkB p2 ln).map lo8)) (lg + (3 : Int32))))])
            refine Go.of (fun _ hr => XS.iloadN X117.here hx rfl (hb hby at_296) rfl  hr) ?_
            show Go p e s below _ _ _ _ T117 (mkF m 297 (LB0 p1 p2 p3 lg ln s1) [(.int p2), (.int (chV (((mkB p1 lg).map lo8) ++ litI "." ++ ((mkB p2 ln).map lo8)) (lg + (3 : Int32))))])
            refine Go.of (fun _ hr => XS.iconst X117.here hx rfl (hb hby at_297) hr) ?_
            show Go p e s below _ _ _ _ T117 (mkF m 298 (LB0 p1 p2 p3 lg ln s1) [(.int (2 : Int32)), (.int p2), (.int (chV (((mkB p1 lg).map lo8) ++ litI "." ++ ((mkB p2 ln).map lo8)) (lg + (3 : Int32))))])
            obtain ⟨_, b118, T118, h118, L118, e118, Cc118, X118, B118, J118, g118, hQ118, st118⟩ := own_callS Cc117 B117 J117 X117 (hw _ (List.mem_of_getElem? (i := 4) rfl)) (hw _ (List.mem_of_getElem? (i := 5) rfl)) (hw _ (List.mem_of_getElem? (i := 2) rfl)) (hw _ (List.mem_of_getElem? (i := 6) rfl)) (by decide) (rm2 l Z a0 hw [] p2 (2 : Int32) _ h0 n0 O0 h0.size (own_ole O0) K0.1) e117 (g := (mkF m 298 (LB0 p1 p2 p3 lg ln s1) [(.int (2 : Int32)), (.int p2), (.int (chV (((mkB p1 lg).map lo8) ++ litI "." ++ ((mkB p2 ln).map lo8)) (lg + (3 : Int32))))])) rfl (by rw [hml]; rfl) (argsL := [(.int p2), (.int (2 : Int32))]) (rest := [(.int (chV (((mkB p1 lg).map lo8) ++ litI "." ++ ((mkB p2 ln).map lo8)) (lg + (3 : Int32))))]) (lenOf pd29 rfl) rfl (W := 1) (by show 2 * 0 + _ ≤ _; exact Nat.le_of_eq rfl) (hb hby at_298) (by decide) (by decide) (by decide) (by decide)
            obtain ⟨rfl, Nq118, hh118⟩ := hQ118
            have N118 := Fr.app N117 (show Fr nb _ from fun y hy => Nat.le_trans hnb (Nq118 y hy))
            obtain ⟨hx, hZ, hown, hby, hml, hnm, hret, hlk⟩ := id Cc118
            rw [hh118] at e118 B118 J118
            refine Go.of st118 ?_
            show Go p e s below _ _ _ _ T118 (mkF m 301 (LB0 p1 p2 p3 lg ln s1) [(.int (chB p2 (2 : Int32))), (.int (chV (((mkB p1 lg).map lo8) ++ litI "." ++ ((mkB p2 ln).map lo8)) (lg + (3 : Int32))))])
            refine Go.of (fun _ hr => XS.icmpNo X118.here hx rfl (hb hby at_301) rfl (teq (whole_r2 (i := (2 : Int32)) h4_lg h4_ln (by simp) (r4_lt2 h4_ln hb285_116) (by decide))).2 hr) ?_
            show Go p e s below _ _ _ _ T118 (mkF m 304 (LB0 p1 p2 p3 lg ln s1) [])
            refine Go.of (fun _ hr => XS.iconst X118.here hx rfl (hb hby at_304) hr) ?_
            show Go p e s below _ _ _ _ T118 (mkF m 305 (LB0 p1 p2 p3 lg ln s1) [(.int (1 : Int32))])
            refine Go.of (fun _ hr => XS.goto X118.here hx rfl (pc0 := 305) (pc' := 309) rfl (hb hby at_305) (by decide) (by decide) hr) ?_
            show Go p e s below _ _ _ _ T118 (mkF m 309 (LB0 p1 p2 p3 lg ln s1) [(.int (1 : Int32))])
            exact jn111 (1 : Int32) _ _ _ Cc118 X118 e118 B118 J118 N118 rfl
        intro jn110
        show Go p e s below _ _ _ _ T109 (mkF m 251 (LB0 p1 p2 p3 lg ln s1) [(.int (2 : Int32)), (.int ln)])
        by_cases hb251_119 : ln < (2 : Int32)
        · refine Go.of (fun _ hr => XS.icmpYes X109.here hx rfl (pc0 := 251) (pc' := 270) rfl (hb hby at_251) rfl (tlt hb251_119).1 (by decide) (by decide) hr) ?_
          show Go p e s below _ _ _ _ T109 (mkF m 270 (LB0 p1 p2 p3 lg ln s1) [])
          refine Go.of (fun _ hr => XS.iconst X109.here hx rfl (hb hby at_270) hr) ?_
          show Go p e s below _ _ _ _ T109 (mkF m 271 (LB0 p1 p2 p3 lg ln s1) [(.int (1 : Int32))])
          refine Go.of (fun _ hr => XS.goto X109.here hx rfl (pc0 := 271) (pc' := 275) rfl (hb hby at_271) (by decide) (by decide) hr) ?_
          show Go p e s below _ _ _ _ T109 (mkF m 275 (LB0 p1 p2 p3 lg ln s1) [(.int (1 : Int32))])
          exact jn110 (1 : Int32) _ _ _ Cc109 X109 e109 B109 J109 N109 rfl
        · refine Go.of (fun _ hr => XS.icmpNo X109.here hx rfl (hb hby at_251) rfl (flt hb251_119).1 hr) ?_
          show Go p e s below _ _ _ _ T109 (mkF m 254 (LB0 p1 p2 p3 lg ln s1) [])
          refine Go.of (fun _ hr => XS.aload X109.here hx rfl (hb hby at_254) rfl rfl hr) ?_
          show Go p e s below _ _ _ _ T109 (mkF m 256 (LB0 p1 p2 p3 lg ln s1) [(.ref s1)])
          refine Go.of (fun _ hr => XS.iloadN X109.here hx rfl (hb hby at_256) rfl  hr) ?_
          show Go p e s below _ _ _ _ T109 (mkF m 257 (LB0 p1 p2 p3 lg ln s1) [(.int lg), (.ref s1)])
          refine Go.of (fun _ hr => XS.iconst X109.here hx rfl (hb hby at_257) hr) ?_
          show Go p e s below _ _ _ _ T109 (mkF m 258 (LB0 p1 p2 p3 lg ln s1) [(.int (2 : Int32)), (.int lg), (.ref s1)])
          refine Go.of (fun _ hr => XS.iadd X109.here hx rfl (hb hby at_258) rfl hr) ?_
          show Go p e s below _ _ _ _ T109 (mkF m 259 (LB0 p1 p2 p3 lg ln s1) [(.int (lg + (2 : Int32))), (.ref s1)])
          obtain ⟨_, b120, T120, h120, L120, e120, Cc120, X120, B120, J120, g120, hQ120, st120⟩ := own_callV Cc109 B109 J109 X109 (hw _ (List.mem_of_getElem? (i := 235) rfl)) (hw _ (List.mem_of_getElem? (i := 236) rfl)) (notFace_of_selects (args := #[]) (mvT hZ (hw _ (List.mem_of_getElem? (i := 238) rfl)))) (hw _ (List.mem_of_getElem? (i := 238) rfl)) (hw _ (List.mem_of_getElem? (i := 237) rfl)) (hw _ (List.mem_of_getElem? (i := 18) rfl)) (hw _ (List.mem_of_getElem? (i := 239) rfl)) (by decide) Es1 (rm46 l Z a0 hw [] s1 v1 _ (((mkB p1 lg).map lo8) ++ litI "." ++ ((mkB p2 ln).map lo8)) (lg + (2 : Int32)) zc _ h0 n0 O0 h0.size (own_ole O0) K0.1 fs hfs S_F Es1 Fv1 Fc1 V1 (len9 h4_lg h4_ln).2 (in_r (g := p1) (n := p2) (i := (1 : Int32)) h4_lg h4_ln (by simp) (r4_lt1 h4_ln hb251_119) (by decide)).1 (in_r (g := p1) (n := p2) (i := (1 : Int32)) h4_lg h4_ln (by simp) (r4_lt1 h4_ln hb251_119) (by decide)).2 S_C hzc) e109 (g := (mkF m 259 (LB0 p1 p2 p3 lg ln s1) [(.int (lg + (2 : Int32))), (.ref s1)])) rfl (by rw [hml]; rfl) (argsL := [(.int (lg + (2 : Int32)))]) (rest := []) (lenOf pd35 rfl) rfl (W := 0) (by show 2 * 0 + _ ≤ _; exact Nat.le_of_eq rfl) (hb hby at_259) (by decide) (by decide) (by decide) (by decide)
          obtain ⟨rfl, Nq120, hh120⟩ := hQ120
          have N120 := Fr.app N109 (show Fr nb _ from fun y hy => Nat.le_trans hnb (Nq120 y hy))
          obtain ⟨hx, hZ, hown, hby, hml, hnm, hret, hlk⟩ := id Cc120
          rw [hh120] at e120 B120 J120
          refine Go.of st120 ?_
          show Go p e s below _ _ _ _ T120 (mkF m 262 (LB0 p1 p2 p3 lg ln s1) [(.int (chV (((mkB p1 lg).map lo8) ++ litI "." ++ ((mkB p2 ln).map lo8)) (lg + (2 : Int32))))])
          refine Go.of (fun _ hr => XS.iloadN X120.here hx rfl (hb hby at_262) rfl  hr) ?_
          show Go p e s below _ _ _ _ T120 (mkF m 263 (LB0 p1 p2 p3 lg ln s1) [(.int p2), (.int (chV (((mkB p1 lg).map lo8) ++ litI "." ++ ((mkB p2 ln).map lo8)) (lg + (2 : Int32))))])
          refine Go.of (fun _ hr => XS.iconst X120.here hx rfl (hb hby at_263) hr) ?_
          show Go p e s below _ _ _ _ T120 (mkF m 264 (LB0 p1 p2 p3 lg ln s1) [(.int (1 : Int32)), (.int p2), (.int (chV (((mkB p1 lg).map lo8) ++ litI "." ++ ((mkB p2 ln).map lo8)) (lg + (2 : Int32))))])
          obtain ⟨_, b121, T121, h121, L121, e121, Cc121, X121, B121, J121, g121, hQ121, st121⟩ := own_callS Cc120 B120 J120 X120 (hw _ (List.mem_of_getElem? (i := 4) rfl)) (hw _ (List.mem_of_getElem? (i := 5) rfl)) (hw _ (List.mem_of_getElem? (i := 2) rfl)) (hw _ (List.mem_of_getElem? (i := 6) rfl)) (by decide) (rm2 l Z a0 hw [] p2 (1 : Int32) _ h0 n0 O0 h0.size (own_ole O0) K0.1) e120 (g := (mkF m 264 (LB0 p1 p2 p3 lg ln s1) [(.int (1 : Int32)), (.int p2), (.int (chV (((mkB p1 lg).map lo8) ++ litI "." ++ ((mkB p2 ln).map lo8)) (lg + (2 : Int32))))])) rfl (by rw [hml]; rfl) (argsL := [(.int p2), (.int (1 : Int32))]) (rest := [(.int (chV (((mkB p1 lg).map lo8) ++ litI "." ++ ((mkB p2 ln).map lo8)) (lg + (2 : Int32))))]) (lenOf pd29 rfl) rfl (W := 1) (by show 2 * 0 + _ ≤ _; exact Nat.le_of_eq rfl) (hb hby at_264) (by decide) (by decide) (by decide) (by decide)
          obtain ⟨rfl, Nq121, hh121⟩ := hQ121
          have N121 := Fr.app N120 (show Fr nb _ from fun y hy => Nat.le_trans hnb (Nq121 y hy))
          obtain ⟨hx, hZ, hown, hby, hml, hnm, hret, hlk⟩ := id Cc121
          rw [hh121] at e121 B121 J121
          refine Go.of st121 ?_
          show Go p e s below _ _ _ _ T121 (mkF m 267 (LB0 p1 p2 p3 lg ln s1) [(.int (chB p2 (1 : Int32))), (.int (chV (((mkB p1 lg).map lo8) ++ litI "." ++ ((mkB p2 ln).map lo8)) (lg + (2 : Int32))))])
          refine Go.of (fun _ hr => XS.icmpNo X121.here hx rfl (hb hby at_267) rfl (teq (whole_r2 (i := (1 : Int32)) h4_lg h4_ln (by simp) (r4_lt1 h4_ln hb251_119) (by decide))).2 hr) ?_
          show Go p e s below _ _ _ _ T121 (mkF m 270 (LB0 p1 p2 p3 lg ln s1) [])
          refine Go.of (fun _ hr => XS.iconst X121.here hx rfl (hb hby at_270) hr) ?_
          show Go p e s below _ _ _ _ T121 (mkF m 271 (LB0 p1 p2 p3 lg ln s1) [(.int (1 : Int32))])
          refine Go.of (fun _ hr => XS.goto X121.here hx rfl (pc0 := 271) (pc' := 275) rfl (hb hby at_271) (by decide) (by decide) hr) ?_
          show Go p e s below _ _ _ _ T121 (mkF m 275 (LB0 p1 p2 p3 lg ln s1) [(.int (1 : Int32))])
          exact jn110 (1 : Int32) _ _ _ Cc121 X121 e121 B121 J121 N121 rfl
      intro jn107
      show Go p e s below _ _ _ _ T106 (mkF m 191 (LB0 p1 p2 p3 lg ln s1) [(.int (4 : Int32)), (.int lg)])
      by_cases hb191_122 : lg < (4 : Int32)
      · refine Go.of (fun _ hr => XS.icmpYes X106.here hx rfl (pc0 := 191) (pc' := 208) rfl (hb hby at_191) rfl (tlt hb191_122).1 (by decide) (by decide) hr) ?_
        show Go p e s below _ _ _ _ T106 (mkF m 208 (LB0 p1 p2 p3 lg ln s1) [])
        refine Go.of (fun _ hr => XS.iconst X106.here hx rfl (hb hby at_208) hr) ?_
        show Go p e s below _ _ _ _ T106 (mkF m 209 (LB0 p1 p2 p3 lg ln s1) [(.int (1 : Int32))])
        refine Go.of (fun _ hr => XS.goto X106.here hx rfl (pc0 := 209) (pc' := 213) rfl (hb hby at_209) (by decide) (by decide) hr) ?_
        show Go p e s below _ _ _ _ T106 (mkF m 213 (LB0 p1 p2 p3 lg ln s1) [(.int (1 : Int32))])
        exact jn107 (1 : Int32) _ _ _ Cc106 X106 e106 B106 J106 N106 rfl
      · refine Go.of (fun _ hr => XS.icmpNo X106.here hx rfl (hb hby at_191) rfl (flt hb191_122).1 hr) ?_
        show Go p e s below _ _ _ _ T106 (mkF m 194 (LB0 p1 p2 p3 lg ln s1) [])
        refine Go.of (fun _ hr => XS.aload X106.here hx rfl (hb hby at_194) rfl rfl hr) ?_
        show Go p e s below _ _ _ _ T106 (mkF m 196 (LB0 p1 p2 p3 lg ln s1) [(.ref s1)])
        refine Go.of (fun _ hr => XS.iconst X106.here hx rfl (hb hby at_196) hr) ?_
        show Go p e s below _ _ _ _ T106 (mkF m 197 (LB0 p1 p2 p3 lg ln s1) [(.int (3 : Int32)), (.ref s1)])
        obtain ⟨_, b123, T123, h123, L123, e123, Cc123, X123, B123, J123, g123, hQ123, st123⟩ := own_callV Cc106 B106 J106 X106 (hw _ (List.mem_of_getElem? (i := 235) rfl)) (hw _ (List.mem_of_getElem? (i := 236) rfl)) (notFace_of_selects (args := #[]) (mvT hZ (hw _ (List.mem_of_getElem? (i := 238) rfl)))) (hw _ (List.mem_of_getElem? (i := 238) rfl)) (hw _ (List.mem_of_getElem? (i := 237) rfl)) (hw _ (List.mem_of_getElem? (i := 18) rfl)) (hw _ (List.mem_of_getElem? (i := 239) rfl)) (by decide) Es1 (rm46 l Z a0 hw [] s1 v1 _ (((mkB p1 lg).map lo8) ++ litI "." ++ ((mkB p2 ln).map lo8)) (3 : Int32) zc _ h0 n0 O0 h0.size (own_ole O0) K0.1 fs hfs S_F Es1 Fv1 Fc1 V1 (len9 h4_lg h4_ln).2 (in_w (g := p1) (n := p2) h4_lg h4_ln (Or.inl (Or.inr ⟨by simp, (r4_lt3 h4_lg hb191_122)⟩))).1 (in_w (g := p1) (n := p2) h4_lg h4_ln (Or.inl (Or.inr ⟨by simp, (r4_lt3 h4_lg hb191_122)⟩))).2 S_C hzc) e106 (g := (mkF m 197 (LB0 p1 p2 p3 lg ln s1) [(.int (3 : Int32)), (.ref s1)])) rfl (by rw [hml]; rfl) (argsL := [(.int (3 : Int32))]) (rest := []) (lenOf pd35 rfl) rfl (W := 0) (by show 2 * 0 + _ ≤ _; exact Nat.le_of_eq rfl) (hb hby at_197) (by decide) (by decide) (by decide) (by decide)
        obtain ⟨rfl, Nq123, hh123⟩ := hQ123
        have N123 := Fr.app N106 (show Fr nb _ from fun y hy => Nat.le_trans hnb (Nq123 y hy))
        obtain ⟨hx, hZ, hown, hby, hml, hnm, hret, hlk⟩ := id Cc123
        rw [hh123] at e123 B123 J123
        refine Go.of st123 ?_
        show Go p e s below _ _ _ _ T123 (mkF m 200 (LB0 p1 p2 p3 lg ln s1) [(.int (chV (((mkB p1 lg).map lo8) ++ litI "." ++ ((mkB p2 ln).map lo8)) (3 : Int32)))])
        refine Go.of (fun _ hr => XS.iloadN X123.here hx rfl (hb hby at_200) rfl  hr) ?_
        show Go p e s below _ _ _ _ T123 (mkF m 201 (LB0 p1 p2 p3 lg ln s1) [(.int p1), (.int (chV (((mkB p1 lg).map lo8) ++ litI "." ++ ((mkB p2 ln).map lo8)) (3 : Int32)))])
        refine Go.of (fun _ hr => XS.iconst X123.here hx rfl (hb hby at_201) hr) ?_
        show Go p e s below _ _ _ _ T123 (mkF m 202 (LB0 p1 p2 p3 lg ln s1) [(.int (3 : Int32)), (.int p1), (.int (chV (((mkB p1 lg).map lo8) ++ litI "." ++ ((mkB p2 ln).map lo8)) (3 : Int32)))])
        obtain ⟨_, b124, T124, h124, L124, e124, Cc124, X124, B124, J124, g124, hQ124, st124⟩ := own_callS Cc123 B123 J123 X123 (hw _ (List.mem_of_getElem? (i := 4) rfl)) (hw _ (List.mem_of_getElem? (i := 5) rfl)) (hw _ (List.mem_of_getElem? (i := 2) rfl)) (hw _ (List.mem_of_getElem? (i := 6) rfl)) (by decide) (rm2 l Z a0 hw [] p1 (3 : Int32) _ h0 n0 O0 h0.size (own_ole O0) K0.1) e123 (g := (mkF m 202 (LB0 p1 p2 p3 lg ln s1) [(.int (3 : Int32)), (.int p1), (.int (chV (((mkB p1 lg).map lo8) ++ litI "." ++ ((mkB p2 ln).map lo8)) (3 : Int32)))])) rfl (by rw [hml]; rfl) (argsL := [(.int p1), (.int (3 : Int32))]) (rest := [(.int (chV (((mkB p1 lg).map lo8) ++ litI "." ++ ((mkB p2 ln).map lo8)) (3 : Int32)))]) (lenOf pd29 rfl) rfl (W := 1) (by show 2 * 0 + _ ≤ _; exact Nat.le_of_eq rfl) (hb hby at_202) (by decide) (by decide) (by decide) (by decide)
        obtain ⟨rfl, Nq124, hh124⟩ := hQ124
        have N124 := Fr.app N123 (show Fr nb _ from fun y hy => Nat.le_trans hnb (Nq124 y hy))
        obtain ⟨hx, hZ, hown, hby, hml, hnm, hret, hlk⟩ := id Cc124
        rw [hh124] at e124 B124 J124
        refine Go.of st124 ?_
        show Go p e s below _ _ _ _ T124 (mkF m 205 (LB0 p1 p2 p3 lg ln s1) [(.int (chB p1 (3 : Int32))), (.int (chV (((mkB p1 lg).map lo8) ++ litI "." ++ ((mkB p2 ln).map lo8)) (3 : Int32)))])
        refine Go.of (fun _ hr => XS.icmpNo X124.here hx rfl (hb hby at_205) rfl (teq (whole_l h4_lg (by simp) (r4_lt3 h4_lg hb191_122))).2 hr) ?_
        show Go p e s below _ _ _ _ T124 (mkF m 208 (LB0 p1 p2 p3 lg ln s1) [])
        refine Go.of (fun _ hr => XS.iconst X124.here hx rfl (hb hby at_208) hr) ?_
        show Go p e s below _ _ _ _ T124 (mkF m 209 (LB0 p1 p2 p3 lg ln s1) [(.int (1 : Int32))])
        refine Go.of (fun _ hr => XS.goto X124.here hx rfl (pc0 := 209) (pc' := 213) rfl (hb hby at_209) (by decide) (by decide) hr) ?_
        show Go p e s below _ _ _ _ T124 (mkF m 213 (LB0 p1 p2 p3 lg ln s1) [(.int (1 : Int32))])
        exact jn107 (1 : Int32) _ _ _ Cc124 X124 e124 B124 J124 N124 rfl
    intro jn106
    show Go p e s below _ _ _ _ T105 (mkF m 160 (LB0 p1 p2 p3 lg ln s1) [(.int (3 : Int32)), (.int lg)])
    by_cases hb160_125 : lg < (3 : Int32)
    · refine Go.of (fun _ hr => XS.icmpYes X105.here hx rfl (pc0 := 160) (pc' := 177) rfl (hb hby at_160) rfl (tlt hb160_125).1 (by decide) (by decide) hr) ?_
      show Go p e s below _ _ _ _ T105 (mkF m 177 (LB0 p1 p2 p3 lg ln s1) [])
      refine Go.of (fun _ hr => XS.iconst X105.here hx rfl (hb hby at_177) hr) ?_
      show Go p e s below _ _ _ _ T105 (mkF m 178 (LB0 p1 p2 p3 lg ln s1) [(.int (1 : Int32))])
      refine Go.of (fun _ hr => XS.goto X105.here hx rfl (pc0 := 178) (pc' := 182) rfl (hb hby at_178) (by decide) (by decide) hr) ?_
      show Go p e s below _ _ _ _ T105 (mkF m 182 (LB0 p1 p2 p3 lg ln s1) [(.int (1 : Int32))])
      exact jn106 (1 : Int32) _ _ _ Cc105 X105 e105 B105 J105 N105 rfl
    · refine Go.of (fun _ hr => XS.icmpNo X105.here hx rfl (hb hby at_160) rfl (flt hb160_125).1 hr) ?_
      show Go p e s below _ _ _ _ T105 (mkF m 163 (LB0 p1 p2 p3 lg ln s1) [])
      refine Go.of (fun _ hr => XS.aload X105.here hx rfl (hb hby at_163) rfl rfl hr) ?_
      show Go p e s below _ _ _ _ T105 (mkF m 165 (LB0 p1 p2 p3 lg ln s1) [(.ref s1)])
      refine Go.of (fun _ hr => XS.iconst X105.here hx rfl (hb hby at_165) hr) ?_
      show Go p e s below _ _ _ _ T105 (mkF m 166 (LB0 p1 p2 p3 lg ln s1) [(.int (2 : Int32)), (.ref s1)])
      obtain ⟨_, b126, T126, h126, L126, e126, Cc126, X126, B126, J126, g126, hQ126, st126⟩ := own_callV Cc105 B105 J105 X105 (hw _ (List.mem_of_getElem? (i := 235) rfl)) (hw _ (List.mem_of_getElem? (i := 236) rfl)) (notFace_of_selects (args := #[]) (mvT hZ (hw _ (List.mem_of_getElem? (i := 238) rfl)))) (hw _ (List.mem_of_getElem? (i := 238) rfl)) (hw _ (List.mem_of_getElem? (i := 237) rfl)) (hw _ (List.mem_of_getElem? (i := 18) rfl)) (hw _ (List.mem_of_getElem? (i := 239) rfl)) (by decide) Es1 (rm46 l Z a0 hw [] s1 v1 _ (((mkB p1 lg).map lo8) ++ litI "." ++ ((mkB p2 ln).map lo8)) (2 : Int32) zc _ h0 n0 O0 h0.size (own_ole O0) K0.1 fs hfs S_F Es1 Fv1 Fc1 V1 (len9 h4_lg h4_ln).2 (in_w (g := p1) (n := p2) h4_lg h4_ln (Or.inl (Or.inr ⟨by simp, (r4_lt2 h4_lg hb160_125)⟩))).1 (in_w (g := p1) (n := p2) h4_lg h4_ln (Or.inl (Or.inr ⟨by simp, (r4_lt2 h4_lg hb160_125)⟩))).2 S_C hzc) e105 (g := (mkF m 166 (LB0 p1 p2 p3 lg ln s1) [(.int (2 : Int32)), (.ref s1)])) rfl (by rw [hml]; rfl) (argsL := [(.int (2 : Int32))]) (rest := []) (lenOf pd35 rfl) rfl (W := 0) (by show 2 * 0 + _ ≤ _; exact Nat.le_of_eq rfl) (hb hby at_166) (by decide) (by decide) (by decide) (by decide)
      obtain ⟨rfl, Nq126, hh126⟩ := hQ126
      have N126 := Fr.app N105 (show Fr nb _ from fun y hy => Nat.le_trans hnb (Nq126 y hy))
      obtain ⟨hx, hZ, hown, hby, hml, hnm, hret, hlk⟩ := id Cc126
      rw [hh126] at e126 B126 J126
      refine Go.of st126 ?_
      show Go p e s below _ _ _ _ T126 (mkF m 169 (LB0 p1 p2 p3 lg ln s1) [(.int (chV (((mkB p1 lg).map lo8) ++ litI "." ++ ((mkB p2 ln).map lo8)) (2 : Int32)))])
      refine Go.of (fun _ hr => XS.iloadN X126.here hx rfl (hb hby at_169) rfl  hr) ?_
      show Go p e s below _ _ _ _ T126 (mkF m 170 (LB0 p1 p2 p3 lg ln s1) [(.int p1), (.int (chV (((mkB p1 lg).map lo8) ++ litI "." ++ ((mkB p2 ln).map lo8)) (2 : Int32)))])
      refine Go.of (fun _ hr => XS.iconst X126.here hx rfl (hb hby at_170) hr) ?_
      show Go p e s below _ _ _ _ T126 (mkF m 171 (LB0 p1 p2 p3 lg ln s1) [(.int (2 : Int32)), (.int p1), (.int (chV (((mkB p1 lg).map lo8) ++ litI "." ++ ((mkB p2 ln).map lo8)) (2 : Int32)))])
      obtain ⟨_, b127, T127, h127, L127, e127, Cc127, X127, B127, J127, g127, hQ127, st127⟩ := own_callS Cc126 B126 J126 X126 (hw _ (List.mem_of_getElem? (i := 4) rfl)) (hw _ (List.mem_of_getElem? (i := 5) rfl)) (hw _ (List.mem_of_getElem? (i := 2) rfl)) (hw _ (List.mem_of_getElem? (i := 6) rfl)) (by decide) (rm2 l Z a0 hw [] p1 (2 : Int32) _ h0 n0 O0 h0.size (own_ole O0) K0.1) e126 (g := (mkF m 171 (LB0 p1 p2 p3 lg ln s1) [(.int (2 : Int32)), (.int p1), (.int (chV (((mkB p1 lg).map lo8) ++ litI "." ++ ((mkB p2 ln).map lo8)) (2 : Int32)))])) rfl (by rw [hml]; rfl) (argsL := [(.int p1), (.int (2 : Int32))]) (rest := [(.int (chV (((mkB p1 lg).map lo8) ++ litI "." ++ ((mkB p2 ln).map lo8)) (2 : Int32)))]) (lenOf pd29 rfl) rfl (W := 1) (by show 2 * 0 + _ ≤ _; exact Nat.le_of_eq rfl) (hb hby at_171) (by decide) (by decide) (by decide) (by decide)
      obtain ⟨rfl, Nq127, hh127⟩ := hQ127
      have N127 := Fr.app N126 (show Fr nb _ from fun y hy => Nat.le_trans hnb (Nq127 y hy))
      obtain ⟨hx, hZ, hown, hby, hml, hnm, hret, hlk⟩ := id Cc127
      rw [hh127] at e127 B127 J127
      refine Go.of st127 ?_
      show Go p e s below _ _ _ _ T127 (mkF m 174 (LB0 p1 p2 p3 lg ln s1) [(.int (chB p1 (2 : Int32))), (.int (chV (((mkB p1 lg).map lo8) ++ litI "." ++ ((mkB p2 ln).map lo8)) (2 : Int32)))])
      refine Go.of (fun _ hr => XS.icmpNo X127.here hx rfl (hb hby at_174) rfl (teq (whole_l h4_lg (by simp) (r4_lt2 h4_lg hb160_125))).2 hr) ?_
      show Go p e s below _ _ _ _ T127 (mkF m 177 (LB0 p1 p2 p3 lg ln s1) [])
      refine Go.of (fun _ hr => XS.iconst X127.here hx rfl (hb hby at_177) hr) ?_
      show Go p e s below _ _ _ _ T127 (mkF m 178 (LB0 p1 p2 p3 lg ln s1) [(.int (1 : Int32))])
      refine Go.of (fun _ hr => XS.goto X127.here hx rfl (pc0 := 178) (pc' := 182) rfl (hb hby at_178) (by decide) (by decide) hr) ?_
      show Go p e s below _ _ _ _ T127 (mkF m 182 (LB0 p1 p2 p3 lg ln s1) [(.int (1 : Int32))])
      exact jn106 (1 : Int32) _ _ _ Cc127 X127 e127 B127 J127 N127 rfl
  intro jn105
  show Go p e s below _ _ _ _ T104 (mkF m 129 (LB0 p1 p2 p3 lg ln s1) [(.int (2 : Int32)), (.int lg)])
  by_cases hb129_128 : lg < (2 : Int32)
  · refine Go.of (fun _ hr => XS.icmpYes X104.here hx rfl (pc0 := 129) (pc' := 146) rfl (hb hby at_129) rfl (tlt hb129_128).1 (by decide) (by decide) hr) ?_
    show Go p e s below _ _ _ _ T104 (mkF m 146 (LB0 p1 p2 p3 lg ln s1) [])
    refine Go.of (fun _ hr => XS.iconst X104.here hx rfl (hb hby at_146) hr) ?_
    show Go p e s below _ _ _ _ T104 (mkF m 147 (LB0 p1 p2 p3 lg ln s1) [(.int (1 : Int32))])
    refine Go.of (fun _ hr => XS.goto X104.here hx rfl (pc0 := 147) (pc' := 151) rfl (hb hby at_147) (by decide) (by decide) hr) ?_
    show Go p e s below _ _ _ _ T104 (mkF m 151 (LB0 p1 p2 p3 lg ln s1) [(.int (1 : Int32))])
    exact jn105 (1 : Int32) _ _ _ Cc104 X104 e104 B104 J104 N104 rfl
  · refine Go.of (fun _ hr => XS.icmpNo X104.here hx rfl (hb hby at_129) rfl (flt hb129_128).1 hr) ?_
    show Go p e s below _ _ _ _ T104 (mkF m 132 (LB0 p1 p2 p3 lg ln s1) [])
    refine Go.of (fun _ hr => XS.aload X104.here hx rfl (hb hby at_132) rfl rfl hr) ?_
    show Go p e s below _ _ _ _ T104 (mkF m 134 (LB0 p1 p2 p3 lg ln s1) [(.ref s1)])
    refine Go.of (fun _ hr => XS.iconst X104.here hx rfl (hb hby at_134) hr) ?_
    show Go p e s below _ _ _ _ T104 (mkF m 135 (LB0 p1 p2 p3 lg ln s1) [(.int (1 : Int32)), (.ref s1)])
    obtain ⟨_, b129, T129, h129, L129, e129, Cc129, X129, B129, J129, g129, hQ129, st129⟩ := own_callV Cc104 B104 J104 X104 (hw _ (List.mem_of_getElem? (i := 235) rfl)) (hw _ (List.mem_of_getElem? (i := 236) rfl)) (notFace_of_selects (args := #[]) (mvT hZ (hw _ (List.mem_of_getElem? (i := 238) rfl)))) (hw _ (List.mem_of_getElem? (i := 238) rfl)) (hw _ (List.mem_of_getElem? (i := 237) rfl)) (hw _ (List.mem_of_getElem? (i := 18) rfl)) (hw _ (List.mem_of_getElem? (i := 239) rfl)) (by decide) Es1 (rm46 l Z a0 hw [] s1 v1 _ (((mkB p1 lg).map lo8) ++ litI "." ++ ((mkB p2 ln).map lo8)) (1 : Int32) zc _ h0 n0 O0 h0.size (own_ole O0) K0.1 fs hfs S_F Es1 Fv1 Fc1 V1 (len9 h4_lg h4_ln).2 (in_w (g := p1) (n := p2) h4_lg h4_ln (Or.inl (Or.inr ⟨by simp, (r4_lt1 h4_lg hb129_128)⟩))).1 (in_w (g := p1) (n := p2) h4_lg h4_ln (Or.inl (Or.inr ⟨by simp, (r4_lt1 h4_lg hb129_128)⟩))).2 S_C hzc) e104 (g := (mkF m 135 (LB0 p1 p2 p3 lg ln s1) [(.int (1 : Int32)), (.ref s1)])) rfl (by rw [hml]; rfl) (argsL := [(.int (1 : Int32))]) (rest := []) (lenOf pd35 rfl) rfl (W := 0) (by show 2 * 0 + _ ≤ _; exact Nat.le_of_eq rfl) (hb hby at_135) (by decide) (by decide) (by decide) (by decide)
    obtain ⟨rfl, Nq129, hh129⟩ := hQ129
    have N129 := Fr.app N104 (show Fr nb _ from fun y hy => Nat.le_trans hnb (Nq129 y hy))
    obtain ⟨hx, hZ, hown, hby, hml, hnm, hret, hlk⟩ := id Cc129
    rw [hh129] at e129 B129 J129
    refine Go.of st129 ?_
    show Go p e s below _ _ _ _ T129 (mkF m 138 (LB0 p1 p2 p3 lg ln s1) [(.int (chV (((mkB p1 lg).map lo8) ++ litI "." ++ ((mkB p2 ln).map lo8)) (1 : Int32)))])
    refine Go.of (fun _ hr => XS.iloadN X129.here hx rfl (hb hby at_138) rfl  hr) ?_
    show Go p e s below _ _ _ _ T129 (mkF m 139 (LB0 p1 p2 p3 lg ln s1) [(.int p1), (.int (chV (((mkB p1 lg).map lo8) ++ litI "." ++ ((mkB p2 ln).map lo8)) (1 : Int32)))])
    refine Go.of (fun _ hr => XS.iconst X129.here hx rfl (hb hby at_139) hr) ?_
    show Go p e s below _ _ _ _ T129 (mkF m 140 (LB0 p1 p2 p3 lg ln s1) [(.int (1 : Int32)), (.int p1), (.int (chV (((mkB p1 lg).map lo8) ++ litI "." ++ ((mkB p2 ln).map lo8)) (1 : Int32)))])
    obtain ⟨_, b130, T130, h130, L130, e130, Cc130, X130, B130, J130, g130, hQ130, st130⟩ := own_callS Cc129 B129 J129 X129 (hw _ (List.mem_of_getElem? (i := 4) rfl)) (hw _ (List.mem_of_getElem? (i := 5) rfl)) (hw _ (List.mem_of_getElem? (i := 2) rfl)) (hw _ (List.mem_of_getElem? (i := 6) rfl)) (by decide) (rm2 l Z a0 hw [] p1 (1 : Int32) _ h0 n0 O0 h0.size (own_ole O0) K0.1) e129 (g := (mkF m 140 (LB0 p1 p2 p3 lg ln s1) [(.int (1 : Int32)), (.int p1), (.int (chV (((mkB p1 lg).map lo8) ++ litI "." ++ ((mkB p2 ln).map lo8)) (1 : Int32)))])) rfl (by rw [hml]; rfl) (argsL := [(.int p1), (.int (1 : Int32))]) (rest := [(.int (chV (((mkB p1 lg).map lo8) ++ litI "." ++ ((mkB p2 ln).map lo8)) (1 : Int32)))]) (lenOf pd29 rfl) rfl (W := 1) (by show 2 * 0 + _ ≤ _; exact Nat.le_of_eq rfl) (hb hby at_140) (by decide) (by decide) (by decide) (by decide)
    obtain ⟨rfl, Nq130, hh130⟩ := hQ130
    have N130 := Fr.app N129 (show Fr nb _ from fun y hy => Nat.le_trans hnb (Nq130 y hy))
    obtain ⟨hx, hZ, hown, hby, hml, hnm, hret, hlk⟩ := id Cc130
    rw [hh130] at e130 B130 J130
    refine Go.of st130 ?_
    show Go p e s below _ _ _ _ T130 (mkF m 143 (LB0 p1 p2 p3 lg ln s1) [(.int (chB p1 (1 : Int32))), (.int (chV (((mkB p1 lg).map lo8) ++ litI "." ++ ((mkB p2 ln).map lo8)) (1 : Int32)))])
    refine Go.of (fun _ hr => XS.icmpNo X130.here hx rfl (hb hby at_143) rfl (teq (whole_l h4_lg (by simp) (r4_lt1 h4_lg hb129_128))).2 hr) ?_
    show Go p e s below _ _ _ _ T130 (mkF m 146 (LB0 p1 p2 p3 lg ln s1) [])
    refine Go.of (fun _ hr => XS.iconst X130.here hx rfl (hb hby at_146) hr) ?_
    show Go p e s below _ _ _ _ T130 (mkF m 147 (LB0 p1 p2 p3 lg ln s1) [(.int (1 : Int32))])
    refine Go.of (fun _ hr => XS.goto X130.here hx rfl (pc0 := 147) (pc' := 151) rfl (hb hby at_147) (by decide) (by decide) hr) ?_
    show Go p e s below _ _ _ _ T130 (mkF m 151 (LB0 p1 p2 p3 lg ln s1) [(.int (1 : Int32))])
    exact jn105 (1 : Int32) _ _ _ Cc130 X130 e130 B130 J130 N130 rfl


theorem pd32 : parseMethodDescriptor "(II)Z" = some ⟨[.int, .int], some .boolean⟩ := by decide +kernel
theorem pd33 : parseMethodDescriptor "(II)Ljava/lang/String;" = some ⟨[.int, .int], some (.object "java/lang/String")⟩ := by decide +kernel
theorem pd34 : parseMethodDescriptor "(Ljava/lang/String;Ljava/lang/String;)V" = some ⟨[(.object "java/lang/String"), (.object "java/lang/String")], none⟩ := by decide +kernel
set_option maxRecDepth 65536 in
set_option maxHeartbeats 40000000 in
theorem rm0 (l : Launch) (Z : State) (a0 : Array Value) (hw : ∀ d ∈ tables_1, d.before a0 Z = true) (ws : List Jvm.Cond) (p1 p2 p3 : Int32) (zc : Int32) (ms : List Addr) (h0 : Heap) (n0 : Nat) (O0 : Old Z n0 h0) (nb : Nat) (hb0 : n0 ≤ nb) (hnb : nb ≤ h0.size) (fs : Value) (hfs : fs = .null ∨ ∃ a, fs = .ref a) (S_F : Sta Z Z.heap "jdk/internal/util/Preconditions" "SIOOBE_FORMATTER" "Ljava/util/function/BiFunction;" fs) (wi wa : Addr) (ka : ClassId) (S_I : Sta Z Z.heap "java/lang/CharacterDataLatin1" "instance" "Ljava/lang/CharacterDataLatin1;" (.ref wi)) (E_I : Exa Z Z.heap wi "java/lang/CharacterDataLatin1") (S_A : Sta Z Z.heap "java/lang/CharacterDataLatin1" "A" "[I" (.ref wa)) (V_A : Arv Z Z.heap wa ka .int 256 (tabA.map Value.int) (.int 0)) (S_C : Sta Z Z.heap "java/lang/String" "COMPACT_STRINGS" "Z" (.int zc)) (hzc : ¬ zc = 0) :
    Con l Z ms x code maxLocals ret ws room_1 #[(.int p1), (.int p2), (.int p3)] h0 (fun v vm h L => v = some (.int 1) ∧ Fr nb L) := by
  refine Con.mk (plainFor_of_name pn12) ?_
  intro p e s m below meth c s₁ Cc X0 e0 eb J0 B0 M0
  replace Cc : Cx Z p s m meth c "com/example/grid_job_scheduler/gridjobscheduler/JobKeyToStringPinLaw" code 7 "law" ret := Cc
  obtain ⟨hx, hZ, hown, hby, hml, hnm, hret, hlk⟩ := id Cc
  have N0 := Fr.nil h0.size
  have K0 := Keep.refl h0 []
  show Go p e s below _ _ _ _ s₁ (mkF m 0 #[.val (.int p1), .val (.int p2), .val (.int p3), .unset, .unset, .unset, .unset] [])
  refine Go.of (fun _ hr => XS.iloadN X0.here hx rfl (hb hby at_0) rfl  hr) ?_
  show Go p e s below _ _ _ _ s₁ (mkF m 1 #[.val (.int p1), .val (.int p2), .val (.int p3), .unset, .unset, .unset, .unset] [(.int p3)])
  refine Go.of (fun _ hr => XS.iconst X0.here hx rfl (hb hby at_1) hr) ?_
  show Go p e s below _ _ _ _ s₁ (mkF m 2 #[.val (.int p1), .val (.int p2), .val (.int p3), .unset, .unset, .unset, .unset] [(.int (3 : Int32)), (.int p3)])
  refine Go.of (fun _ hr => XS.iand X0.here hx rfl (hb hby at_2) rfl hr) ?_
  show Go p e s below _ _ _ _ s₁ (mkF m 3 #[.val (.int p1), .val (.int p2), .val (.int p3), .unset, .unset, .unset, .unset] [(.int (p3 &&& (3 : Int32)))])
  refine Go.of (fun _ hr => XS.iconst X0.here hx rfl (hb hby at_3) hr) ?_
  show Go p e s below _ _ _ _ s₁ (mkF m 4 #[.val (.int p1), .val (.int p2), .val (.int p3), .unset, .unset, .unset, .unset] [(.int (1 : Int32)), (.int (p3 &&& (3 : Int32)))])
  refine Go.of (fun _ hr => XS.iadd X0.here hx rfl (hb hby at_4) rfl hr) ?_
  show Go p e s below _ _ _ _ s₁ (mkF m 5 #[.val (.int p1), .val (.int p2), .val (.int p3), .unset, .unset, .unset, .unset] [(.int ((p3 &&& (3 : Int32)) + (1 : Int32)))])
  have h4_lg := and3b p3
  generalize ((p3 &&& (3 : Int32)) + (1 : Int32)) = lg at h4_lg ⊢
  show Go p e s below _ _ _ _ s₁ (mkF m 5 #[.val (.int p1), .val (.int p2), .val (.int p3), .unset, .unset, .unset, .unset] [(.int lg)])
  refine Go.of (fun _ hr => XS.istoreN X0.here hx rfl (hb hby at_5) rfl (l' := #[.val (.int p1), .val (.int p2), .val (.int p3), .val (.int lg), .unset, .unset, .unset]) rfl hr) ?_
  show Go p e s below _ _ _ _ s₁ (mkF m 6 #[.val (.int p1), .val (.int p2), .val (.int p3), .val (.int lg), .unset, .unset, .unset] [])
  refine Go.of (fun _ hr => XS.iloadN X0.here hx rfl (hb hby at_6) rfl  hr) ?_
  show Go p e s below _ _ _ _ s₁ (mkF m 7 #[.val (.int p1), .val (.int p2), .val (.int p3), .val (.int lg), .unset, .unset, .unset] [(.int p3)])
  refine Go.of (fun _ hr => XS.iconst X0.here hx rfl (hb hby at_7) hr) ?_
  show Go p e s below _ _ _ _ s₁ (mkF m 8 #[.val (.int p1), .val (.int p2), .val (.int p3), .val (.int lg), .unset, .unset, .unset] [(.int (2 : Int32)), (.int p3)])
  refine Go.of (fun _ hr => XS.iushr X0.here hx rfl (hb hby at_8) rfl hr) ?_
  show Go p e s below _ _ _ _ s₁ (mkF m 9 #[.val (.int p1), .val (.int p2), .val (.int p3), .val (.int lg), .unset, .unset, .unset] [(.int ((p3.toUInt32 >>> ((2 : Int32) &&& 31).toUInt32).toInt32))])
  refine Go.of (fun _ hr => XS.iconst X0.here hx rfl (hb hby at_9) hr) ?_
  show Go p e s below _ _ _ _ s₁ (mkF m 10 #[.val (.int p1), .val (.int p2), .val (.int p3), .val (.int lg), .unset, .unset, .unset] [(.int (3 : Int32)), (.int ((p3.toUInt32 >>> ((2 : Int32) &&& 31).toUInt32).toInt32))])
  refine Go.of (fun _ hr => XS.iand X0.here hx rfl (hb hby at_10) rfl hr) ?_
  show Go p e s below _ _ _ _ s₁ (mkF m 11 #[.val (.int p1), .val (.int p2), .val (.int p3), .val (.int lg), .unset, .unset, .unset] [(.int (((p3.toUInt32 >>> ((2 : Int32) &&& 31).toUInt32).toInt32) &&& (3 : Int32)))])
  refine Go.of (fun _ hr => XS.iconst X0.here hx rfl (hb hby at_11) hr) ?_
  show Go p e s below _ _ _ _ s₁ (mkF m 12 #[.val (.int p1), .val (.int p2), .val (.int p3), .val (.int lg), .unset, .unset, .unset] [(.int (1 : Int32)), (.int (((p3.toUInt32 >>> ((2 : Int32) &&& 31).toUInt32).toInt32) &&& (3 : Int32)))])
  refine Go.of (fun _ hr => XS.iadd X0.here hx rfl (hb hby at_12) rfl hr) ?_
  show Go p e s below _ _ _ _ s₁ (mkF m 13 #[.val (.int p1), .val (.int p2), .val (.int p3), .val (.int lg), .unset, .unset, .unset] [(.int ((((p3.toUInt32 >>> ((2 : Int32) &&& 31).toUInt32).toInt32) &&& (3 : Int32)) + (1 : Int32)))])
  have h4_ln := and3b ((p3.toUInt32 >>> ((2 : Int32) &&& 31).toUInt32).toInt32)
  generalize ((((p3.toUInt32 >>> ((2 : Int32) &&& 31).toUInt32).toInt32) &&& (3 : Int32)) + (1 : Int32)) = ln at h4_ln ⊢
  show Go p e s below _ _ _ _ s₁ (mkF m 13 #[.val (.int p1), .val (.int p2), .val (.int p3), .val (.int lg), .unset, .unset, .unset] [(.int ln)])
  refine Go.of (fun _ hr => XS.istore X0.here hx rfl (hb hby at_13) rfl (l' := #[.val (.int p1), .val (.int p2), .val (.int p3), .val (.int lg), .val (.int ln), .unset, .unset]) rfl hr) ?_
  show Go p e s below _ _ _ _ s₁ (mkF m 15 #[.val (.int p1), .val (.int p2), .val (.int p3), .val (.int lg), .val (.int ln), .unset, .unset] [])
  refine Go.of (fun _ hr => XS.iloadN X0.here hx rfl (hb hby at_15) rfl  hr) ?_
  show Go p e s below _ _ _ _ s₁ (mkF m 16 #[.val (.int p1), .val (.int p2), .val (.int p3), .val (.int lg), .val (.int ln), .unset, .unset] [(.int p1)])
  refine Go.of (fun _ hr => XS.iloadN X0.here hx rfl (hb hby at_16) rfl  hr) ?_
  show Go p e s below _ _ _ _ s₁ (mkF m 17 #[.val (.int p1), .val (.int p2), .val (.int p3), .val (.int lg), .val (.int ln), .unset, .unset] [(.int lg), (.int p1)])
  obtain ⟨_, b101, T101, h101, L101, e101, Cc101, X101, B101, J101, g101, hQ101, st101⟩ := own_callS Cc B0 J0 X0 (hw _ (List.mem_of_getElem? (i := 0) rfl)) (hw _ (List.mem_of_getElem? (i := 1) rfl)) (hw _ (List.mem_of_getElem? (i := 2) rfl)) (hw _ (List.mem_of_getElem? (i := 3) rfl)) (by decide) (rm1 l Z a0 hw [] p1 lg _ h0 n0 O0 h0.size (own_ole O0) K0.1) e0 (g := (mkF m 17 #[.val (.int p1), .val (.int p2), .val (.int p3), .val (.int lg), .val (.int ln), .unset, .unset] [(.int lg), (.int p1)])) rfl (by rw [hml]; rfl) (argsL := [(.int p1), (.int lg)]) (rest := []) (lenOf pd32 rfl) rfl (W := 0) (by show 2 * 0 + _ ≤ _; exact Nat.le_of_eq rfl) (hb hby at_17) (by decide) (by decide) (by decide) (by decide)
  obtain ⟨z101, rfl, hz101, Nq101, hh101⟩ := hQ101
  have N101 := Fr.app N0 Nq101
  obtain ⟨hx, hZ, hown, hby, hml, hnm, hret, hlk⟩ := id Cc101
  rw [hh101] at e101 B101 J101
  refine Go.of st101 ?_
  show Go p e s below _ _ _ _ T101 (mkF m 20 #[.val (.int p1), .val (.int p2), .val (.int p3), .val (.int lg), .val (.int ln), .unset, .unset] [(.int z101)])
  by_cases hb20_102 : z101 = (0 : Int32)
  · refine Go.of (fun _ hr => XS.ifNo X101.here hx rfl (hb hby at_20) rfl ((if0 _ _).trans (teq hb20_102).2) hr) ?_
    show Go p e s below _ _ _ _ T101 (mkF m 23 #[.val (.int p1), .val (.int p2), .val (.int p3), .val (.int lg), .val (.int ln), .unset, .unset] [])
    refine Go.of (fun _ hr => XS.iloadN X101.here hx rfl (hb hby at_23) rfl  hr) ?_
    show Go p e s below _ _ _ _ T101 (mkF m 24 #[.val (.int p1), .val (.int p2), .val (.int p3), .val (.int lg), .val (.int ln), .unset, .unset] [(.int p2)])
    refine Go.of (fun _ hr => XS.iload X101.here hx rfl (hb hby at_24) rfl  hr) ?_
    show Go p e s below _ _ _ _ T101 (mkF m 26 #[.val (.int p1), .val (.int p2), .val (.int p3), .val (.int lg), .val (.int ln), .unset, .unset] [(.int ln), (.int p2)])
    obtain ⟨_, b103, T103, h103, L103, e103, Cc103, X103, B103, J103, g103, hQ103, st103⟩ := own_callS Cc101 B101 J101 X101 (hw _ (List.mem_of_getElem? (i := 0) rfl)) (hw _ (List.mem_of_getElem? (i := 1) rfl)) (hw _ (List.mem_of_getElem? (i := 2) rfl)) (hw _ (List.mem_of_getElem? (i := 3) rfl)) (by decide) (rm1 l Z a0 hw [] p2 ln _ h0 n0 O0 h0.size (own_ole O0) K0.1) e101 (g := (mkF m 26 #[.val (.int p1), .val (.int p2), .val (.int p3), .val (.int lg), .val (.int ln), .unset, .unset] [(.int ln), (.int p2)])) rfl (by rw [hml]; rfl) (argsL := [(.int p2), (.int ln)]) (rest := []) (lenOf pd32 rfl) rfl (W := 0) (by show 2 * 0 + _ ≤ _; exact Nat.le_of_eq rfl) (hb hby at_26) (by decide) (by decide) (by decide) (by decide)
    obtain ⟨z103, rfl, hz103, Nq103, hh103⟩ := hQ103
    have N103 := Fr.app N101 Nq103
    obtain ⟨hx, hZ, hown, hby, hml, hnm, hret, hlk⟩ := id Cc103
    rw [hh103] at e103 B103 J103
    refine Go.of st103 ?_
    show Go p e s below _ _ _ _ T103 (mkF m 29 #[.val (.int p1), .val (.int p2), .val (.int p3), .val (.int lg), .val (.int ln), .unset, .unset] [(.int z103)])
    by_cases hb29_104 : z103 = (0 : Int32)
    · refine Go.of (fun _ hr => XS.ifYes X103.here hx rfl (pc0 := 29) (pc' := 34) rfl (hb hby at_29) rfl ((if0 _ _).trans (teq hb29_104).1) (by decide) (by decide) hr) ?_
      show Go p e s below _ _ _ _ T103 (mkF m 34 #[.val (.int p1), .val (.int p2), .val (.int p3), .val (.int lg), .val (.int ln), .unset, .unset] [])
      have nb1 := mkB_nb h4_lg (hz101.elim (fun q => absurd (q.symm.trans hb20_102) (by decide)) (fun q => q.2))
      have nb2 := mkB_nb h4_ln (hz103.elim (fun q => absurd (q.symm.trans hb29_104) (by decide)) (fun q => q.2))
      obtain ⟨T105, h105, X105, e105, E105, A105, D105, -, st105⟩ := newO X103 hx hZ hown (hw _ (List.mem_of_getElem? (i := 10) rfl)) (hw _ (List.mem_of_getElem? (i := 11) rfl)) (hw _ (List.mem_of_getElem? (i := 12) rfl)) e103 (g := (mkF m 34 #[.val (.int p1), .val (.int p2), .val (.int p3), .val (.int lg), .val (.int ln), .unset, .unset] [])) rfl (hb hby at_34) (by decide) (by decide)
      obtain ⟨o105, g105⟩ : ∃ z, z = h0.size := ⟨_, rfl⟩
      rw [← g105] at A105 D105 st105
      have lt105 : o105 < h105.size := A105.lt
      have J105 := J103.add E105 g105 lt105
      have B105 := B103.mono E105.1
      have O105 := O0.ext E105
      have sz105 : h0.size ≤ o105 := Nat.le_trans K0.1 (Nat.le_of_eq g105.symm)
      have fr105 : h0.size ≤ o105 := sz105
      have K105 := K0.ext E105
      have F105_group : Fld Z h105 o105 "com/example/grid_job_scheduler/gridjobscheduler/JobKey" "group" "Ljava/lang/String;" .null := D105 (Or.inr (hw _ (List.mem_of_getElem? (i := 121) rfl))) (ty := (.object "java/lang/String")) (by decide)
      have F105_name : Fld Z h105 o105 "com/example/grid_job_scheduler/gridjobscheduler/JobKey" "name" "Ljava/lang/String;" .null := D105 (Or.inr (hw _ (List.mem_of_getElem? (i := 123) rfl))) (ty := (.object "java/lang/String")) (by decide)
      refine Go.of (fun _ hr => st105 _ hr) ?_
      show Go p e s below _ _ _ _ T105 (mkF m 37 #[.val (.int p1), .val (.int p2), .val (.int p3), .val (.int lg), .val (.int ln), .unset, .unset] [(.ref o105)])
      refine Go.of (fun _ hr => XS.dup X105.here hx rfl (hb hby at_37) rfl rfl hr) ?_
      show Go p e s below _ _ _ _ T105 (mkF m 38 #[.val (.int p1), .val (.int p2), .val (.int p3), .val (.int lg), .val (.int ln), .unset, .unset] [(.ref o105), (.ref o105)])
      refine Go.of (fun _ hr => XS.iloadN X105.here hx rfl (hb hby at_38) rfl  hr) ?_
      show Go p e s below _ _ _ _ T105 (mkF m 39 #[.val (.int p1), .val (.int p2), .val (.int p3), .val (.int lg), .val (.int ln), .unset, .unset] [(.int p1), (.ref o105), (.ref o105)])
      refine Go.of (fun _ hr => XS.iloadN X105.here hx rfl (hb hby at_39) rfl  hr) ?_
      show Go p e s below _ _ _ _ T105 (mkF m 40 #[.val (.int p1), .val (.int p2), .val (.int p3), .val (.int lg), .val (.int ln), .unset, .unset] [(.int lg), (.int p1), (.ref o105), (.ref o105)])
      obtain ⟨_, b106, T106, h106, L106, e106, Cc106, X106, B106, J106, g106, hQ106, st106⟩ := own_callS Cc103 B105 J105 X105 (hw _ (List.mem_of_getElem? (i := 13) rfl)) (hw _ (List.mem_of_getElem? (i := 14) rfl)) (hw _ (List.mem_of_getElem? (i := 2) rfl)) (hw _ (List.mem_of_getElem? (i := 15) rfl)) (by decide) (rm4 l Z a0 hw [] p1 lg zc _ h105 n0 O105 h0.size (own_ole O0) K105.1 S_C hzc) e105 (g := (mkF m 40 #[.val (.int p1), .val (.int p2), .val (.int p3), .val (.int lg), .val (.int ln), .unset, .unset] [(.int lg), (.int p1), (.ref o105), (.ref o105)])) rfl (by rw [hml]; rfl) (argsL := [(.int p1), (.int lg)]) (rest := [(.ref o105), (.ref o105)]) (lenOf pd33 rfl) rfl (W := 2) (by show 2 * 0 + _ ≤ _; exact Nat.le_of_eq rfl) (hb hby at_40) (by decide) (by decide) (by decide) (by decide)
      obtain ⟨r106, t106, kt106, rfl, Nq106, Eq106, R_r106, nt106, Er106, Fv106, Fc106, Vt106⟩ := hQ106
      have N106 := Fr.app N103 Nq106
      obtain ⟨hx, hZ, hown, hby, hml, hnm, hret, hlk⟩ := id Cc106
      have sz_r106 : h0.size ≤ r106 := Nat.le_trans K105.1 R_r106
      have fr_r106 : h0.size ≤ r106 := sz_r106
      have ne_o105_r106 : o105 ≠ r106 := Nat.ne_of_lt (Nat.lt_of_lt_of_le A105.lt R_r106)
      have K106 := K105.ext Eq106
      have O106 := O105.ext Eq106
      refine Go.of st106 ?_
      have nx_t106_o105 : t106 ≠ o105 := fun q => nt106 (by rw [q]; exact (List.mem_cons_self ..))
      show Go p e s below _ _ _ _ T106 (mkF m 43 #[.val (.int p1), .val (.int p2), .val (.int p3), .val (.int lg), .val (.int ln), .unset, .unset] [(.ref r106), (.ref o105), (.ref o105)])
      refine Go.of (fun _ hr => XS.iloadN X106.here hx rfl (hb hby at_43) rfl  hr) ?_
      show Go p e s below _ _ _ _ T106 (mkF m 44 #[.val (.int p1), .val (.int p2), .val (.int p3), .val (.int lg), .val (.int ln), .unset, .unset] [(.int p2), (.ref r106), (.ref o105), (.ref o105)])
      refine Go.of (fun _ hr => XS.iload X106.here hx rfl (hb hby at_44) rfl  hr) ?_
      show Go p e s below _ _ _ _ T106 (mkF m 46 #[.val (.int p1), .val (.int p2), .val (.int p3), .val (.int lg), .val (.int ln), .unset, .unset] [(.int ln), (.int p2), (.ref r106), (.ref o105), (.ref o105)])
      obtain ⟨_, b107, T107, h107, L107, e107, Cc107, X107, B107, J107, g107, hQ107, st107⟩ := own_callS Cc106 B106 J106 X106 (hw _ (List.mem_of_getElem? (i := 13) rfl)) (hw _ (List.mem_of_getElem? (i := 14) rfl)) (hw _ (List.mem_of_getElem? (i := 2) rfl)) (hw _ (List.mem_of_getElem? (i := 15) rfl)) (by decide) (rm4 l Z a0 hw [] p2 ln zc _ h106 n0 O106 h0.size (own_ole O0) K106.1 S_C hzc) e106 (g := (mkF m 46 #[.val (.int p1), .val (.int p2), .val (.int p3), .val (.int lg), .val (.int ln), .unset, .unset] [(.int ln), (.int p2), (.ref r106), (.ref o105), (.ref o105)])) rfl (by rw [hml]; rfl) (argsL := [(.int p2), (.int ln)]) (rest := [(.ref r106), (.ref o105), (.ref o105)]) (lenOf pd33 rfl) rfl (W := 3) (by show 2 * 0 + _ ≤ _; exact Nat.le_of_eq rfl) (hb hby at_46) (by decide) (by decide) (by decide) (by decide)
      have f108 := (A105.ext Eq106)
      obtain ⟨r107, t107, kt107, rfl, Nq107, Eq107, R_r107, nt107, Er107, Fv107, Fc107, Vt107⟩ := hQ107
      have N107 := Fr.app N106 Nq107
      obtain ⟨hx, hZ, hown, hby, hml, hnm, hret, hlk⟩ := id Cc107
      have sz_r107 : h0.size ≤ r107 := Nat.le_trans K106.1 R_r107
      have fr_r107 : h0.size ≤ r107 := sz_r107
      have ne_o105_r107 : o105 ≠ r107 := Nat.ne_of_lt (Nat.lt_of_lt_of_le f108.lt R_r107)
      have ne_r106_r107 : r106 ≠ r107 := Nat.ne_of_lt (Nat.lt_of_lt_of_le Er106.lt R_r107)
      have ne_t106_r107 : t106 ≠ r107 := Nat.ne_of_lt (Nat.lt_of_lt_of_le Vt106.lt R_r107)
      have K107 := K106.ext Eq107
      have O107 := O106.ext Eq107
      refine Go.of st107 ?_
      have nx_t107_o105 : t107 ≠ o105 := fun q => nt107 (by rw [q]; exact (List.mem_cons_self ..))
      show Go p e s below _ _ _ _ T107 (mkF m 49 #[.val (.int p1), .val (.int p2), .val (.int p3), .val (.int lg), .val (.int ln), .unset, .unset] [(.ref r107), (.ref r106), (.ref o105), (.ref o105)])
      have f110 := (Er106.ext Eq107)
      have f111 := (Fv106.ext Eq107)
      have f112 := (Fc106.ext Eq107)
      have f113 := (Vt106.ext Eq107)
      have f114 := (f108.ext Eq107)
      have f115 := ((F105_group.ext Eq106).ext Eq107)
      have f116 := ((F105_name.ext Eq106).ext Eq107)
      obtain ⟨_, b109, T109, h109, L109, e109, Cc109, X109, B109, J109, g109, hQ109, st109⟩ := own_callI Cc107 B107 J107 X107 rfl (hw _ (List.mem_of_getElem? (i := 46) rfl)) (hw _ (List.mem_of_getElem? (i := 47) rfl)) (hw _ (List.mem_of_getElem? (i := 12) rfl)) (hw _ (List.mem_of_getElem? (i := 48) rfl)) (by decide) (rm11 l Z a0 hw [] o105 _ _ r106 t106 _ ((mkB p1 lg).map lo8) r107 t107 _ ((mkB p2 ln).map lo8) zc _ h107 n0 O107 h0.size (own_ole O0) K107.1 fr105 (List.mem_cons_self ..) wi wa ka S_I E_I S_A V_A f114 f115 f116 f110 f111 f112 f113 (Nat.le_trans (mkB_le h4_lg) (by decide)) Er107 Fv107 Fc107 Vt107 (Nat.le_trans (mkB_le h4_ln) (by decide)) nb1 nb2 S_C hzc) e107 (g := (mkF m 49 #[.val (.int p1), .val (.int p2), .val (.int p3), .val (.int lg), .val (.int ln), .unset, .unset] [(.ref r107), (.ref r106), (.ref o105), (.ref o105)])) rfl (by rw [hml]; rfl) (argsL := [(.ref r106), (.ref r107)]) (rest := [(.ref o105)]) (lenOf pd34 rfl) rfl (W := 1) (by show 2 * 0 + _ ≤ _; exact Nat.le_of_eq rfl) (hb hby at_49) (by decide) (by decide) (by decide) (by decide)
      obtain ⟨rfl, Nq109, Kq109, Fg109, Fn109⟩ := hQ109
      have N109 := Fr.app N107 Nq109
      obtain ⟨hx, hZ, hown, hby, hml, hnm, hret, hlk⟩ := id Cc109
      have K109 := K107.trans Kq109 (allS (Or.inr sz105) all0)
      have O109 := O107.keep Kq109 (allS (Nat.le_trans (own_ole O0) fr105) all0)
      refine Go.of st109 ?_
      show Go p e s below _ _ _ _ T109 (mkF m 52 #[.val (.int p1), .val (.int p2), .val (.int p3), .val (.int lg), .val (.int ln), .unset, .unset] [(.ref o105)])
      have f118 := (f110.keep Kq109)
      have f119 := (f111.keep Kq109 (ninS (Ne.symm ne_o105_r106) nin0))
      have f120 := (f112.keep Kq109 (ninS (Ne.symm ne_o105_r106) nin0))
      have f121 := (f113.keep Kq109 (ninS nx_t106_o105 nin0))
      have f122 := (Er107.keep Kq109)
      have f123 := (Fv107.keep Kq109 (ninS (Ne.symm ne_o105_r107) nin0))
      have f124 := (Fc107.keep Kq109 (ninS (Ne.symm ne_o105_r107) nin0))
      have f125 := (Vt107.keep Kq109 (ninS nx_t107_o105 nin0))
      have f126 := (f114.keep Kq109)
      obtain ⟨_, b117, T117, h117, L117, e117, Cc117, X117, B117, J117, g117, hQ117, st117⟩ := own_callV Cc109 B109 J109 X109 (hw _ (List.mem_of_getElem? (i := 124) rfl)) (hw _ (List.mem_of_getElem? (i := 125) rfl)) (notFace_of_selects (args := #[]) (mvT hZ (hw _ (List.mem_of_getElem? (i := 127) rfl)))) (hw _ (List.mem_of_getElem? (i := 127) rfl)) (hw _ (List.mem_of_getElem? (i := 126) rfl)) (hw _ (List.mem_of_getElem? (i := 12) rfl)) (hw _ (List.mem_of_getElem? (i := 128) rfl)) (by decide) f126 (rm25 l Z a0 hw [] o105 r106 t106 _ ((mkB p1 lg).map lo8) r107 t107 _ ((mkB p2 ln).map lo8) zc _ h109 n0 O109 h0.size (own_ole O0) K109.1 Fg109 Fn109 f118 f119 f120 f121 (Nat.le_trans (mkB_le h4_lg) (by decide)) f122 f123 f124 f125 (Nat.le_trans (mkB_le h4_ln) (by decide)) (Nat.add_le_add (mkB_le h4_lg) (mkB_le h4_ln)) S_C hzc) e109 (g := (mkF m 52 #[.val (.int p1), .val (.int p2), .val (.int p3), .val (.int lg), .val (.int ln), .unset, .unset] [(.ref o105)])) rfl (by rw [hml]; rfl) (argsL := []) (rest := []) (lenOf pd27 rfl) rfl (W := 0) (by show 2 * 0 + _ ≤ _; exact Nat.le_of_eq rfl) (hb hby at_52) (by decide) (by decide) (by decide) (by decide)
      obtain ⟨r117, t117, kt117, rfl, Nq117, Eq117, R_r117, R_t117, Er117, Fv117, Fc117, Vt117⟩ := hQ117
      have N117 := Fr.app N109 Nq117
      obtain ⟨hx, hZ, hown, hby, hml, hnm, hret, hlk⟩ := id Cc117
      have sz_r117 : h0.size ≤ r117 := Nat.le_trans K109.1 R_r117
      have fr_r117 : h0.size ≤ r117 := sz_r117
      have ne_o105_r117 : o105 ≠ r117 := Nat.ne_of_lt (Nat.lt_of_lt_of_le f126.lt R_r117)
      have ne_r106_r117 : r106 ≠ r117 := Nat.ne_of_lt (Nat.lt_of_lt_of_le f118.lt R_r117)
      have ne_t106_r117 : t106 ≠ r117 := Nat.ne_of_lt (Nat.lt_of_lt_of_le f121.lt R_r117)
      have ne_r107_r117 : r107 ≠ r117 := Nat.ne_of_lt (Nat.lt_of_lt_of_le f122.lt R_r117)
      have ne_t107_r117 : t107 ≠ r117 := Nat.ne_of_lt (Nat.lt_of_lt_of_le f125.lt R_r117)
      have sz_t117 : h0.size ≤ t117 := Nat.le_trans K109.1 R_t117
      have fr_t117 : h0.size ≤ t117 := sz_t117
      have ne_o105_t117 : o105 ≠ t117 := Nat.ne_of_lt (Nat.lt_of_lt_of_le f126.lt R_t117)
      have ne_r106_t117 : r106 ≠ t117 := Nat.ne_of_lt (Nat.lt_of_lt_of_le f118.lt R_t117)
      have ne_t106_t117 : t106 ≠ t117 := Nat.ne_of_lt (Nat.lt_of_lt_of_le f121.lt R_t117)
      have ne_r107_t117 : r107 ≠ t117 := Nat.ne_of_lt (Nat.lt_of_lt_of_le f122.lt R_t117)
      have ne_t107_t117 : t107 ≠ t117 := Nat.ne_of_lt (Nat.lt_of_lt_of_le f125.lt R_t117)
      have K117 := K109.ext Eq117
      have O117 := O109.ext Eq117
      refine Go.of st117 ?_
      show Go p e s below _ _ _ _ T117 (mkF m 55 #[.val (.int p1), .val (.int p2), .val (.int p3), .val (.int lg), .val (.int ln), .unset, .unset] [(.ref r117)])
      refine Go.of (fun _ hr => XS.astore X117.here hx rfl (hb hby at_55) rfl rfl (l' := #[.val (.int p1), .val (.int p2), .val (.int p3), .val (.int lg), .val (.int ln), .val (.ref r117), .unset]) rfl hr) ?_
      show Go p e s below _ _ _ _ T117 (mkF m 57 #[.val (.int p1), .val (.int p2), .val (.int p3), .val (.int lg), .val (.int ln), .val (.ref r117), .unset] [])
      exact law_tail l Z a0 hw p1 p2 p3 lg ln r117 t117 _ zc h117 n0 O117 nb hb0 (Nat.le_trans hnb K117.1) fs hfs S_F h4_lg h4_ln Er117 Fv117 Fc117 Vt117 S_C hzc Cc117 X117 e117 (fun y hy => Nat.le_trans hnb (N117 y hy)) (J117.sub (fun x hx => (List.mem_cons_of_mem _ hx))) B117
    · refine Go.of (fun _ hr => XS.ifNo X103.here hx rfl (hb hby at_29) rfl ((if0 _ _).trans (feq hb29_104).1) hr) ?_
      show Go p e s below _ _ _ _ T103 (mkF m 32 #[.val (.int p1), .val (.int p2), .val (.int p3), .val (.int lg), .val (.int ln), .unset, .unset] [])
      refine Go.of (fun _ hr => XS.iconst X103.here hx rfl (hb hby at_32) hr) ?_
      show Go p e s below _ _ _ _ T103 (mkF m 33 #[.val (.int p1), .val (.int p2), .val (.int p3), .val (.int lg), .val (.int ln), .unset, .unset] [(.int (1 : Int32))])
      exact Go.retN X103 hx hlk B103 J103 e103 (t := .boolean) (z' := (1 : Int32)) hret (by simp) (hb hby at_33) rfl (by decide) (by decide) (fun vm_ hw_ => ⟨rfl, (fun y hy => Nat.le_trans hnb (N103 y hy))⟩)
  · refine Go.of (fun _ hr => XS.ifYes X101.here hx rfl (pc0 := 20) (pc' := 32) rfl (hb hby at_20) rfl ((if0 _ _).trans (feq hb20_102).2) (by decide) (by decide) hr) ?_
    show Go p e s below _ _ _ _ T101 (mkF m 32 #[.val (.int p1), .val (.int p2), .val (.int p3), .val (.int lg), .val (.int ln), .unset, .unset] [])
    refine Go.of (fun _ hr => XS.iconst X101.here hx rfl (hb hby at_32) hr) ?_
    show Go p e s below _ _ _ _ T101 (mkF m 33 #[.val (.int p1), .val (.int p2), .val (.int p3), .val (.int lg), .val (.int ln), .unset, .unset] [(.int (1 : Int32))])
    exact Go.retN X101 hx hlk B101 J101 e101 (t := .boolean) (z' := (1 : Int32)) hret (by simp) (hb hby at_33) rfl (by decide) (by decide) (fun vm_ hw_ => ⟨rfl, (fun y hy => Nat.le_trans hnb (N101 y hy))⟩)

set_option maxRecDepth 65536 in
set_option maxHeartbeats 40000000 in
theorem comes_1 {Post : Tables → Env → Array Value → State → Outcome → State → Prop} (hpost : ∀ tb e args s v u, (limb_1_1.after args s (.returned v) u = true ∧ limb_1_2.after args s (.returned v) u = true ∧ True) → ReturnedEndW s (.returned v) u (Jvm.fieldLocs frame_1_writes args s ++ Jvm.arrayLocs frame_1_arrays args s ++ Jvm.staticLocs frame_1_statics s) 48 4352 → Post tb e args s (.returned v) u) :
    ArmFor flags0 classFile x code maxLocals ret World_1 tables_1 room_1 Calls_1 rest_1 Pre_1 Post := by
  intro l hfl _ _ p e ha hc hk s m args below hf hA hF happ hP
  obtain ⟨hcalls, hrest, hpre⟩ := hP
  obtain ⟨-, -, -, hnamed, -, -, -, hat⟩ := (Spec.applies_iff hf).mp happ
  obtain ⟨hg, hn⟩ := and_e (Cond.before_iff.mp (show (Jvm.Cond.and given_1 narrow_1).before args s = true from hpre))
  have hw := fun d (hd : d ∈ tables_1) => atoms_spec (ws := Jvm.Cond.code x code maxLocals ret :: tables_1) hat d (List.mem_cons_of_mem _ hd)
  obtain ⟨hsets, hown0⟩ := atoms_of _ (rest_1_c_eq ▸ (show rest_1_c.before _ s = true from hrest))
  have hfit : Fit s := fun {y c} hc i hi => by
    obtain ⟨ha, rfl⟩ := Array.getElem?_eq_some_iff.mp hc
    have q := List.all_eq_true.mp ((Array.all_eq_true_iff_forall_mem.mp hF) _ (Array.getElem_mem ha)) i (List.mem_range.mpr hi)
    simpa [Array.getElem?_eq_getElem hi] using q
  obtain ⟨hg0, hg⟩ := and_e hg
  obtain ⟨hg1, hg⟩ := and_e hg
  obtain ⟨hg2, hg⟩ := and_e hg
  obtain ⟨w0, w1, w2, rfl⟩ : ∃ w0 w1 w2 : Value, args = #[w0, w1, w2] := by
    have hs : args.size = 3 := by simpa [Cond.value] using hg0
    obtain ⟨L⟩ := args
    match L, hs with
    | [w0, w1, w2], _ => exact ⟨w0, w1, w2, rfl⟩
  obtain ⟨i0, ev0⟩ := is_v hg1
  obtain rfl : w0 = (.int i0) := Option.some.inj ev0
  obtain ⟨i1, ev1⟩ := is_v hg2
  obtain rfl : w1 = (.int i1) := Option.some.inj ev1
  obtain ⟨i2, ev2⟩ := is_v hg
  obtain rfl : w2 = (.int i2) := Option.some.inj ev2
  obtain ⟨zc, evC⟩ := is_v (Cond.before_iff.mp (hsets _ (List.mem_of_getElem? (i := 1) rfl)))
  have S_C : Sta s s.heap "java/lang/String" "COMPACT_STRINGS" "Z" (.int zc) := Sta.start evC (Or.inl (hsets _ (List.mem_of_getElem? (i := 0) rfl)))
  have hzc : ¬ (zc = (0 : Int32)) := gotF (Cond.eq_ints evC (Term.int_eval (0))) (not_v (Cond.before_iff.mp (hsets _ (List.mem_of_getElem? (i := 2) rfl))))
  have hcm : ∀ q ∈ litCs, (q.1, q.2.1) ∈ consts_1 := by decide +kernel
  have hJ : Hd s [] s.vm s.heap := Hd.start ⟨fun q hq => hcalls.1 _ (hcm q hq), fun a0 => own_compact (hsets _ (List.mem_of_getElem? (i := 2) rfl))⟩
  obtain ⟨fs, hfs, evF⟩ := own_isr (Cond.before_iff.mp (hsets _ (List.mem_of_getElem? (i := 8) rfl)))
  have S_F : Sta s s.heap "jdk/internal/util/Preconditions" "SIOOBE_FORMATTER" "Ljava/util/function/BiFunction;" fs := Sta.start evF (Or.inl (hsets _ (List.mem_of_getElem? (i := 7) rfl)))
  obtain ⟨wi, evI⟩ := exa_v (Cond.before_iff.mp (hsets _ (List.mem_of_getElem? (i := 11) rfl)))
  have S_I : Sta s s.heap "java/lang/CharacterDataLatin1" "instance" "Ljava/lang/CharacterDataLatin1;" (.ref wi) := Sta.start evI (Or.inl (hsets _ (List.mem_of_getElem? (i := 10) rfl)))
  have E_I := Exa.start evI (Cond.before_iff.mp (hsets _ (List.mem_of_getElem? (i := 11) rfl)))
  obtain ⟨wa, evA⟩ := exa_v (Cond.before_iff.mp (hsets _ (List.mem_of_getElem? (i := 15) rfl)))
  have S_A : Sta s s.heap "java/lang/CharacterDataLatin1" "A" "[I" (.ref wa) := Sta.start evA (Or.inl (hsets _ (List.mem_of_getElem? (i := 13) rfl)))
  obtain ⟨cc, Acc⟩ := Arr.start evA (Cond.before_iff.mp (hsets _ (List.mem_of_getElem? (i := 14) rfl)))
  have hlen := own_eqI (Cond.before_iff.mp (hsets _ (List.mem_of_getElem? (i := 16) rfl)))
  have haA : s.arrayAt? wa = some cc := Acc.fin (Vm.Alike.refl _)
  have q31 : cc.slots.size < 2 ^ 31 := Jvm.Free.SBG.length_lt evA haA hlen
  have e256 := Value.int.inj (Option.some.inj ((len_f evA haA q31).symm.trans hlen))
  have hsz : cc.slots.size = 256 := own_sz256 q31 e256
  have hTab : ∀ j, j < 256 → cc.slots[j]? = some (.int (tabA.getD j 0)) := fun j hj => own_el evA haA hsz hj (Cond.before_iff.mp (hsets _ (List.mem_of_mem_drop (i := 17) (by rw [own_tabL]; exact List.mem_map.mpr ⟨j, List.mem_range.mpr hj, rfl⟩))))
  have V_A : Arv s s.heap wa cc.cls .int 256 (tabA.map Value.int) (.int 0) := own_tabV Acc hsz hTab
  obtain ⟨n, o, h1, h2, h3, _, L, rfl, ⟨rfl, N⟩, -, hq⟩ := rm0 l s _ hw tables_1 i0 i1 i2 zc [] s.heap s.heap.size (Old.start s) s.heap.size (Nat.le_refl _) (Nat.le_refl _) fs hfs S_F wi wa cc.cls S_I E_I S_A V_A S_C hzc p e ha hc hk s m _ below hf ((Spec.applies_iff_loose hf).mp happ).1 ⟨rfl, State.Warmed39.refl s, rfl, hJ⟩ trivial
  refine ⟨n, _, h1, h2, h3, hpost _ _ _ _ _ _ ⟨Cond.after_iff.mpr rfl, Cond.after_iff.mpr (eq_i res_at (Term.int_eval (1)) rfl), trivial⟩ ⟨hq.1, hq.2.1, hq.2.2.1, (hq.2.2.2.sift fun y hy => Or.inr (N y hy)).mono (by decide) (by decide)⟩⟩
theorem main_1_1 : Claimed_1_1 := comes_1 fun _ _ _ _ _ _ h hF => ⟨h.1, hF⟩
theorem main_1_2 : Claimed_1_2 := comes_1 fun _ _ _ _ _ _ h hF => ⟨h.2.1, hF⟩

end Jvm.Pilot.@@N@@
namespace Jvm.Pilot.@@N@@
open Jvm Jvm.ClassFile Sem Op Lib Jvm.Free Jvm.Stand Jvm.Pilot.@@N@@.Jvm.D
/-! MADE BY PROGRAM (witnessworld.py) out of the Statement's table words and the real class files: 33 classes; the members and pool entries that the words name. The judged class is class 1, her method 5. -/
namespace start1
open Jvm.ClassFile
def u (s : String) : CpInfo := .utf8 (stringToUtf16 s)
/-- a pool by its gaps: so many unusable entries, then the entry; so many at the end -/
def gap : Nat → List CpInfo → List CpInfo
  | 0, r => r
  | n + 1, r => .unusable :: gap n r
def poolList (es : List (Nat × CpInfo)) (last : Nat) : List CpInfo := es.foldr (fun e r => gap e.1 (e.2 :: r)) (gap last [])
def pool (es : List (Nat × CpInfo)) (last : Nat) : Array CpInfo := ⟨poolList es last⟩
def fileOf (pool : Array CpInfo) (this : Nat) (attrs : Array Attribute := #[]) (ms : Array MethodInfo := #[]) (fl : Nat := 33) (sup : Nat := 0) (ifs : Array Nat := #[]) (fds : Array FieldInfo := #[]) : ClassFile where
  minorVersion := 0
  majorVersion := 65
  constantPool := pool
  accessFlags := fl
  thisClass := this
  superClass := sup
  interfaces := ifs
  fields := fds
  methods := ms
  attributes := attrs
def plain (name : String) (sup : Option ClassId) : Class where
  name := name
  kind := .ordinary
  loader := none
  accessFlags := 33
  super := sup
  interfaces := #[]
  cf := none
  fields := #[]
  methods := #[]
  instanceTypes := #[]
  staticTypes := #[]
  resolved := #[]
  callSites := []
  init := .initialized
  statics := none
  mirror := none

def pool0 : Array CpInfo := pool [(5, u "<init>"), (0, u "()V"), (1, .class_ 10), (1, u "java/lang/Object")] 113

def k0c0 : Code := { maxStack := 0, maxLocals := 1, code := object_method_1_code, exceptionTable := #[], attributes := #[] }
def k0m0 : Method := { name := "<init>", desc := "()V", sig := { parameters := [], returnType := none }, accessFlags := 1, code := some k0c0 }
/-- java/lang/Object -/
def k0 : Class := { plain "java/lang/Object" none with
  accessFlags := 33
  interfaces := #[]
  cf := some (fileOf pool0 8 #[] #[{ accessFlags := 1, nameIndex := 5, descriptorIndex := 6, attributes := #[] }] 33 0 #[] #[])
  fields := #[]
  methods := #[k0m0]
  instanceTypes := #[]
  staticTypes := #[]
  resolved := Array.replicate 124 none
  statics := none }

def pool1 : Array CpInfo := pool [(2, .class_ 4), (1, u "java/lang/Object"), (0, u "<init>"), (0, u "()V"), (0, .methodref 8 9), (0, .class_ 10), (0, .nameAndType 11 12), (0, u "com/example/grid_job_scheduler/gridjobscheduler/JobKeyToStringPinLaw"), (0, u "ch"), (0, u "(II)C"), (0, .methodref 8 14), (0, .nameAndType 15 16), (0, u "ws"), (0, u "(C)Z"), (0, .class_ 18), (0, u "java/lang/String"), (0, .methodref 17 20), (0, .nameAndType 5 21), (0, u "([C)V"), (0, .methodref 8 23), (0, .nameAndType 24 25), (0, u "blank"), (0, u "(II)Z"), (0, .class_ 27), (0, u "com/example/grid_job_scheduler/gridjobscheduler/JobKey"), (0, .methodref 8 29), (0, .nameAndType 30 31), (0, u "mk"), (0, u "(II)Ljava/lang/String;"), (0, .methodref 26 33), (0, .nameAndType 5 34), (0, u "(Ljava/lang/String;Ljava/lang/String;)V"), (0, .methodref 26 36), (0, .nameAndType 37 38), (0, u "toString"), (0, u "()Ljava/lang/String;"), (0, .methodref 17 40), (0, .nameAndType 41 42), (0, u "length"), (0, u "()I"), (0, .methodref 17 44), (0, .nameAndType 45 46), (0, u "charAt"), (0, u "(I)C"), (3, u "law"), (0, u "(III)Z")] 2

def k1m0 : Method := { name := "<init>", desc := "()V", sig := { parameters := [], returnType := none }, accessFlags := 2, code := none }
def k1c1 : Code := { maxStack := 3, maxLocals := 2, code := method_2_code, exceptionTable := #[], attributes := #[] }
def k1m1 : Method := { name := "ch", desc := "(II)C", sig := { parameters := [.int, .int], returnType := some .char }, accessFlags := 10, code := some k1c1 }
def k1c2 : Code := { maxStack := 2, maxLocals := 1, code := method_3_code, exceptionTable := #[], attributes := #[] }
def k1m2 : Method := { name := "ws", desc := "(C)Z", sig := { parameters := [.char], returnType := some .boolean }, accessFlags := 10, code := some k1c2 }
def k1c3 : Code := { maxStack := 2, maxLocals := 2, code := method_4_code, exceptionTable := #[], attributes := #[] }
def k1m3 : Method := { name := "blank", desc := "(II)Z", sig := { parameters := [.int, .int], returnType := some .boolean }, accessFlags := 10, code := some k1c3 }
def k1c4 : Code := { maxStack := 6, maxLocals := 6, code := method_5_code, exceptionTable := #[], attributes := #[] }
def k1m4 : Method := { name := "mk", desc := "(II)Ljava/lang/String;", sig := { parameters := [.int, .int], returnType := some (.object "java/lang/String") }, accessFlags := 10, code := some k1c4 }
def k1c5 : Code := { maxStack := 5, maxLocals := 7, code := code, exceptionTable := #[], attributes := #[] }
def k1m5 : Method := { name := "law", desc := "(III)Z", sig := { parameters := [.int, .int, .int], returnType := some .boolean }, accessFlags := 9, code := some k1c5 }
/-- com/example/grid_job_scheduler/gridjobscheduler/JobKeyToStringPinLaw -/
def k1 : Class := { plain "com/example/grid_job_scheduler/gridjobscheduler/JobKeyToStringPinLaw" (some 0) with
  accessFlags := 49
  interfaces := #[]
  cf := some (fileOf pool1 8 #[] #[{ accessFlags := 2, nameIndex := 5, descriptorIndex := 6, attributes := #[] }, { accessFlags := 10, nameIndex := 11, descriptorIndex := 12, attributes := #[] }, { accessFlags := 10, nameIndex := 15, descriptorIndex := 16, attributes := #[] }, { accessFlags := 10, nameIndex := 24, descriptorIndex := 25, attributes := #[] }, { accessFlags := 10, nameIndex := 30, descriptorIndex := 31, attributes := #[] }, { accessFlags := 9, nameIndex := 50, descriptorIndex := 51, attributes := #[] }] 49 2 #[] #[])
  fields := #[]
  methods := #[k1m0, k1m1, k1m2, k1m3, k1m4, k1m5]
  instanceTypes := #[]
  staticTypes := #[]
  resolved := Array.replicate 54 none
  statics := none }

def pool2 : Array CpInfo := pool [(1, .methodref 2 3), (0, .class_ 4), (0, .nameAndType 5 6), (0, u "java/lang/Object"), (0, u "<init>"), (0, u "()V"), (0, .class_ 8), (0, u "java/lang/Record")] 13

def k2c0 : Code := { maxStack := 1, maxLocals := 1, code := jdk_30_method_1_code, exceptionTable := #[], attributes := #[] }
def k2m0 : Method := { name := "<init>", desc := "()V", sig := { parameters := [], returnType := none }, accessFlags := 4, code := some k2c0 }
/-- java/lang/Record -/
def k2 : Class := { plain "java/lang/Record" (some 0) with
  accessFlags := 1057
  interfaces := #[]
  cf := some (fileOf pool2 7 #[] #[{ accessFlags := 4, nameIndex := 5, descriptorIndex := 6, attributes := #[] }] 1057 2 #[] #[])
  fields := #[]
  methods := #[k2m0]
  instanceTypes := #[]
  staticTypes := #[]
  resolved := Array.replicate 22 none
  statics := none }

def pool3 : Array CpInfo := pool [(1, .class_ 2), (0, u "com/example/grid_job_scheduler/gridjobscheduler/Keys"), (0, .methodref 4 5), (0, .class_ 6), (0, .nameAndType 7 8), (0, u "java/lang/Record"), (0, u "<init>"), (0, u "()V"), (0, .string 10), (0, u "job key"), (0, .methodref 1 12), (0, .nameAndType 13 14), (0, u "requireGroupAndName"), (0, u "(Ljava/lang/String;Ljava/lang/String;Ljava/lang/String;)V"), (0, .fieldref 16 17), (0, .class_ 18), (0, .nameAndType 19 20), (0, u "com/example/grid_job_scheduler/gridjobscheduler/JobKey"), (0, u "group"), (0, u "Ljava/lang/String;"), (0, .fieldref 16 22), (0, .nameAndType 23 20), (0, u "name"), (4, u "(Ljava/lang/String;Ljava/lang/String;)V"), (0, .methodref 1 30), (0, .nameAndType 31 32), (0, u "toString"), (0, u "(Ljava/lang/String;Ljava/lang/String;)Ljava/lang/String;"), (8, u "DEFAULT_GROUP"), (6, u "()Ljava/lang/String;")] 23

def k3c0 : Code := { maxStack := 3, maxLocals := 3, code := prog_16_method_1_code, exceptionTable := #[], attributes := #[] }
def k3m0 : Method := { name := "<init>", desc := "(Ljava/lang/String;Ljava/lang/String;)V", sig := { parameters := [(.object "java/lang/String"), (.object "java/lang/String")], returnType := none }, accessFlags := 1, code := some k3c0 }
def k3c1 : Code := { maxStack := 2, maxLocals := 1, code := prog_16_method_3_code, exceptionTable := #[], attributes := #[] }
def k3m1 : Method := { name := "toString", desc := "()Ljava/lang/String;", sig := { parameters := [], returnType := some (.object "java/lang/String") }, accessFlags := 1, code := some k3c1 }
/-- com/example/grid_job_scheduler/gridjobscheduler/JobKey -/
def k3 : Class := { plain "com/example/grid_job_scheduler/gridjobscheduler/JobKey" (some 2) with
  accessFlags := 49
  interfaces := #[]
  cf := some (fileOf pool3 16 #[] #[{ accessFlags := 1, nameIndex := 7, descriptorIndex := 28, attributes := #[] }, { accessFlags := 1, nameIndex := 31, descriptorIndex := 48, attributes := #[] }] 49 4 #[] #[{ accessFlags := 18, nameIndex := 19, descriptorIndex := 20, attributes := #[] }, { accessFlags := 18, nameIndex := 23, descriptorIndex := 20, attributes := #[] }, { accessFlags := 25, nameIndex := 41, descriptorIndex := 20, attributes := #[] }])
  fields := #[{ name := "group", type := (.object "java/lang/String"), accessFlags := 18, slot := 0, constantValue := 0 }, { name := "name", type := (.object "java/lang/String"), accessFlags := 18, slot := 1, constantValue := 0 }, { name := "DEFAULT_GROUP", type := (.object "java/lang/String"), accessFlags := 25, slot := 0, constantValue := 0 }]
  methods := #[k3m0, k3m1]
  instanceTypes := #[(.object "java/lang/String"), (.object "java/lang/String")]
  staticTypes := #[(.object "java/lang/String")]
  resolved := Array.replicate 72 none
  statics := none }

def pool4 : Array CpInfo := pool [(1, .class_ 2), (0, u "java/io/Serializable"), (0, .class_ 4), (0, u "java/lang/Object")] 2

/-- java/io/Serializable -/
def k4 : Class := { plain "java/io/Serializable" (some 0) with
  accessFlags := 1537
  interfaces := #[]
  cf := some (fileOf pool4 1 #[] #[] 1537 3 #[] #[])
  fields := #[]
  methods := #[]
  instanceTypes := #[]
  staticTypes := #[]
  resolved := Array.replicate 7 none
  statics := none }

def pool5 : Array CpInfo := pool [(1, .class_ 2), (0, u "java/lang/Comparable"), (0, .class_ 4), (0, u "java/lang/Object")] 7

/-- java/lang/Comparable -/
def k5 : Class := { plain "java/lang/Comparable" (some 0) with
  accessFlags := 1537
  interfaces := #[]
  cf := some (fileOf pool5 1 #[] #[] 1537 3 #[] #[])
  fields := #[]
  methods := #[]
  instanceTypes := #[]
  staticTypes := #[]
  resolved := Array.replicate 12 none
  statics := none }

def pool6 : Array CpInfo := pool [(2, .class_ 4), (1, u "java/lang/CharSequence"), (42, .class_ 48), (0, u "java/lang/CharSequence$1CodePointIterator"), (10, .class_ 60), (0, u "java/lang/CharSequence$1CharIterator"), (5, .class_ 67), (0, u "java/lang/Object")] 63

/-- java/lang/CharSequence -/
def k6 : Class := { plain "java/lang/CharSequence" (some 0) with
  accessFlags := 1537
  interfaces := #[]
  cf := some (fileOf pool6 2 #[.nestMembers #[47, 59]] #[] 1537 66 #[] #[])
  fields := #[]
  methods := #[]
  instanceTypes := #[]
  staticTypes := #[]
  resolved := Array.replicate 131 none
  statics := none }

def pool7 : Array CpInfo := pool [(1, .class_ 2), (0, u "java/lang/constant/Constable"), (0, .class_ 4), (0, u "java/lang/Object")] 6

/-- java/lang/constant/Constable -/
def k7 : Class := { plain "java/lang/constant/Constable" (some 0) with
  accessFlags := 1537
  interfaces := #[]
  cf := some (fileOf pool7 1 #[] #[] 1537 3 #[] #[])
  fields := #[]
  methods := #[]
  instanceTypes := #[]
  staticTypes := #[]
  resolved := Array.replicate 11 none
  statics := none }

def pool8 : Array CpInfo := pool [(1, .class_ 2), (0, u "java/lang/constant/ConstantDesc"), (0, .class_ 4), (0, u "java/lang/Object")] 32

/-- java/lang/constant/ConstantDesc -/
def k8 : Class := { plain "java/lang/constant/ConstantDesc" (some 0) with
  accessFlags := 1537
  interfaces := #[]
  cf := some (fileOf pool8 1 #[] #[] 1537 3 #[] #[])
  fields := #[]
  methods := #[]
  instanceTypes := #[]
  staticTypes := #[]
  resolved := Array.replicate 37 none
  statics := none }

def pool9 : Array CpInfo := pool [(1, .methodref 2 3), (0, .class_ 4), (0, .nameAndType 5 6), (0, u "java/lang/Object"), (0, u "<init>"), (0, u "()V"), (2, .fieldref 10 11), (0, .class_ 12), (0, .nameAndType 13 14), (0, u "java/lang/String"), (0, u "value"), (0, u "[B"), (0, .fieldref 10 16), (0, .nameAndType 17 18), (0, u "coder"), (0, u "B"), (2, u "hash"), (0, u "I"), (2, u "hashIsZero"), (0, u "Z"), (0, .methodref 10 28), (0, .nameAndType 5 29), (0, u "([CIILjava/lang/Void;)V"), (8, .fieldref 10 39), (0, .nameAndType 40 26), (0, u "COMPACT_STRINGS"), (1, .class_ 44), (1, u "java/lang/StringUTF16"), (0, u "compress"), (1, .methodref 42 48), (0, .nameAndType 49 50), (0, u "coderFromArrayLen"), (0, u "([BI)B"), (3, .methodref 55 56), (0, .class_ 57), (0, .nameAndType 58 59), (0, u "java/util/Arrays"), (0, u "copyOfRange"), (0, u "([BII)[B"), (47, .class_ 109), (1, u "java/lang/StringLatin1"), (32, u "()Z"), (34, .methodref 42 178), (0, .nameAndType 45 179), (0, u "([CII)[B"), (13, .class_ 195), (1, u "java/lang/System"), (16, .methodref 193 213), (0, .nameAndType 214 215), (0, u "arraycopy"), (0, u "(Ljava/lang/Object;ILjava/lang/Object;II)V"), (118, u "()I"), (0, .methodref 10 336), (0, .nameAndType 17 337), (0, u "()B"), (2, u "()[B"), (22, u "([BI)C"), (27, u "(II)V"), (35, u "(I)C"), (61, .methodref 10 490), (0, .nameAndType 5 491), (0, u "(Ljava/lang/AbstractStringBuilder;Ljava/lang/Void;)V"), (0, .methodref 10 493), (0, .nameAndType 494 142), (0, u "isLatin1"), (0, .methodref 107 496), (0, .nameAndType 497 363), (0, u "charAt"), (3, u "checkIndex"), (3, .methodref 10 506), (0, .nameAndType 507 334), (0, u "length"), (24, u "getBytes"), (16, .methodref 550 506), (0, .class_ 551), (0, u "java/lang/AbstractStringBuilder"), (0, .methodref 550 553), (0, .nameAndType 554 340), (0, u "getValue"), (20, .class_ 576), (0, u "java/lang/CharSequence"), (22, u "CASE_INSENSITIVE_ORDER"), (0, u "Ljava/util/Comparator;"), (30, u "([B)I"), (189, u "([BIB)V"), (54, .methodref 10 877), (0, .nameAndType 878 334), (0, u "indexOfNonWhitespace"), (45, .methodref 107 925), (0, .nameAndType 878 631), (26, u "isBlank"), (57, u "([C)V"), (36, .methodref 550 493), (5, .fieldref 1054 1055), (0, .class_ 1056), (0, .nameAndType 1057 1058), (0, u "jdk/internal/util/Preconditions"), (0, u "SIOOBE_FORMATTER"), (0, u "Ljava/util/function/BiFunction;"), (0, .methodref 1054 1060), (0, .nameAndType 501 1061), (0, u "(IILjava/util/function/BiFunction;)I"), (39, u "serialPersistentFields"), (0, u "[Ljava/io/ObjectStreamField;"), (0, .class_ 1104), (0, u "java/lang/String$CaseInsensitiveComparator"), (1, .class_ 1107), (0, u "java/io/Serializable"), (0, .class_ 1109), (0, u "java/lang/Comparable"), (0, .class_ 1111), (0, u "java/lang/constant/Constable"), (0, .class_ 1113), (0, u "java/lang/constant/ConstantDesc"), (2, u "serialVersionUID"), (0, u "J"), (3, u "REPL"), (0, u "C"), (2, u "LATIN1"), (1, u "UTF16"), (105, u "(Ljava/lang/StringBuilder;)V")] 217

def k9m0 : Method := { name := "<init>", desc := "()V", sig := { parameters := [], returnType := none }, accessFlags := 1, code := none }
def k9c1 : Code := { maxStack := 5, maxLocals := 2, code := jdk_42_method_3_code, exceptionTable := #[], attributes := #[] }
def k9m1 : Method := { name := "<init>", desc := "([C)V", sig := { parameters := [(.array .char)], returnType := none }, accessFlags := 1, code := some k9c1 }
def k9c2 : Code := { maxStack := 3, maxLocals := 2, code := jdk_42_method_53_code, exceptionTable := #[], attributes := #[] }
def k9m2 : Method := { name := "<init>", desc := "(Ljava/lang/StringBuilder;)V", sig := { parameters := [(.object "java/lang/StringBuilder")], returnType := none }, accessFlags := 1, code := some k9c2 }
def k9c3 : Code := { maxStack := 2, maxLocals := 1, code := jdk_42_method_54_code, exceptionTable := #[], attributes := #[] }
def k9m3 : Method := { name := "length", desc := "()I", sig := { parameters := [], returnType := some .int }, accessFlags := 1, code := some k9c3 }
def k9c4 : Code := { maxStack := 2, maxLocals := 2, code := jdk_42_method_56_code, exceptionTable := #[], attributes := #[] }
def k9m4 : Method := { name := "charAt", desc := "(I)C", sig := { parameters := [.int], returnType := some .char }, accessFlags := 1, code := some k9c4 }
def k9c5 : Code := { maxStack := 2, maxLocals := 1, code := jdk_42_method_117_code, exceptionTable := #[], attributes := #[] }
def k9m5 : Method := { name := "isBlank", desc := "()Z", sig := { parameters := [], returnType := some .boolean }, accessFlags := 1, code := some k9c5 }
def k9c6 : Code := { maxStack := 1, maxLocals := 1, code := jdk_42_method_120_code, exceptionTable := #[], attributes := #[] }
def k9m6 : Method := { name := "indexOfNonWhitespace", desc := "()I", sig := { parameters := [], returnType := some .int }, accessFlags := 2, code := some k9c6 }
def k9c7 : Code := { maxStack := 5, maxLocals := 4, code := jdk_42_method_147_code, exceptionTable := #[], attributes := #[] }
def k9m7 : Method := { name := "getBytes", desc := "([BIB)V", sig := { parameters := [(.array .byte), .int, .byte], returnType := none }, accessFlags := 0, code := some k9c7 }
def k9c8 : Code := { maxStack := 4, maxLocals := 6, code := jdk_42_method_149_code, exceptionTable := #[], attributes := #[] }
def k9m8 : Method := { name := "<init>", desc := "([CIILjava/lang/Void;)V", sig := { parameters := [(.array .char), .int, .int, (.object "java/lang/Void")], returnType := none }, accessFlags := 2, code := some k9c8 }
def k9c9 : Code := { maxStack := 5, maxLocals := 5, code := jdk_42_method_150_code, exceptionTable := #[], attributes := #[] }
def k9m9 : Method := { name := "<init>", desc := "(Ljava/lang/AbstractStringBuilder;Ljava/lang/Void;)V", sig := { parameters := [(.object "java/lang/AbstractStringBuilder"), (.object "java/lang/Void")], returnType := none }, accessFlags := 0, code := some k9c9 }
def k9c10 : Code := { maxStack := 1, maxLocals := 1, code := jdk_42_method_152_code, exceptionTable := #[], attributes := #[] }
def k9m10 : Method := { name := "coder", desc := "()B", sig := { parameters := [], returnType := some .byte }, accessFlags := 0, code := some k9c10 }
def k9c11 : Code := { maxStack := 1, maxLocals := 1, code := jdk_42_method_154_code, exceptionTable := #[], attributes := #[] }
def k9m11 : Method := { name := "isLatin1", desc := "()Z", sig := { parameters := [], returnType := some .boolean }, accessFlags := 0, code := some k9c11 }
def k9c12 : Code := { maxStack := 3, maxLocals := 2, code := jdk_42_method_155_code, exceptionTable := #[], attributes := #[] }
def k9m12 : Method := { name := "checkIndex", desc := "(II)V", sig := { parameters := [.int, .int], returnType := none }, accessFlags := 8, code := some k9c12 }
/-- java/lang/String -/
def k9 : Class := { plain "java/lang/String" (some 0) with
  accessFlags := 49
  interfaces := #[4, 5, 6, 7, 8]
  cf := some (fileOf pool9 10 #[.nestMembers #[1103]] #[{ accessFlags := 1, nameIndex := 5, descriptorIndex := 6, attributes := #[] }, { accessFlags := 1, nameIndex := 5, descriptorIndex := 1010, attributes := #[] }, { accessFlags := 1, nameIndex := 5, descriptorIndex := 1233, attributes := #[] }, { accessFlags := 1, nameIndex := 507, descriptorIndex := 334, attributes := #[] }, { accessFlags := 1, nameIndex := 497, descriptorIndex := 427, attributes := #[] }, { accessFlags := 1, nameIndex := 952, descriptorIndex := 142, attributes := #[] }, { accessFlags := 2, nameIndex := 878, descriptorIndex := 334, attributes := #[] }, { accessFlags := 0, nameIndex := 532, descriptorIndex := 821, attributes := #[] }, { accessFlags := 2, nameIndex := 5, descriptorIndex := 29, attributes := #[] }, { accessFlags := 0, nameIndex := 5, descriptorIndex := 491, attributes := #[] }, { accessFlags := 0, nameIndex := 17, descriptorIndex := 337, attributes := #[] }, { accessFlags := 0, nameIndex := 494, descriptorIndex := 142, attributes := #[] }, { accessFlags := 8, nameIndex := 501, descriptorIndex := 391, attributes := #[] }] 49 2 #[1106, 1108, 575, 1110, 1112] #[{ accessFlags := 18, nameIndex := 13, descriptorIndex := 14, attributes := #[] }, { accessFlags := 18, nameIndex := 17, descriptorIndex := 18, attributes := #[] }, { accessFlags := 2, nameIndex := 21, descriptorIndex := 22, attributes := #[] }, { accessFlags := 2, nameIndex := 25, descriptorIndex := 26, attributes := #[] }, { accessFlags := 26, nameIndex := 1116, descriptorIndex := 1117, attributes := #[] }, { accessFlags := 24, nameIndex := 40, descriptorIndex := 26, attributes := #[] }, { accessFlags := 26, nameIndex := 1101, descriptorIndex := 1102, attributes := #[] }, { accessFlags := 26, nameIndex := 1121, descriptorIndex := 1122, attributes := #[] }, { accessFlags := 25, nameIndex := 599, descriptorIndex := 600, attributes := #[] }, { accessFlags := 24, nameIndex := 1125, descriptorIndex := 18, attributes := #[] }, { accessFlags := 24, nameIndex := 1127, descriptorIndex := 18, attributes := #[] }])
  fields := #[{ name := "value", type := (.array .byte), accessFlags := 18, slot := 0, constantValue := 0 }, { name := "coder", type := .byte, accessFlags := 18, slot := 1, constantValue := 0 }, { name := "hash", type := .int, accessFlags := 2, slot := 2, constantValue := 0 }, { name := "hashIsZero", type := .boolean, accessFlags := 2, slot := 3, constantValue := 0 }, { name := "serialVersionUID", type := .long, accessFlags := 26, slot := 0, constantValue := 0 }, { name := "COMPACT_STRINGS", type := .boolean, accessFlags := 24, slot := 1, constantValue := 0 }, { name := "serialPersistentFields", type := (.array (.object "java/io/ObjectStreamField")), accessFlags := 26, slot := 2, constantValue := 0 }, { name := "REPL", type := .char, accessFlags := 26, slot := 3, constantValue := 0 }, { name := "CASE_INSENSITIVE_ORDER", type := (.object "java/util/Comparator"), accessFlags := 25, slot := 4, constantValue := 0 }, { name := "LATIN1", type := .byte, accessFlags := 24, slot := 5, constantValue := 0 }, { name := "UTF16", type := .byte, accessFlags := 24, slot := 6, constantValue := 0 }]
  methods := #[k9m0, k9m1, k9m2, k9m3, k9m4, k9m5, k9m6, k9m7, k9m8, k9m9, k9m10, k9m11, k9m12]
  instanceTypes := #[(.array .byte), .byte, .int, .boolean]
  staticTypes := #[.long, .boolean, (.array (.object "java/io/ObjectStreamField")), .char, (.object "java/util/Comparator"), .byte, .byte]
  resolved := Array.replicate 1451 none
  statics := some 0 }

def pool10 : Array CpInfo := pool [(6, .class_ 8), (1, u "java/lang/Object"), (0, u "<init>"), (0, u "()V"), (1, .class_ 14), (1, u "java/lang/StringUTF16"), (31, u "$assertionsDisabled"), (0, u "Z"), (13, u "HI_BYTE_SHIFT"), (0, u "I"), (2, u "LO_BYTE_SHIFT"), (49, .methodref 12 116), (0, .nameAndType 117 118), (0, u "compress"), (0, u "([CI[BII)I"), (3, u "([CII)[B"), (138, u "coderFromArrayLen"), (0, u "([BI)B"), (106, .class_ 371), (1, u "java/lang/StringUTF16$LinesSpliterator"), (58, u "MAX_LENGTH"), (196, .class_ 628), (0, u "java/lang/StringUTF16$CodePointsSpliterator"), (0, .class_ 630), (0, u "java/lang/StringUTF16$CharsSpliterator")] 4

def k10m0 : Method := { name := "<init>", desc := "()V", sig := { parameters := [], returnType := none }, accessFlags := 0, code := none }
def k10c1 : Code := { maxStack := 2, maxLocals := 2, code := jdk_52_method_15_code, exceptionTable := #[], attributes := #[] }
def k10m1 : Method := { name := "coderFromArrayLen", desc := "([BI)B", sig := { parameters := [(.array .byte), .int], returnType := some .byte }, accessFlags := 8, code := some k10c1 }
def k10c2 : Code := { maxStack := 5, maxLocals := 6, code := jdk_52_method_16_code, exceptionTable := #[], attributes := #[] }
def k10m2 : Method := { name := "compress", desc := "([CII)[B", sig := { parameters := [(.array .char), .int, .int], returnType := some (.array .byte) }, accessFlags := 9, code := some k10c2 }
def k10c3 : Code := { maxStack := 3, maxLocals := 7, code := jdk_52_method_21_code, exceptionTable := #[], attributes := #[] }
def k10m3 : Method := { name := "compress", desc := "([CI[BII)I", sig := { parameters := [(.array .char), .int, (.array .byte), .int, .int], returnType := some .int }, accessFlags := 9, code := some k10c3 }
/-- java/lang/StringUTF16 -/
def k10 : Class := { plain "java/lang/StringUTF16" (some 0) with
  accessFlags := 48
  interfaces := #[]
  cf := some (fileOf pool10 12 #[.nestMembers #[627, 629, 369]] #[{ accessFlags := 0, nameIndex := 9, descriptorIndex := 10, attributes := #[] }, { accessFlags := 8, nameIndex := 261, descriptorIndex := 262, attributes := #[] }, { accessFlags := 9, nameIndex := 117, descriptorIndex := 122, attributes := #[] }, { accessFlags := 9, nameIndex := 117, descriptorIndex := 118, attributes := #[] }] 48 6 #[] #[{ accessFlags := 26, nameIndex := 61, descriptorIndex := 62, attributes := #[] }, { accessFlags := 26, nameIndex := 65, descriptorIndex := 62, attributes := #[] }, { accessFlags := 24, nameIndex := 430, descriptorIndex := 62, attributes := #[] }, { accessFlags := 4120, nameIndex := 46, descriptorIndex := 47, attributes := #[] }])
  fields := #[{ name := "HI_BYTE_SHIFT", type := .int, accessFlags := 26, slot := 0, constantValue := 0 }, { name := "LO_BYTE_SHIFT", type := .int, accessFlags := 26, slot := 1, constantValue := 0 }, { name := "MAX_LENGTH", type := .int, accessFlags := 24, slot := 2, constantValue := 0 }, { name := "$assertionsDisabled", type := .boolean, accessFlags := 4120, slot := 3, constantValue := 0 }]
  methods := #[k10m0, k10m1, k10m2, k10m3]
  instanceTypes := #[]
  staticTypes := #[.int, .int, .int, .boolean]
  resolved := Array.replicate 635 none
  statics := none }

def pool11 : Array CpInfo := pool [(2, .class_ 4), (0, .nameAndType 5 6), (0, u "java/lang/Object"), (0, u "<init>"), (0, u "()V"), (0, .string 8), (0, u "group"), (0, .methodref 10 11), (0, .class_ 12), (0, .nameAndType 13 14), (0, u "com/example/grid_job_scheduler/gridjobscheduler/Keys"), (0, u "requireNotBlank"), (0, u "(Ljava/lang/String;Ljava/lang/String;Ljava/lang/String;)V"), (0, .string 16), (0, u "name"), (0, .invokeDynamic 0 18), (0, .nameAndType 19 20), (0, u "get"), (0, u "(Ljava/lang/String;Ljava/lang/String;)Ljava/util/function/Supplier;"), (0, .methodref 22 23), (0, .class_ 24), (0, .nameAndType 25 26), (0, u "java/util/Objects"), (0, u "requireNonNull"), (0, u "(Ljava/lang/Object;Ljava/util/function/Supplier;)Ljava/lang/Object;"), (0, .methodref 28 29), (0, .class_ 30), (0, .nameAndType 31 32), (0, u "java/lang/String"), (0, u "isBlank"), (0, u "()Z"), (2, .class_ 36), (0, u "java/lang/StringBuilder"), (0, .methodref 35 3), (0, .methodref 35 39), (0, .nameAndType 40 41), (0, u "append"), (0, u "(Ljava/lang/String;)Ljava/lang/StringBuilder;"), (4, .methodref 35 47), (0, .nameAndType 48 49), (0, u "toString"), (0, u "()Ljava/lang/String;"), (3, .string 54), (0, u "."), (2, u "DEFAULT_GROUP"), (0, u "Ljava/lang/String;"), (5, u "requireGroupAndName"), (1, u "(Ljava/lang/String;Ljava/lang/String;)Ljava/lang/String;"), (0, u "lambda$requireNotBlank$0"), (3, .methodType 72), (0, u "()Ljava/lang/Object;"), (0, .methodHandle 6 74), (0, .methodref 10 75), (0, .nameAndType 67 66), (0, .methodType 49), (0, .methodHandle 6 78), (0, .methodref 79 80), (0, .class_ 81), (0, .nameAndType 82 83), (0, u "java/lang/invoke/LambdaMetafactory"), (0, u "metafactory"), (0, u "(Ljava/lang/invoke/MethodHandles$Lookup;Ljava/lang/String;Ljava/lang/invoke/MethodType;Ljava/lang/invoke/MethodType;Ljava/lang/invoke/MethodHandle;Ljava/lang/invoke/MethodType;)Ljava/lang/invoke/CallSite;")] 6

def k11m0 : Method := { name := "<init>", desc := "()V", sig := { parameters := [], returnType := none }, accessFlags := 2, code := none }
def k11c1 : Code := { maxStack := 3, maxLocals := 3, code := prog_21_method_2_code, exceptionTable := #[], attributes := #[] }
def k11m1 : Method := { name := "requireGroupAndName", desc := "(Ljava/lang/String;Ljava/lang/String;Ljava/lang/String;)V", sig := { parameters := [(.object "java/lang/String"), (.object "java/lang/String"), (.object "java/lang/String")], returnType := none }, accessFlags := 8, code := some k11c1 }
def k11c2 : Code := { maxStack := 4, maxLocals := 3, code := prog_21_method_3_code, exceptionTable := #[], attributes := #[] }
def k11m2 : Method := { name := "requireNotBlank", desc := "(Ljava/lang/String;Ljava/lang/String;Ljava/lang/String;)V", sig := { parameters := [(.object "java/lang/String"), (.object "java/lang/String"), (.object "java/lang/String")], returnType := none }, accessFlags := 8, code := some k11c2 }
def k11c3 : Code := { maxStack := 2, maxLocals := 2, code := prog_21_method_4_code, exceptionTable := #[], attributes := #[] }
def k11m3 : Method := { name := "toString", desc := "(Ljava/lang/String;Ljava/lang/String;)Ljava/lang/String;", sig := { parameters := [(.object "java/lang/String"), (.object "java/lang/String")], returnType := some (.object "java/lang/String") }, accessFlags := 8, code := some k11c3 }
def k11c4 : Code := { maxStack := 2, maxLocals := 2, code := ⟨#[0xbb, 0x00, 0x23, 0x59, 0xb7, 0x00, 0x25, 0x2a, 0xb6, 0x00, 0x26, 0x12, 0x2a, 0xb6, 0x00, 0x26, 0x2b, 0xb6, 0x00, 0x26, 0x12, 0x37, 0xb6, 0x00, 0x26, 0xb6, 0x00, 0x2e, 0xb0]⟩, exceptionTable := #[], attributes := #[] }
def k11m4 : Method := { name := "lambda$requireNotBlank$0", desc := "(Ljava/lang/String;Ljava/lang/String;)Ljava/lang/String;", sig := { parameters := [(.object "java/lang/String"), (.object "java/lang/String")], returnType := some (.object "java/lang/String") }, accessFlags := 4106, code := some k11c4 }
/-- com/example/grid_job_scheduler/gridjobscheduler/Keys -/
def k11 : Class := { plain "com/example/grid_job_scheduler/gridjobscheduler/Keys" (some 0) with
  accessFlags := 48
  interfaces := #[]
  cf := some (fileOf pool11 10 #[.bootstrapMethods #[⟨77, #[71, 73, 76]⟩]] #[{ accessFlags := 2, nameIndex := 5, descriptorIndex := 6, attributes := #[] }, { accessFlags := 8, nameIndex := 64, descriptorIndex := 14, attributes := #[] }, { accessFlags := 8, nameIndex := 13, descriptorIndex := 14, attributes := #[] }, { accessFlags := 8, nameIndex := 48, descriptorIndex := 66, attributes := #[] }, { accessFlags := 4106, nameIndex := 67, descriptorIndex := 66, attributes := #[] }] 48 2 #[] #[{ accessFlags := 24, nameIndex := 57, descriptorIndex := 58, attributes := #[] }])
  fields := #[{ name := "DEFAULT_GROUP", type := (.object "java/lang/String"), accessFlags := 24, slot := 0, constantValue := 0 }]
  methods := #[k11m0, k11m1, k11m2, k11m3, k11m4]
  instanceTypes := #[]
  staticTypes := #[(.object "java/lang/String")]
  resolved := Array.replicate 90 none
  callSites := [(2, 3, .makes 32)]
  statics := none }

def pool12 : Array CpInfo := pool [(1, .class_ 2), (0, u "java/util/function/Supplier"), (0, .class_ 4), (0, u "java/lang/Object"), (0, u "get"), (0, u "()Ljava/lang/Object;")] 7

def k12m0 : Method := { name := "get", desc := "()Ljava/lang/Object;", sig := { parameters := [], returnType := some (.object "java/lang/Object") }, accessFlags := 1025, code := none }
/-- java/util/function/Supplier -/
def k12 : Class := { plain "java/util/function/Supplier" (some 0) with
  accessFlags := 1537
  interfaces := #[]
  cf := some (fileOf pool12 1 #[] #[{ accessFlags := 1025, nameIndex := 5, descriptorIndex := 6, attributes := #[] }] 1537 3 #[] #[])
  fields := #[]
  methods := #[k12m0]
  instanceTypes := #[]
  staticTypes := #[]
  resolved := Array.replicate 14 none
  statics := none }

def pool13 : Array CpInfo := pool [(2, .class_ 4), (1, u "java/lang/Object"), (0, u "<init>"), (0, u "()V"), (35, .class_ 44), (1, u "java/util/Objects"), (0, u "requireNonNull"), (118, u "(Ljava/lang/Object;Ljava/util/function/Supplier;)Ljava/lang/Object;")] 19

def k13m0 : Method := { name := "<init>", desc := "()V", sig := { parameters := [], returnType := none }, accessFlags := 2, code := none }
def k13c1 : Code := { maxStack := 3, maxLocals := 2, code := jdk_31_method_16_code, exceptionTable := #[], attributes := #[] }
def k13m1 : Method := { name := "requireNonNull", desc := "(Ljava/lang/Object;Ljava/util/function/Supplier;)Ljava/lang/Object;", sig := { parameters := [(.object "java/lang/Object"), (.object "java/util/function/Supplier")], returnType := some (.object "java/lang/Object") }, accessFlags := 9, code := some k13c1 }
/-- java/util/Objects -/
def k13 : Class := { plain "java/util/Objects" (some 0) with
  accessFlags := 49
  interfaces := #[]
  cf := some (fileOf pool13 42 #[] #[{ accessFlags := 2, nameIndex := 5, descriptorIndex := 6, attributes := #[] }, { accessFlags := 9, nameIndex := 45, descriptorIndex := 164, attributes := #[] }] 49 2 #[] #[])
  fields := #[]
  methods := #[k13m0, k13m1]
  instanceTypes := #[]
  staticTypes := #[]
  resolved := Array.replicate 184 none
  statics := none }

def pool14 : Array CpInfo := pool [(1, .class_ 2), (0, u "java/lang/String"), (1, .class_ 6), (1, u "java/lang/Object"), (0, u "<init>"), (0, u "()V"), (0, .methodref 1 10), (0, .nameAndType 11 12), (0, u "checkIndex"), (0, u "(II)V"), (1, .class_ 16), (1, u "java/lang/StringLatin1"), (33, .methodref 14 51), (0, .nameAndType 52 53), (0, u "getChar"), (0, u "([BI)C"), (3, u "([B)I"), (8, .fieldref 67 68), (0, .class_ 69), (0, .nameAndType 70 71), (0, u "java/lang/CharacterDataLatin1"), (0, u "instance"), (0, u "Ljava/lang/CharacterDataLatin1;"), (19, u "(I)Z"), (29, u "$assertionsDisabled"), (0, u "Z"), (88, .methodref 67 212), (0, .nameAndType 213 91), (0, u "isWhitespace"), (2, u "indexOfNonWhitespace"), (4, .class_ 223), (1, u "java/lang/StringLatin1$LinesSpliterator"), (28, u "charAt"), (137, .class_ 391), (0, u "java/lang/StringLatin1$CharsSpliterator")] 3

def k14m0 : Method := { name := "<init>", desc := "()V", sig := { parameters := [], returnType := none }, accessFlags := 0, code := none }
def k14c1 : Code := { maxStack := 2, maxLocals := 2, code := jdk_43_method_2_code, exceptionTable := #[], attributes := #[] }
def k14m1 : Method := { name := "charAt", desc := "([BI)C", sig := { parameters := [(.array .byte), .int], returnType := some .char }, accessFlags := 9, code := some k14c1 }
def k14c2 : Code := { maxStack := 2, maxLocals := 4, code := jdk_43_method_37_code, exceptionTable := #[], attributes := #[] }
def k14m2 : Method := { name := "indexOfNonWhitespace", desc := "([B)I", sig := { parameters := [(.array .byte)], returnType := some .int }, accessFlags := 9, code := some k14c2 }
def k14c3 : Code := { maxStack := 2, maxLocals := 2, code := jdk_43_method_44_code, exceptionTable := #[], attributes := #[] }
def k14m3 : Method := { name := "getChar", desc := "([BI)C", sig := { parameters := [(.array .byte), .int], returnType := some .char }, accessFlags := 9, code := some k14c3 }
/-- java/lang/StringLatin1 -/
def k14 : Class := { plain "java/lang/StringLatin1" (some 0) with
  accessFlags := 48
  interfaces := #[]
  cf := some (fileOf pool14 14 #[.nestMembers #[390, 221]] #[{ accessFlags := 0, nameIndex := 7, descriptorIndex := 8, attributes := #[] }, { accessFlags := 9, nameIndex := 252, descriptorIndex := 53, attributes := #[] }, { accessFlags := 9, nameIndex := 216, descriptorIndex := 57, attributes := #[] }, { accessFlags := 9, nameIndex := 52, descriptorIndex := 53, attributes := #[] }] 48 4 #[] #[{ accessFlags := 4120, nameIndex := 121, descriptorIndex := 122, attributes := #[] }])
  fields := #[{ name := "$assertionsDisabled", type := .boolean, accessFlags := 4120, slot := 0, constantValue := 0 }]
  methods := #[k14m0, k14m1, k14m2, k14m3]
  instanceTypes := #[]
  staticTypes := #[.boolean]
  resolved := Array.replicate 395 none
  statics := none }

def pool15 : Array CpInfo := pool [(2, .class_ 4), (1, u "java/lang/Object"), (0, u "<init>"), (0, u "()V"), (1, .class_ 10), (1, u "java/lang/CharacterData")] 75

def k15m0 : Method := { name := "<init>", desc := "()V", sig := { parameters := [], returnType := none }, accessFlags := 0, code := none }
/-- java/lang/CharacterData -/
def k15 : Class := { plain "java/lang/CharacterData" (some 0) with
  accessFlags := 1056
  interfaces := #[]
  cf := some (fileOf pool15 8 #[] #[{ accessFlags := 0, nameIndex := 5, descriptorIndex := 6, attributes := #[] }] 1056 2 #[] #[])
  fields := #[]
  methods := #[k15m0]
  instanceTypes := #[]
  staticTypes := #[]
  resolved := Array.replicate 86 none
  statics := none }

def pool16 : Array CpInfo := pool [(1, .fieldref 2 3), (0, .class_ 4), (0, .nameAndType 5 6), (0, u "java/lang/CharacterDataLatin1"), (0, u "A"), (0, u "[I"), (2, u "B"), (0, u "[C"), (3, u "(I)I"), (0, .methodref 2 16), (0, .nameAndType 17 14), (0, u "getProperties"), (3, u "(I)Z"), (5, u "DIGITS"), (0, u "[B"), (8, u "sharpsMap"), (1, .class_ 41), (1, u "java/lang/CharacterData"), (0, u "<init>"), (0, u "()V"), (3, u "instance"), (0, u "Ljava/lang/CharacterDataLatin1;"), (78, u "isWhitespace")] 13

def k16c0 : Code := { maxStack := 2, maxLocals := 4, code := jdk_116_method_1_code, exceptionTable := #[], attributes := #[] }
def k16m0 : Method := { name := "getProperties", desc := "(I)I", sig := { parameters := [.int], returnType := some .int }, accessFlags := 0, code := some k16c0 }
def k16c1 : Code := { maxStack := 2, maxLocals := 3, code := jdk_116_method_26_code, exceptionTable := #[], attributes := #[] }
def k16m1 : Method := { name := "isWhitespace", desc := "(I)Z", sig := { parameters := [.int], returnType := some .boolean }, accessFlags := 0, code := some k16c1 }
def k16m2 : Method := { name := "<init>", desc := "()V", sig := { parameters := [], returnType := none }, accessFlags := 2, code := none }
/-- java/lang/CharacterDataLatin1 -/
def k16 : Class := { plain "java/lang/CharacterDataLatin1" (some 15) with
  accessFlags := 32
  interfaces := #[]
  cf := some (fileOf pool16 2 #[] #[{ accessFlags := 0, nameIndex := 17, descriptorIndex := 14, attributes := #[] }, { accessFlags := 0, nameIndex := 127, descriptorIndex := 21, attributes := #[] }, { accessFlags := 2, nameIndex := 42, descriptorIndex := 43, attributes := #[] }] 32 39 #[] #[{ accessFlags := 26, nameIndex := 27, descriptorIndex := 28, attributes := #[] }, { accessFlags := 8, nameIndex := 37, descriptorIndex := 10, attributes := #[] }, { accessFlags := 24, nameIndex := 47, descriptorIndex := 48, attributes := #[] }, { accessFlags := 24, nameIndex := 5, descriptorIndex := 6, attributes := #[] }, { accessFlags := 24, nameIndex := 9, descriptorIndex := 10, attributes := #[] }])
  fields := #[{ name := "DIGITS", type := (.array .byte), accessFlags := 26, slot := 0, constantValue := 0 }, { name := "sharpsMap", type := (.array .char), accessFlags := 8, slot := 1, constantValue := 0 }, { name := "instance", type := (.object "java/lang/CharacterDataLatin1"), accessFlags := 24, slot := 2, constantValue := 0 }, { name := "A", type := (.array .int), accessFlags := 24, slot := 3, constantValue := 0 }, { name := "B", type := (.array .char), accessFlags := 24, slot := 4, constantValue := 0 }]
  methods := #[k16m0, k16m1, k16m2]
  instanceTypes := #[]
  staticTypes := #[(.array .byte), (.array .char), (.object "java/lang/CharacterDataLatin1"), (.array .int), (.array .char)]
  resolved := Array.replicate 141 none
  statics := some 1 }

def pool17 : Array CpInfo := pool [(1, .class_ 2), (0, u "java/lang/Appendable"), (0, .class_ 4), (0, u "java/lang/Object")] 9

/-- java/lang/Appendable -/
def k17 : Class := { plain "java/lang/Appendable" (some 0) with
  accessFlags := 1537
  interfaces := #[]
  cf := some (fileOf pool17 1 #[] #[] 1537 3 #[] #[])
  fields := #[]
  methods := #[]
  instanceTypes := #[]
  staticTypes := #[]
  resolved := Array.replicate 14 none
  statics := none }

def pool18 : Array CpInfo := pool [(1, .class_ 2), (0, u "java/lang/String"), (0, .methodref 4 5), (0, .class_ 6), (0, .nameAndType 7 8), (0, u "java/lang/Object"), (0, u "<init>"), (0, u "()V"), (1, .class_ 12), (1, u "java/lang/AbstractStringBuilder"), (0, u "EMPTYVALUE"), (0, u "[B"), (0, .fieldref 10 16), (0, .nameAndType 17 14), (0, u "value"), (0, .fieldref 1 19), (0, .nameAndType 20 21), (0, u "COMPACT_STRINGS"), (0, u "Z"), (0, .fieldref 10 23), (0, .nameAndType 24 25), (0, u "coder"), (0, u "B"), (6, .methodref 1 33), (0, .nameAndType 34 35), (0, u "length"), (0, u "()I"), (4, .methodref 1 41), (0, .nameAndType 24 42), (0, u "()B"), (2, u "append"), (0, u "(Ljava/lang/String;)Ljava/lang/AbstractStringBuilder;"), (1, .class_ 49), (0, u "java/lang/CharSequence"), (19, u "(Ljava/lang/String;)V"), (5, u "maybeLatin1"), (3, .fieldref 10 80), (0, .nameAndType 81 82), (0, u "count"), (0, u "I"), (2, u "isLatin1"), (0, u "()Z"), (13, .methodref 10 101), (0, .nameAndType 102 103), (0, u "ensureCapacityInternal"), (0, u "(I)V"), (104, .methodref 10 209), (0, .nameAndType 210 211), (0, u "putStringAt"), (0, u "(ILjava/lang/String;)V"), (5, u "inflateIfNeededFor"), (2, .nameAndType 221 222), (0, u "getBytes"), (0, u "([BIB)V"), (174, .methodref 10 398), (0, .nameAndType 217 69), (0, .methodref 1 220), (3, u "()[B"), (40, .class_ 445), (0, u "java/lang/Appendable"), (106, u "getValue")] 56

def k18m0 : Method := { name := "<init>", desc := "()V", sig := { parameters := [], returnType := none }, accessFlags := 0, code := none }
def k18c1 : Code := { maxStack := 2, maxLocals := 2, code := jdk_68_method_2_code, exceptionTable := #[], attributes := #[] }
def k18m1 : Method := { name := "<init>", desc := "(I)V", sig := { parameters := [.int], returnType := none }, accessFlags := 0, code := some k18c1 }
def k18c2 : Code := { maxStack := 1, maxLocals := 1, code := jdk_68_method_6_code, exceptionTable := #[], attributes := #[] }
def k18m2 : Method := { name := "length", desc := "()I", sig := { parameters := [], returnType := some .int }, accessFlags := 1, code := some k18c2 }
def k18c3 : Code := { maxStack := 4, maxLocals := 3, code := jdk_68_method_9_code, exceptionTable := #[], attributes := #[] }
def k18m3 : Method := { name := "ensureCapacityInternal", desc := "(I)V", sig := { parameters := [.int], returnType := none }, accessFlags := 2, code := some k18c3 }
def k18c4 : Code := { maxStack := 3, maxLocals := 3, code := jdk_68_method_22_code, exceptionTable := #[], attributes := #[] }
def k18m4 : Method := { name := "append", desc := "(Ljava/lang/String;)Ljava/lang/AbstractStringBuilder;", sig := { parameters := [(.object "java/lang/String")], returnType := some (.object "java/lang/AbstractStringBuilder") }, accessFlags := 1, code := some k18c4 }
def k18c5 : Code := { maxStack := 1, maxLocals := 1, code := jdk_68_method_64_code, exceptionTable := #[], attributes := #[] }
def k18m5 : Method := { name := "getValue", desc := "()[B", sig := { parameters := [], returnType := some (.array .byte) }, accessFlags := 16, code := some k18c5 }
def k18c6 : Code := { maxStack := 1, maxLocals := 1, code := jdk_68_method_68_code, exceptionTable := #[], attributes := #[] }
def k18m6 : Method := { name := "isLatin1", desc := "()Z", sig := { parameters := [], returnType := some .boolean }, accessFlags := 16, code := some k18c6 }
def k18c7 : Code := { maxStack := 2, maxLocals := 2, code := jdk_68_method_71_code, exceptionTable := #[], attributes := #[] }
def k18m7 : Method := { name := "inflateIfNeededFor", desc := "(Ljava/lang/String;)V", sig := { parameters := [(.object "java/lang/String")], returnType := none }, accessFlags := 2, code := some k18c7 }
def k18c8 : Code := { maxStack := 4, maxLocals := 3, code := jdk_68_method_73_code, exceptionTable := #[], attributes := #[] }
def k18m8 : Method := { name := "putStringAt", desc := "(ILjava/lang/String;)V", sig := { parameters := [.int, (.object "java/lang/String")], returnType := none }, accessFlags := 2, code := some k18c8 }
/-- java/lang/AbstractStringBuilder -/
def k18 : Class := { plain "java/lang/AbstractStringBuilder" (some 0) with
  accessFlags := 1056
  interfaces := #[17, 6]
  cf := some (fileOf pool18 10 #[] #[{ accessFlags := 0, nameIndex := 7, descriptorIndex := 8, attributes := #[] }, { accessFlags := 0, nameIndex := 7, descriptorIndex := 103, attributes := #[] }, { accessFlags := 1, nameIndex := 34, descriptorIndex := 35, attributes := #[] }, { accessFlags := 2, nameIndex := 102, descriptorIndex := 103, attributes := #[] }, { accessFlags := 1, nameIndex := 45, descriptorIndex := 46, attributes := #[] }, { accessFlags := 16, nameIndex := 552, descriptorIndex := 403, attributes := #[] }, { accessFlags := 16, nameIndex := 85, descriptorIndex := 86, attributes := #[] }, { accessFlags := 2, nameIndex := 217, descriptorIndex := 69, attributes := #[] }, { accessFlags := 2, nameIndex := 210, descriptorIndex := 211, attributes := #[] }] 1056 4 #[444, 48] #[{ accessFlags := 0, nameIndex := 17, descriptorIndex := 14, attributes := #[] }, { accessFlags := 0, nameIndex := 24, descriptorIndex := 25, attributes := #[] }, { accessFlags := 0, nameIndex := 75, descriptorIndex := 21, attributes := #[] }, { accessFlags := 0, nameIndex := 81, descriptorIndex := 82, attributes := #[] }, { accessFlags := 26, nameIndex := 13, descriptorIndex := 14, attributes := #[] }])
  fields := #[{ name := "value", type := (.array .byte), accessFlags := 0, slot := 0, constantValue := 0 }, { name := "coder", type := .byte, accessFlags := 0, slot := 1, constantValue := 0 }, { name := "maybeLatin1", type := .boolean, accessFlags := 0, slot := 2, constantValue := 0 }, { name := "count", type := .int, accessFlags := 0, slot := 3, constantValue := 0 }, { name := "EMPTYVALUE", type := (.array .byte), accessFlags := 26, slot := 0, constantValue := 0 }]
  methods := #[k18m0, k18m1, k18m2, k18m3, k18m4, k18m5, k18m6, k18m7, k18m8]
  instanceTypes := #[(.array .byte), .byte, .boolean, .int]
  staticTypes := #[(.array .byte)]
  resolved := Array.replicate 609 none
  statics := none }

def pool19 : Array CpInfo := pool [(1, .methodref 2 3), (0, .class_ 4), (0, .nameAndType 5 6), (0, u "java/lang/AbstractStringBuilder"), (0, u "<init>"), (0, u "(I)V"), (11, .class_ 20), (1, u "java/lang/String"), (3, .class_ 26), (1, u "java/lang/StringBuilder"), (0, u "append"), (0, u "(Ljava/lang/String;)Ljava/lang/StringBuilder;"), (0, .methodref 2 30), (0, .nameAndType 27 31), (0, u "(Ljava/lang/String;)Ljava/lang/AbstractStringBuilder;"), (105, .methodref 18 138), (0, .nameAndType 5 139), (0, u "(Ljava/lang/StringBuilder;)V"), (5, u "()V"), (10, u "()I"), (186, .methodref 2 344), (0, .nameAndType 345 156), (0, u "length"), (3, .class_ 350), (0, u "java/lang/Appendable"), (0, .class_ 352), (0, u "java/io/Serializable"), (0, .class_ 354), (0, u "java/lang/Comparable"), (0, .class_ 356), (0, u "java/lang/CharSequence"), (0, u "serialVersionUID"), (0, u "J"), (40, u "toString"), (0, u "()Ljava/lang/String;")] 21

def k19c0 : Code := { maxStack := 2, maxLocals := 1, code := jdk_67_method_1_code, exceptionTable := #[], attributes := #[] }
def k19m0 : Method := { name := "<init>", desc := "()V", sig := { parameters := [], returnType := none }, accessFlags := 1, code := some k19c0 }
def k19c1 : Code := { maxStack := 2, maxLocals := 2, code := jdk_67_method_7_code, exceptionTable := #[], attributes := #[] }
def k19m1 : Method := { name := "append", desc := "(Ljava/lang/String;)Ljava/lang/StringBuilder;", sig := { parameters := [(.object "java/lang/String")], returnType := some (.object "java/lang/StringBuilder") }, accessFlags := 1, code := some k19c1 }
def k19c2 : Code := { maxStack := 3, maxLocals := 1, code := jdk_67_method_42_code, exceptionTable := #[], attributes := #[] }
def k19m2 : Method := { name := "toString", desc := "()Ljava/lang/String;", sig := { parameters := [], returnType := some (.object "java/lang/String") }, accessFlags := 1, code := some k19c2 }
def k19c3 : Code := { maxStack := 1, maxLocals := 1, code := jdk_67_method_93_code, exceptionTable := #[], attributes := #[] }
def k19m3 : Method := { name := "length", desc := "()I", sig := { parameters := [], returnType := some .int }, accessFlags := 4161, code := some k19c3 }
/-- java/lang/StringBuilder -/
def k19 : Class := { plain "java/lang/StringBuilder" (some 18) with
  accessFlags := 49
  interfaces := #[17, 4, 5, 6]
  cf := some (fileOf pool19 24 #[] #[{ accessFlags := 1, nameIndex := 5, descriptorIndex := 145, attributes := #[] }, { accessFlags := 1, nameIndex := 27, descriptorIndex := 28, attributes := #[] }, { accessFlags := 1, nameIndex := 399, descriptorIndex := 400, attributes := #[] }, { accessFlags := 4161, nameIndex := 345, descriptorIndex := 156, attributes := #[] }] 49 2 #[349, 351, 353, 355] #[{ accessFlags := 24, nameIndex := 357, descriptorIndex := 358, attributes := #[] }])
  fields := #[{ name := "serialVersionUID", type := .long, accessFlags := 24, slot := 0, constantValue := 0 }]
  methods := #[k19m0, k19m1, k19m2, k19m3]
  instanceTypes := #[(.array .byte), .byte, .boolean, .int]
  staticTypes := #[.long]
  resolved := Array.replicate 422 none
  statics := none }

def pool20 : Array CpInfo := pool [(2, .class_ 4), (1, u "java/lang/Object"), (0, u "<init>"), (0, u "()V"), (1, .class_ 10), (1, u "java/lang/System"), (0, u "allowSecurityManager"), (0, u "I"), (16, u "cons"), (0, u "Ljava/io/Console;"), (77, .class_ 110), (1, u "java/lang/System$CallersHolder"), (43, u "initialErrStream"), (0, u "Ljava/io/PrintStream;"), (19, u "security"), (0, u "Ljava/lang/SecurityManager;"), (31, .class_ 209), (0, u "java/lang/System$1"), (7, u "props"), (0, u "Ljava/util/Properties;"), (2, u "lineSeparator"), (0, u "Ljava/lang/String;"), (96, .class_ 321), (1, u "java/lang/System$LoggerFinder"), (5, .class_ 328), (0, u "java/lang/System$Logger"), (67, u "err"), (2, u "out"), (91, u "notSupportedJnuEncoding"), (15, u "in"), (17, u "initialIn"), (0, u "Ljava/io/InputStream;"), (35, u "bootLayer"), (0, u "Ljava/lang/ModuleLayer;"), (99, .class_ 664), (0, u "java/lang/System$2"), (9, u "NEVER"), (2, u "MAYBE"), (49, u "arraycopy"), (0, u "(Ljava/lang/Object;ILjava/lang/Object;II)V"), (72, .class_ 802), (0, u "java/lang/System$Logger$Level")] 31

def k20m0 : Method := { name := "<init>", desc := "()V", sig := { parameters := [], returnType := none }, accessFlags := 2, code := none }
def k20m1 : Method := { name := "arraycopy", desc := "(Ljava/lang/Object;ILjava/lang/Object;II)V", sig := { parameters := [(.object "java/lang/Object"), .int, (.object "java/lang/Object"), .int, .int], returnType := none }, accessFlags := 265, code := none }
/-- java/lang/System -/
def k20 : Class := { plain "java/lang/System" (some 0) with
  accessFlags := 49
  interfaces := #[]
  cf := some (fileOf pool20 8 #[.nestMembers #[319, 327, 801, 108, 663, 208]] #[{ accessFlags := 2, nameIndex := 5, descriptorIndex := 6, attributes := #[] }, { accessFlags := 265, nameIndex := 727, descriptorIndex := 728, attributes := #[] }] 49 2 #[] #[{ accessFlags := 25, nameIndex := 507, descriptorIndex := 526, attributes := #[] }, { accessFlags := 25, nameIndex := 399, descriptorIndex := 155, attributes := #[] }, { accessFlags := 25, nameIndex := 396, descriptorIndex := 155, attributes := #[] }, { accessFlags := 10, nameIndex := 525, descriptorIndex := 526, attributes := #[] }, { accessFlags := 26, nameIndex := 674, descriptorIndex := 12, attributes := #[] }, { accessFlags := 26, nameIndex := 677, descriptorIndex := 12, attributes := #[] }, { accessFlags := 10, nameIndex := 11, descriptorIndex := 12, attributes := #[] }, { accessFlags := 74, nameIndex := 175, descriptorIndex := 176, attributes := #[] }, { accessFlags := 10, nameIndex := 491, descriptorIndex := 222, attributes := #[] }, { accessFlags := 74, nameIndex := 29, descriptorIndex := 30, attributes := #[] }, { accessFlags := 74, nameIndex := 154, descriptorIndex := 155, attributes := #[] }, { accessFlags := 10, nameIndex := 217, descriptorIndex := 218, attributes := #[] }, { accessFlags := 10, nameIndex := 221, descriptorIndex := 222, attributes := #[] }, { accessFlags := 8, nameIndex := 562, descriptorIndex := 563, attributes := #[] }])
  fields := #[{ name := "in", type := (.object "java/io/InputStream"), accessFlags := 25, slot := 0, constantValue := 0 }, { name := "out", type := (.object "java/io/PrintStream"), accessFlags := 25, slot := 1, constantValue := 0 }, { name := "err", type := (.object "java/io/PrintStream"), accessFlags := 25, slot := 2, constantValue := 0 }, { name := "initialIn", type := (.object "java/io/InputStream"), accessFlags := 10, slot := 3, constantValue := 0 }, { name := "NEVER", type := .int, accessFlags := 26, slot := 4, constantValue := 0 }, { name := "MAYBE", type := .int, accessFlags := 26, slot := 5, constantValue := 0 }, { name := "allowSecurityManager", type := .int, accessFlags := 10, slot := 6, constantValue := 0 }, { name := "security", type := (.object "java/lang/SecurityManager"), accessFlags := 74, slot := 7, constantValue := 0 }, { name := "notSupportedJnuEncoding", type := (.object "java/lang/String"), accessFlags := 10, slot := 8, constantValue := 0 }, { name := "cons", type := (.object "java/io/Console"), accessFlags := 74, slot := 9, constantValue := 0 }, { name := "initialErrStream", type := (.object "java/io/PrintStream"), accessFlags := 74, slot := 10, constantValue := 0 }, { name := "props", type := (.object "java/util/Properties"), accessFlags := 10, slot := 11, constantValue := 0 }, { name := "lineSeparator", type := (.object "java/lang/String"), accessFlags := 10, slot := 12, constantValue := 0 }, { name := "bootLayer", type := (.object "java/lang/ModuleLayer"), accessFlags := 8, slot := 13, constantValue := 0 }]
  methods := #[k20m0, k20m1]
  instanceTypes := #[]
  staticTypes := #[(.object "java/io/InputStream"), (.object "java/io/PrintStream"), (.object "java/io/PrintStream"), (.object "java/io/InputStream"), .int, .int, .int, (.object "java/lang/SecurityManager"), (.object "java/lang/String"), (.object "java/io/Console"), (.object "java/io/PrintStream"), (.object "java/util/Properties"), (.object "java/lang/String"), (.object "java/lang/ModuleLayer")]
  resolved := Array.replicate 834 none
  statics := none }

def pool21 : Array CpInfo := pool [(2, .class_ 4), (1, u "java/lang/Object"), (0, u "<init>"), (0, u "()V"), (7, .class_ 16), (1, u "java/util/Arrays"), (57, .class_ 76), (1, u "java/util/Arrays$NaturalOrder"), (36, .class_ 115), (1, u "java/util/Arrays$LegacyMergeSort"), (1, u "Z"), (21, u "copyOfRange"), (10, .methodref 151 152), (0, .class_ 153), (0, .nameAndType 154 155), (0, u "java/lang/System"), (0, u "arraycopy"), (0, u "(Ljava/lang/Object;ILjava/lang/Object;II)V"), (148, .methodref 305 306), (0, .class_ 307), (0, .nameAndType 308 309), (0, u "java/lang/Math"), (0, u "min"), (0, u "(II)I"), (29, .methodref 14 340), (0, .nameAndType 341 342), (0, u "copyOfRangeByte"), (0, u "([BII)[B"), (0, .methodref 14 344), (0, .nameAndType 345 346), (0, u "checkLength"), (0, u "(II)V"), (28, .class_ 376), (0, u "java/util/Arrays$ArrayList"), (68, u "$assertionsDisabled"), (269, u "MIN_ARRAY_SORT_GRAN"), (0, u "I"), (2, u "INSERTIONSORT_THRESHOLD"), (255, .class_ 976), (0, u "java/util/Arrays$ArrayItr")] 52

def k21m0 : Method := { name := "<init>", desc := "()V", sig := { parameters := [], returnType := none }, accessFlags := 2, code := none }
def k21c1 : Code := { maxStack := 4, maxLocals := 2, code := jdk_65_method_131_code, exceptionTable := #[], attributes := #[] }
def k21m1 : Method := { name := "checkLength", desc := "(II)V", sig := { parameters := [.int, .int], returnType := none }, accessFlags := 10, code := some k21c1 }
def k21c2 : Code := { maxStack := 3, maxLocals := 3, code := jdk_65_method_132_code, exceptionTable := #[], attributes := #[] }
def k21m2 : Method := { name := "copyOfRange", desc := "([BII)[B", sig := { parameters := [(.array .byte), .int, .int], returnType := some (.array .byte) }, accessFlags := 9, code := some k21c2 }
def k21c3 : Code := { maxStack := 6, maxLocals := 5, code := jdk_65_method_133_code, exceptionTable := #[], attributes := #[] }
def k21m3 : Method := { name := "copyOfRangeByte", desc := "([BII)[B", sig := { parameters := [(.array .byte), .int, .int], returnType := some (.array .byte) }, accessFlags := 10, code := some k21c3 }
/-- java/util/Arrays -/
def k21 : Class := { plain "java/util/Arrays" (some 0) with
  accessFlags := 49
  interfaces := #[]
  cf := some (fileOf pool21 14 #[.nestMembers #[975, 375, 113, 74]] #[{ accessFlags := 2, nameIndex := 5, descriptorIndex := 6, attributes := #[] }, { accessFlags := 10, nameIndex := 345, descriptorIndex := 346, attributes := #[] }, { accessFlags := 9, nameIndex := 139, descriptorIndex := 342, attributes := #[] }, { accessFlags := 10, nameIndex := 341, descriptorIndex := 342, attributes := #[] }] 49 2 #[] #[{ accessFlags := 26, nameIndex := 715, descriptorIndex := 716, attributes := #[] }, { accessFlags := 26, nameIndex := 719, descriptorIndex := 716, attributes := #[] }, { accessFlags := 4120, nameIndex := 445, descriptorIndex := 117, attributes := #[] }])
  fields := #[{ name := "MIN_ARRAY_SORT_GRAN", type := .int, accessFlags := 26, slot := 0, constantValue := 0 }, { name := "INSERTIONSORT_THRESHOLD", type := .int, accessFlags := 26, slot := 1, constantValue := 0 }, { name := "$assertionsDisabled", type := .boolean, accessFlags := 4120, slot := 2, constantValue := 0 }]
  methods := #[k21m0, k21m1, k21m2, k21m3]
  instanceTypes := #[]
  staticTypes := #[.int, .int, .boolean]
  resolved := Array.replicate 1029 none
  statics := none }

def pool22 : Array CpInfo := pool [(1, .class_ 2), (0, u "java/lang/Math"), (1, .class_ 6), (1, u "java/lang/Object"), (0, u "<init>"), (0, u "()V"), (89, .class_ 100), (1, u "java/lang/Math$RandomNumberGeneratorHolder"), (71, u "negativeZeroFloatBits"), (0, u "J"), (2, u "negativeZeroDoubleBits"), (24, u "min"), (43, u "$assertionsDisabled"), (0, u "Z"), (88, u "(II)I"), (2, u "twoToTheDoubleScaleDown"), (0, u "D"), (4, u "twoToTheDoubleScaleUp"), (9, u "E"), (3, u "PI"), (2, u "TAU"), (2, u "DEGREES_TO_RADIANS"), (0, u "RADIANS_TO_DEGREES")] 94

def k22m0 : Method := { name := "<init>", desc := "()V", sig := { parameters := [], returnType := none }, accessFlags := 2, code := none }
def k22c1 : Code := { maxStack := 2, maxLocals := 2, code := jdk_29_method_69_code, exceptionTable := #[], attributes := #[] }
def k22m1 : Method := { name := "min", desc := "(II)I", sig := { parameters := [.int, .int], returnType := some .int }, accessFlags := 9, code := some k22c1 }
/-- java/lang/Math -/
def k22 : Class := { plain "java/lang/Math" (some 0) with
  accessFlags := 49
  interfaces := #[]
  cf := some (fileOf pool22 1 #[.nestMembers #[98]] #[{ accessFlags := 2, nameIndex := 7, descriptorIndex := 8, attributes := #[] }, { accessFlags := 9, nameIndex := 201, descriptorIndex := 335, attributes := #[] }] 49 4 #[] #[{ accessFlags := 25, nameIndex := 354, descriptorIndex := 339, attributes := #[] }, { accessFlags := 25, nameIndex := 358, descriptorIndex := 339, attributes := #[] }, { accessFlags := 25, nameIndex := 361, descriptorIndex := 339, attributes := #[] }, { accessFlags := 26, nameIndex := 364, descriptorIndex := 339, attributes := #[] }, { accessFlags := 26, nameIndex := 365, descriptorIndex := 339, attributes := #[] }, { accessFlags := 26, nameIndex := 172, descriptorIndex := 173, attributes := #[] }, { accessFlags := 26, nameIndex := 176, descriptorIndex := 173, attributes := #[] }, { accessFlags := 8, nameIndex := 344, descriptorIndex := 339, attributes := #[] }, { accessFlags := 8, nameIndex := 338, descriptorIndex := 339, attributes := #[] }, { accessFlags := 4120, nameIndex := 245, descriptorIndex := 246, attributes := #[] }])
  fields := #[{ name := "E", type := .double, accessFlags := 25, slot := 0, constantValue := 0 }, { name := "PI", type := .double, accessFlags := 25, slot := 1, constantValue := 0 }, { name := "TAU", type := .double, accessFlags := 25, slot := 2, constantValue := 0 }, { name := "DEGREES_TO_RADIANS", type := .double, accessFlags := 26, slot := 3, constantValue := 0 }, { name := "RADIANS_TO_DEGREES", type := .double, accessFlags := 26, slot := 4, constantValue := 0 }, { name := "negativeZeroFloatBits", type := .long, accessFlags := 26, slot := 5, constantValue := 0 }, { name := "negativeZeroDoubleBits", type := .long, accessFlags := 26, slot := 6, constantValue := 0 }, { name := "twoToTheDoubleScaleUp", type := .double, accessFlags := 8, slot := 7, constantValue := 0 }, { name := "twoToTheDoubleScaleDown", type := .double, accessFlags := 8, slot := 8, constantValue := 0 }, { name := "$assertionsDisabled", type := .boolean, accessFlags := 4120, slot := 9, constantValue := 0 }]
  methods := #[k22m0, k22m1]
  instanceTypes := #[]
  staticTypes := #[.double, .double, .double, .double, .double, .long, .long, .double, .double, .boolean]
  resolved := Array.replicate 460 none
  statics := none }

def pool23 : Array CpInfo := pool [(2, .class_ 4), (1, u "java/lang/Object"), (0, u "<init>"), (0, u "()V"), (17, .class_ 26), (1, u "jdk/internal/util/Preconditions"), (6, u "checkIndex"), (21, .class_ 56), (0, u "jdk/internal/util/Preconditions$4"), (57, .class_ 115), (0, u "jdk/internal/util/Preconditions$1"), (7, u "SIOOBE_FORMATTER"), (0, u "Ljava/util/function/BiFunction;"), (0, .class_ 126), (0, u "jdk/internal/util/Preconditions$2"), (3, u "AIOOBE_FORMATTER"), (0, .class_ 132), (0, u "jdk/internal/util/Preconditions$3"), (3, u "IOOBE_FORMATTER"), (41, u "(IILjava/util/function/BiFunction;)I")] 15

def k23m0 : Method := { name := "<init>", desc := "()V", sig := { parameters := [], returnType := none }, accessFlags := 1, code := none }
def k23c1 : Code := { maxStack := 3, maxLocals := 3, code := jdk_41_method_11_code, exceptionTable := #[], attributes := #[] }
def k23m1 : Method := { name := "checkIndex", desc := "(IILjava/util/function/BiFunction;)I", sig := { parameters := [.int, .int, (.object "java/util/function/BiFunction")], returnType := some .int }, accessFlags := 9, code := some k23c1 }
/-- jdk/internal/util/Preconditions -/
def k23 : Class := { plain "jdk/internal/util/Preconditions" (some 0) with
  accessFlags := 33
  interfaces := #[]
  cf := some (fileOf pool23 24 #[.nestMembers #[55, 131, 125, 114]] #[{ accessFlags := 1, nameIndex := 5, descriptorIndex := 6, attributes := #[] }, { accessFlags := 9, nameIndex := 33, descriptorIndex := 178, attributes := #[] }] 33 2 #[] #[{ accessFlags := 25, nameIndex := 123, descriptorIndex := 124, attributes := #[] }, { accessFlags := 25, nameIndex := 130, descriptorIndex := 124, attributes := #[] }, { accessFlags := 25, nameIndex := 136, descriptorIndex := 124, attributes := #[] }])
  fields := #[{ name := "SIOOBE_FORMATTER", type := (.object "java/util/function/BiFunction"), accessFlags := 25, slot := 0, constantValue := 0 }, { name := "AIOOBE_FORMATTER", type := (.object "java/util/function/BiFunction"), accessFlags := 25, slot := 1, constantValue := 0 }, { name := "IOOBE_FORMATTER", type := (.object "java/util/function/BiFunction"), accessFlags := 25, slot := 2, constantValue := 0 }]
  methods := #[k23m0, k23m1]
  instanceTypes := #[]
  staticTypes := #[(.object "java/util/function/BiFunction"), (.object "java/util/function/BiFunction"), (.object "java/util/function/BiFunction")]
  resolved := Array.replicate 194 none
  statics := some 2 }

def pool24 : Array CpInfo := pool [(9, u "<init>"), (6, .class_ 18), (1, u "java/lang/Object"), (0, u "()V"), (1, .class_ 23), (1, u "jdk/internal/util/ArraysSupport"), (0, u "LOG2_ARRAY_LONG_INDEX_SCALE"), (0, u "I"), (2, u "U"), (0, u "Ljdk/internal/misc/Unsafe;"), (8, u "BIG_ENDIAN"), (0, u "Z"), (8, u "LOG2_BYTE_BIT_SIZE"), (4, u "LOG2_ARRAY_INT_INDEX_SCALE"), (54, u "JLA"), (0, u "Ljdk/internal/access/JavaLangAccess;"), (11, u "LOG2_ARRAY_BOOLEAN_INDEX_SCALE"), (9, u "LOG2_ARRAY_BYTE_INDEX_SCALE"), (5, u "LOG2_ARRAY_CHAR_INDEX_SCALE"), (5, u "LOG2_ARRAY_SHORT_INDEX_SCALE"), (18, u "LOG2_ARRAY_FLOAT_INDEX_SCALE"), (24, u "LOG2_ARRAY_DOUBLE_INDEX_SCALE"), (89, u "T_BOOLEAN"), (2, u "T_CHAR"), (1, u "T_FLOAT"), (1, u "T_DOUBLE"), (1, u "T_BYTE"), (1, u "T_SHORT"), (1, u "T_INT"), (1, u "T_LONG"), (1, u "SOFT_MAX_ARRAY_LENGTH")] 83

def k24m0 : Method := { name := "<init>", desc := "()V", sig := { parameters := [], returnType := none }, accessFlags := 2, code := none }
/-- jdk/internal/util/ArraysSupport -/
def k24 : Class := { plain "jdk/internal/util/ArraysSupport" (some 0) with
  accessFlags := 33
  interfaces := #[]
  cf := some (fileOf pool24 21 #[] #[{ accessFlags := 2, nameIndex := 9, descriptorIndex := 19, attributes := #[] }] 33 16 #[] #[{ accessFlags := 24, nameIndex := 28, descriptorIndex := 29, attributes := #[] }, { accessFlags := 26, nameIndex := 38, descriptorIndex := 39, attributes := #[] }, { accessFlags := 25, nameIndex := 121, descriptorIndex := 25, attributes := #[] }, { accessFlags := 25, nameIndex := 131, descriptorIndex := 25, attributes := #[] }, { accessFlags := 25, nameIndex := 137, descriptorIndex := 25, attributes := #[] }, { accessFlags := 25, nameIndex := 143, descriptorIndex := 25, attributes := #[] }, { accessFlags := 25, nameIndex := 53, descriptorIndex := 25, attributes := #[] }, { accessFlags := 25, nameIndex := 24, descriptorIndex := 25, attributes := #[] }, { accessFlags := 25, nameIndex := 162, descriptorIndex := 25, attributes := #[] }, { accessFlags := 25, nameIndex := 187, descriptorIndex := 25, attributes := #[] }, { accessFlags := 26, nameIndex := 48, descriptorIndex := 25, attributes := #[] }, { accessFlags := 25, nameIndex := 277, descriptorIndex := 25, attributes := #[] }, { accessFlags := 25, nameIndex := 280, descriptorIndex := 25, attributes := #[] }, { accessFlags := 25, nameIndex := 282, descriptorIndex := 25, attributes := #[] }, { accessFlags := 25, nameIndex := 284, descriptorIndex := 25, attributes := #[] }, { accessFlags := 25, nameIndex := 286, descriptorIndex := 25, attributes := #[] }, { accessFlags := 25, nameIndex := 288, descriptorIndex := 25, attributes := #[] }, { accessFlags := 25, nameIndex := 290, descriptorIndex := 25, attributes := #[] }, { accessFlags := 25, nameIndex := 292, descriptorIndex := 25, attributes := #[] }, { accessFlags := 26, nameIndex := 108, descriptorIndex := 109, attributes := #[] }, { accessFlags := 25, nameIndex := 294, descriptorIndex := 25, attributes := #[] }])
  fields := #[{ name := "U", type := (.object "jdk/internal/misc/Unsafe"), accessFlags := 24, slot := 0, constantValue := 0 }, { name := "BIG_ENDIAN", type := .boolean, accessFlags := 26, slot := 1, constantValue := 0 }, { name := "LOG2_ARRAY_BOOLEAN_INDEX_SCALE", type := .int, accessFlags := 25, slot := 2, constantValue := 0 }, { name := "LOG2_ARRAY_BYTE_INDEX_SCALE", type := .int, accessFlags := 25, slot := 3, constantValue := 0 }, { name := "LOG2_ARRAY_CHAR_INDEX_SCALE", type := .int, accessFlags := 25, slot := 4, constantValue := 0 }, { name := "LOG2_ARRAY_SHORT_INDEX_SCALE", type := .int, accessFlags := 25, slot := 5, constantValue := 0 }, { name := "LOG2_ARRAY_INT_INDEX_SCALE", type := .int, accessFlags := 25, slot := 6, constantValue := 0 }, { name := "LOG2_ARRAY_LONG_INDEX_SCALE", type := .int, accessFlags := 25, slot := 7, constantValue := 0 }, { name := "LOG2_ARRAY_FLOAT_INDEX_SCALE", type := .int, accessFlags := 25, slot := 8, constantValue := 0 }, { name := "LOG2_ARRAY_DOUBLE_INDEX_SCALE", type := .int, accessFlags := 25, slot := 9, constantValue := 0 }, { name := "LOG2_BYTE_BIT_SIZE", type := .int, accessFlags := 26, slot := 10, constantValue := 0 }, { name := "T_BOOLEAN", type := .int, accessFlags := 25, slot := 11, constantValue := 0 }, { name := "T_CHAR", type := .int, accessFlags := 25, slot := 12, constantValue := 0 }, { name := "T_FLOAT", type := .int, accessFlags := 25, slot := 13, constantValue := 0 }, { name := "T_DOUBLE", type := .int, accessFlags := 25, slot := 14, constantValue := 0 }, { name := "T_BYTE", type := .int, accessFlags := 25, slot := 15, constantValue := 0 }, { name := "T_SHORT", type := .int, accessFlags := 25, slot := 16, constantValue := 0 }, { name := "T_INT", type := .int, accessFlags := 25, slot := 17, constantValue := 0 }, { name := "T_LONG", type := .int, accessFlags := 25, slot := 18, constantValue := 0 }, { name := "JLA", type := (.object "jdk/internal/access/JavaLangAccess"), accessFlags := 26, slot := 19, constantValue := 0 }, { name := "SOFT_MAX_ARRAY_LENGTH", type := .int, accessFlags := 25, slot := 20, constantValue := 0 }]
  methods := #[k24m0]
  instanceTypes := #[]
  staticTypes := #[(.object "jdk/internal/misc/Unsafe"), .boolean, .int, .int, .int, .int, .int, .int, .int, .int, .int, .int, .int, .int, .int, .int, .int, .int, .int, (.object "jdk/internal/access/JavaLangAccess"), .int]
  resolved := Array.replicate 378 none
  statics := none }

def pool25 : Array CpInfo := pool [(1, u "java/lang/Cloneable"), (0, .class_ 1), (0, u "java/lang/Object"), (0, .class_ 3)] 3

/-- java/lang/Cloneable -/
def k25 : Class := { plain "java/lang/Cloneable" (some 0) with
  accessFlags := 1537
  interfaces := #[]
  cf := some (fileOf pool25 2 #[] #[] 1537 4 #[] #[])
  fields := #[]
  methods := #[]
  instanceTypes := #[]
  staticTypes := #[]
  resolved := Array.replicate 8 none
  statics := none }

/-- the primitive byte -/
def k26 : Class := { plain "byte" none with kind := .primitive 'B', accessFlags := 0x411 }
/-- [B -/
def k27 : Class := { plain "[B" (some 0) with kind := .array 26 .byte, interfaces := #[25, 4], accessFlags := 1041 }

/-- the primitive char -/
def k28 : Class := { plain "char" none with kind := .primitive 'C', accessFlags := 0x411 }
/-- [C -/
def k29 : Class := { plain "[C" (some 0) with kind := .array 28 .char, interfaces := #[25, 4], accessFlags := 1041 }

/-- the primitive int -/
def k30 : Class := { plain "int" none with kind := .primitive 'I', accessFlags := 0x411 }
/-- [I -/
def k31 : Class := { plain "[I" (some 0) with kind := .array 30 .int, interfaces := #[25, 4], accessFlags := 1041 }

def classes0 : Array Class := #[k0, k1, k2, k3, k4, k5, k6, k7, k8, k9, k10, k11, k12, k13, k14, k15, k16, k17, k18, k19, k20, k21, k22, k23, k24, k25, k26, k27, k28, k29, k30, k31]
/-- the class that the rule has made for the site at 3 of com/example/grid_job_scheduler/gridjobscheduler/Keys.requireNotBlank -/
def k32 : Class := Jvm.LamKit.madeRec { classes := classes0 } "com/example/grid_job_scheduler/gridjobscheduler/Keys" (Jvm.Lambda.Shape.mk "java/util/function/Supplier" "get" (Jvm.ClassFile.MethodDescriptor.mk ([] : List Jvm.ClassFile.FieldType) (Option.some (Jvm.ClassFile.FieldType.object "java/lang/Object"))) ([(Jvm.ClassFile.FieldType.object "java/lang/String"), (Jvm.ClassFile.FieldType.object "java/lang/String")] : List Jvm.ClassFile.FieldType) (6 : Nat) "com/example/grid_job_scheduler/gridjobscheduler/Keys" "lambda$requireNotBlank$0" (Jvm.ClassFile.MethodDescriptor.mk ([(Jvm.ClassFile.FieldType.object "java/lang/String"), (Jvm.ClassFile.FieldType.object "java/lang/String")] : List Jvm.ClassFile.FieldType) (Option.some (Jvm.ClassFile.FieldType.object "java/lang/String"))) false (Jvm.ClassFile.MethodDescriptor.mk ([] : List Jvm.ClassFile.FieldType) (Option.some (Jvm.ClassFile.FieldType.object "java/lang/String")))) 32

def heap : Heap := #[{ cls := 9, slots := #[.long 0, .int 1, .null, .int 0, .null, .int 0, .int 0], vm := .statics 9 },
  { cls := 16, slots := #[.null, .null, .ref 4, .ref 5, .null], vm := .statics 16 },
  { cls := 23, slots := #[.null, .null, .null], vm := .statics 23 },
  { cls := 24, slots := #[], vm := .none },
  { cls := 16, slots := #[], vm := .none },
  { cls := 31, slots := #[.int 1207963663, .int 1207963663, .int 1207963663, .int 1207963663, .int 1207963663, .int 1207963663, .int 1207963663, .int 1207963663, .int 1207963663, .int 1476411407, .int 1342193679, .int 1476411407, .int 1610629135, .int 1342193679, .int 1207963663, .int 1207963663, .int 1207963663, .int 1207963663, .int 1207963663, .int 1207963663, .int 1207963663, .int 1207963663, .int 1207963663, .int 1207963663, .int 1207963663, .int 1207963663, .int 1207963663, .int 1207963663, .int 1342193679, .int 1342193679, .int 1342193679, .int 1476411407, .int 1610629132, .int 1744830488, .int 1744830488, .int 671088664, .int 671113242, .int 671088664, .int 1744830488, .int 1744830488, .int (-402653163), .int (-402653162), .int 1744830488, .int 536870937, .int 939524120, .int 536870932, .int 939524120, .int 939524120, .int 402667017, .int 402667017, .int 402667017, .int 402667017, .int 402667017, .int 402667017, .int 402667017, .int 402667017, .int 402667017, .int 402667017, .int 939524120, .int 1744830488, .int (-402653159), .int 1744830489, .int (-402653159), .int 1744830488, .int 1744830488, .int 8552417, .int 8552417, .int 8552417, .int 8552417, .int 8552417, .int 8552417, .int 8552417, .int 8552417, .int 8552417, .int 8552417, .int 8552417, .int 8552417, .int 8552417, .int 8552417, .int 8552417, .int 8552417, .int 8552417, .int 8552417, .int 8552417, .int 8552417, .int 8552417, .int 8552417, .int 8552417, .int 8552417, .int 8552417, .int 8552417, .int (-402653163), .int 1744830488, .int (-402653162), .int 1744830491, .int 1744850967, .int 1744830491, .int 8486882, .int 8486882, .int 8486882, .int 8486882, .int 8486882, .int 8486882, .int 8486882, .int 8486882, .int 8486882, .int 8486882, .int 8486882, .int 8486882, .int 8486882, .int 8486882, .int 8486882, .int 8486882, .int 8486882, .int 8486882, .int 8486882, .int 8486882, .int 8486882, .int 8486882, .int 8486882, .int 8486882, .int 8486882, .int 8486882, .int (-402653163), .int 1744830489, .int (-402653162), .int 1744830489, .int 1207963663, .int 1207963663, .int 1207963663, .int 1207963663, .int 1207963663, .int 1207963663, .int 1342181391, .int 1207963663, .int 1207963663, .int 1207963663, .int 1207963663, .int 1207963663, .int 1207963663, .int 1207963663, .int 1207963663, .int 1207963663, .int 1207963663, .int 1207963663, .int 1207963663, .int 1207963663, .int 1207963663, .int 1207963663, .int 1207963663, .int 1207963663, .int 1207963663, .int 1207963663, .int 1207963663, .int 1207963663, .int 1207963663, .int 1207963663, .int 1207963663, .int 1207963663, .int 1207963663, .int 939524108, .int 1744830488, .int 671113242, .int 671113242, .int 671113242, .int 671113242, .int 1744830492, .int 1744830488, .int 1744830491, .int 1744830492, .int 28677, .int (-402653155), .int 1744830489, .int 1207963664, .int 1744830492, .int 1744830491, .int 671088668, .int 671088665, .int 402654731, .int 402654731, .int 1744830491, .int 134049794, .int 1744830488, .int 1744830488, .int 1744830491, .int 402654475, .int 28677, .int (-402653154), .int 1744832523, .int 1744832523, .int 1744832523, .int 1744830488, .int 8548353, .int 8548353, .int 8548353, .int 8548353, .int 8548353, .int 8548353, .int 8548353, .int 8548353, .int 8548353, .int 8548353, .int 8548353, .int 8548353, .int 8548353, .int 8548353, .int 8548353, .int 8548353, .int 8548353, .int 8548353, .int 8548353, .int 8548353, .int 8548353, .int 8548353, .int 8548353, .int 1744830489, .int 8548353, .int 8548353, .int 8548353, .int 8548353, .int 8548353, .int 8548353, .int 8548353, .int 134049794, .int 8482818, .int 8482818, .int 8482818, .int 8482818, .int 8482818, .int 8482818, .int 8482818, .int 8482818, .int 8482818, .int 8482818, .int 8482818, .int 8482818, .int 8482818, .int 8482818, .int 8482818, .int 8482818, .int 8482818, .int 8482818, .int 8482818, .int 8482818, .int 8482818, .int 8482818, .int 8482818, .int 1744830489, .int 8482818, .int 8482818, .int 8482818, .int 8482818, .int 8482818, .int 8482818, .int 8482818, .int 102592514], vm := .none }]
def classes : Array Class := #[k0, k1, k2, k3, k4, k5, k6, k7, k8, k9, k10, k11, k12, k13, k14, k15, k16, k17, k18, k19, k20, k21, k22, k23, k24, k25, k26, k27, k28, k29, k30, k31, k32]
def interned : List (Array UInt16 × Addr) := []
def slotsUsed : Nat := 271
def theMethod : MethodId := ⟨1, 5⟩
def args0 : Array Value := #[.int 5, .int 6, .int 7]
def aboutOver (below : List Frame) : State where
  vm := { classes := classes, interned := interned.toArray }
  heap := heap
  slotsUsed := slotsUsed
  threads := #[{ frames := .invoking theMethod args0 :: below }]
def below0 : List Frame := [.native { method := ⟨0, 0⟩, args := #[] }]
def about1 : State := aboutOver below0
def p0 : Program := .bare "" "" ""
def e0 : Env := launch0.env 0 0 0
theorem w_frames : about1.frames = Frame.invoking theMethod args0 :: below0 := rfl
set_option maxRecDepth 65536 in
theorem w_args : argsFit about1.vm theMethod args0 = true := by decide +kernel
set_option maxRecDepth 65536 in
theorem w_heap : heapFits about1 = true := by decide +kernel
set_option maxRecDepth 65536 in
theorem w_runnable : about1.curStatus? = some .runnable := by decide +kernel
set_option maxRecDepth 65536 in
theorem w_alone : about1.alone = true := by decide +kernel
set_option maxRecDepth 65536 in
theorem w_named : about1.methodNamed? x = some theMethod := by decide +kernel
set_option maxRecDepth 65536 in
theorem w_hears : about1.hears theMethod below0 = true := by decide +kernel
set_option maxRecDepth 65536 in
theorem w_ripe : about1.ripe theMethod args0 below0 = true := by decide +kernel
theorem w_running : about1.status = .running := rfl
set_option maxRecDepth 65536 in
theorem w_room : about1.hasRoom e0.platform room_1 = true :=
  launch0.hasRoom_least _ room_1 (by decide +kernel) (by decide +kernel) (by decide +kernel) (by decide +kernel) (by decide +kernel) (by decide +kernel)
theorem allAtoms_all (ts : List Jvm.Cond) (a : Array Jvm.Value) (st : Jvm.State) : (allAtoms ts).before a st = ts.all (fun c => c.before a st) := by
  induction ts with
  | nil => rfl
  | cons c t ih =>
    show (Jvm.Cond.and c (allAtoms t)).before a st = _
    rw [Jvm.Cond.before_and, ih, List.all_cons]
def words1 : List Jvm.Cond := Jvm.Cond.code x code maxLocals ret :: tables_1
/-- a 'code' word, met by the world's own term for the bytes: nothing is compared byte by byte -/
theorem code_word {y : MethodName} {bytes : ByteArray} {mx : Nat} {rt : Option FieldType} {a : Array Value} {s : State} {m : MethodId} {meth : Method} {c : Code} (h1 : s.methodNamed? y = some m) (h2 : s.vm.method? m = some meth) (h3 : meth.code = some c) (h4 : c.code = bytes)
    (h5 : (c.maxLocals == mx && c.exceptionTable.isEmpty && decide (c.maxStack ≤ mostOperands) && decide (meth.sig.returnType = rt) && !meth.locks && decide (parseMethodDescriptor y.desc = some meth.sig)) = true) : (Jvm.Cond.code y bytes mx rt).before a s = true := by
  simp only [Bool.and_eq_true, beq_iff_eq, Bool.not_eq_true', decide_eq_true_eq] at h5
  obtain ⟨⟨⟨⟨⟨g1, g2⟩, g3⟩, g4⟩, g5⟩, g6⟩ := h5
  simp [Cond.before, Cond.holds, Cond.value, h1, h2, h3, h4, g1, g2, g3, g4, g5, g6]
def isCode : Jvm.Cond → Bool
  | .code _ _ _ _ => true
  | _ => false
theorem all_split {L : List Jvm.Cond} {P : Jvm.Cond → Bool} (h1 : L.all (fun c => isCode c || P c) = true) (h2 : ∀ c ∈ L.filter isCode, P c = true) : L.all P = true := by
  refine List.all_eq_true.mpr fun c hc => ?_
  have h := List.all_eq_true.mp h1 c hc
  rcases Bool.eq_false_or_eq_true (isCode c) with hi | hi
  · exact h2 c (List.mem_filter.mpr ⟨hc, hi⟩)
  · simpa [hi] using h
set_option maxRecDepth 65536 in
theorem w_c0 : (Jvm.Cond.code x code maxLocals ret).before args0 about1 = true := code_word (m := ⟨1, 5⟩) (meth := k1m5) (c := k1c5) (by decide +kernel) rfl rfl rfl (by decide +kernel)
set_option maxRecDepth 65536 in
theorem w_c1 : (Jvm.Cond.code ({ cls := "com/example/grid_job_scheduler/gridjobscheduler/JobKeyToStringPinLaw", name := "blank", desc := "(II)Z" } : Jvm.MethodName) method_4_code (2 : Nat) (Option.some Jvm.ClassFile.FieldType.boolean)).before args0 about1 = true := code_word (m := ⟨1, 3⟩) (meth := k1m3) (c := k1c3) (by decide +kernel) rfl rfl rfl (by decide +kernel)
set_option maxRecDepth 65536 in
theorem w_c2 : (Jvm.Cond.code ({ cls := "com/example/grid_job_scheduler/gridjobscheduler/JobKeyToStringPinLaw", name := "ch", desc := "(II)C" } : Jvm.MethodName) method_2_code (2 : Nat) (Option.some Jvm.ClassFile.FieldType.char)).before args0 about1 = true := code_word (m := ⟨1, 1⟩) (meth := k1m1) (c := k1c1) (by decide +kernel) rfl rfl rfl (by decide +kernel)
set_option maxRecDepth 65536 in
theorem w_c3 : (Jvm.Cond.code ({ cls := "com/example/grid_job_scheduler/gridjobscheduler/JobKeyToStringPinLaw", name := "ws", desc := "(C)Z" } : Jvm.MethodName) method_3_code (1 : Nat) (Option.some Jvm.ClassFile.FieldType.boolean)).before args0 about1 = true := code_word (m := ⟨1, 2⟩) (meth := k1m2) (c := k1c2) (by decide +kernel) rfl rfl rfl (by decide +kernel)
set_option maxRecDepth 65536 in
theorem w_c4 : (Jvm.Cond.code ({ cls := "com/example/grid_job_scheduler/gridjobscheduler/JobKeyToStringPinLaw", name := "mk", desc := "(II)Ljava/lang/String;" } : Jvm.MethodName) method_5_code (6 : Nat) (Option.some (Jvm.ClassFile.FieldType.object "java/lang/String"))).before args0 about1 = true := code_word (m := ⟨1, 4⟩) (meth := k1m4) (c := k1c4) (by decide +kernel) rfl rfl rfl (by decide +kernel)
set_option maxRecDepth 65536 in
theorem w_c5 : (Jvm.Cond.code ({ cls := "java/lang/String", name := "<init>", desc := "([C)V" } : Jvm.MethodName) jdk_42_method_3_code (2 : Nat) (Option.none : Option Jvm.ClassFile.FieldType)).before args0 about1 = true := code_word (m := ⟨9, 1⟩) (meth := k9m1) (c := k9c1) (by decide +kernel) rfl rfl rfl (by decide +kernel)
set_option maxRecDepth 65536 in
theorem w_c6 : (Jvm.Cond.code ({ cls := "java/lang/String", name := "<init>", desc := "([CIILjava/lang/Void;)V" } : Jvm.MethodName) jdk_42_method_149_code (6 : Nat) (Option.none : Option Jvm.ClassFile.FieldType)).before args0 about1 = true := code_word (m := ⟨9, 8⟩) (meth := k9m8) (c := k9c8) (by decide +kernel) rfl rfl rfl (by decide +kernel)
set_option maxRecDepth 65536 in
theorem w_c7 : (Jvm.Cond.code ({ cls := "java/lang/Object", name := "<init>", desc := "()V" } : Jvm.MethodName) object_method_1_code (1 : Nat) (Option.none : Option Jvm.ClassFile.FieldType)).before args0 about1 = true := code_word (m := ⟨0, 0⟩) (meth := k0m0) (c := k0c0) (by decide +kernel) rfl rfl rfl (by decide +kernel)
set_option maxRecDepth 65536 in
theorem w_c8 : (Jvm.Cond.code ({ cls := "java/lang/StringUTF16", name := "compress", desc := "([CII)[B" } : Jvm.MethodName) jdk_52_method_16_code (6 : Nat) (Option.some (Jvm.ClassFile.FieldType.array Jvm.ClassFile.FieldType.byte))).before args0 about1 = true := code_word (m := ⟨10, 2⟩) (meth := k10m2) (c := k10c2) (by decide +kernel) rfl rfl rfl (by decide +kernel)
set_option maxRecDepth 65536 in
theorem w_c9 : (Jvm.Cond.code ({ cls := "java/lang/StringUTF16", name := "compress", desc := "([CI[BII)I" } : Jvm.MethodName) jdk_52_method_21_code (7 : Nat) (Option.some Jvm.ClassFile.FieldType.int)).before args0 about1 = true := code_word (m := ⟨10, 3⟩) (meth := k10m3) (c := k10c3) (by decide +kernel) rfl rfl rfl (by decide +kernel)
set_option maxRecDepth 65536 in
theorem w_c10 : (Jvm.Cond.code ({ cls := "java/lang/StringUTF16", name := "coderFromArrayLen", desc := "([BI)B" } : Jvm.MethodName) jdk_52_method_15_code (2 : Nat) (Option.some Jvm.ClassFile.FieldType.byte)).before args0 about1 = true := code_word (m := ⟨10, 1⟩) (meth := k10m1) (c := k10c1) (by decide +kernel) rfl rfl rfl (by decide +kernel)
set_option maxRecDepth 65536 in
theorem w_c11 : (Jvm.Cond.code ({ cls := "com/example/grid_job_scheduler/gridjobscheduler/JobKey", name := "<init>", desc := "(Ljava/lang/String;Ljava/lang/String;)V" } : Jvm.MethodName) prog_16_method_1_code (3 : Nat) (Option.none : Option Jvm.ClassFile.FieldType)).before args0 about1 = true := code_word (m := ⟨3, 0⟩) (meth := k3m0) (c := k3c0) (by decide +kernel) rfl rfl rfl (by decide +kernel)
set_option maxRecDepth 65536 in
theorem w_c12 : (Jvm.Cond.code ({ cls := "java/lang/Record", name := "<init>", desc := "()V" } : Jvm.MethodName) jdk_30_method_1_code (1 : Nat) (Option.none : Option Jvm.ClassFile.FieldType)).before args0 about1 = true := code_word (m := ⟨2, 0⟩) (meth := k2m0) (c := k2c0) (by decide +kernel) rfl rfl rfl (by decide +kernel)
set_option maxRecDepth 65536 in
theorem w_c13 : (Jvm.Cond.code ({ cls := "com/example/grid_job_scheduler/gridjobscheduler/Keys", name := "requireGroupAndName", desc := "(Ljava/lang/String;Ljava/lang/String;Ljava/lang/String;)V" } : Jvm.MethodName) prog_21_method_2_code (3 : Nat) (Option.none : Option Jvm.ClassFile.FieldType)).before args0 about1 = true := code_word (m := ⟨11, 1⟩) (meth := k11m1) (c := k11c1) (by decide +kernel) rfl rfl rfl (by decide +kernel)
set_option maxRecDepth 65536 in
theorem w_c14 : (Jvm.Cond.code ({ cls := "com/example/grid_job_scheduler/gridjobscheduler/Keys", name := "requireNotBlank", desc := "(Ljava/lang/String;Ljava/lang/String;Ljava/lang/String;)V" } : Jvm.MethodName) prog_21_method_3_code (3 : Nat) (Option.none : Option Jvm.ClassFile.FieldType)).before args0 about1 = true := code_word (m := ⟨11, 2⟩) (meth := k11m2) (c := k11c2) (by decide +kernel) rfl rfl rfl (by decide +kernel)
set_option maxRecDepth 65536 in
theorem w_c15 : (Jvm.Cond.code ({ cls := "java/util/Objects", name := "requireNonNull", desc := "(Ljava/lang/Object;Ljava/util/function/Supplier;)Ljava/lang/Object;" } : Jvm.MethodName) jdk_31_method_16_code (2 : Nat) (Option.some (Jvm.ClassFile.FieldType.object "java/lang/Object"))).before args0 about1 = true := code_word (m := ⟨13, 1⟩) (meth := k13m1) (c := k13c1) (by decide +kernel) rfl rfl rfl (by decide +kernel)
set_option maxRecDepth 65536 in
theorem w_c16 : (Jvm.Cond.code ({ cls := "java/lang/String", name := "isBlank", desc := "()Z" } : Jvm.MethodName) jdk_42_method_117_code (1 : Nat) (Option.some Jvm.ClassFile.FieldType.boolean)).before args0 about1 = true := code_word (m := ⟨9, 5⟩) (meth := k9m5) (c := k9c5) (by decide +kernel) rfl rfl rfl (by decide +kernel)
set_option maxRecDepth 65536 in
theorem w_c17 : (Jvm.Cond.code ({ cls := "java/lang/String", name := "indexOfNonWhitespace", desc := "()I" } : Jvm.MethodName) jdk_42_method_120_code (1 : Nat) (Option.some Jvm.ClassFile.FieldType.int)).before args0 about1 = true := code_word (m := ⟨9, 6⟩) (meth := k9m6) (c := k9c6) (by decide +kernel) rfl rfl rfl (by decide +kernel)
set_option maxRecDepth 65536 in
theorem w_c18 : (Jvm.Cond.code ({ cls := "java/lang/String", name := "isLatin1", desc := "()Z" } : Jvm.MethodName) jdk_42_method_154_code (1 : Nat) (Option.some Jvm.ClassFile.FieldType.boolean)).before args0 about1 = true := code_word (m := ⟨9, 11⟩) (meth := k9m11) (c := k9c11) (by decide +kernel) rfl rfl rfl (by decide +kernel)
set_option maxRecDepth 65536 in
theorem w_c19 : (Jvm.Cond.code ({ cls := "java/lang/StringLatin1", name := "indexOfNonWhitespace", desc := "([B)I" } : Jvm.MethodName) jdk_43_method_37_code (4 : Nat) (Option.some Jvm.ClassFile.FieldType.int)).before args0 about1 = true := code_word (m := ⟨14, 2⟩) (meth := k14m2) (c := k14c2) (by decide +kernel) rfl rfl rfl (by decide +kernel)
set_option maxRecDepth 65536 in
theorem w_c20 : (Jvm.Cond.code ({ cls := "java/lang/StringLatin1", name := "getChar", desc := "([BI)C" } : Jvm.MethodName) jdk_43_method_44_code (2 : Nat) (Option.some Jvm.ClassFile.FieldType.char)).before args0 about1 = true := code_word (m := ⟨14, 3⟩) (meth := k14m3) (c := k14c3) (by decide +kernel) rfl rfl rfl (by decide +kernel)
set_option maxRecDepth 65536 in
theorem w_c21 : (Jvm.Cond.code ({ cls := "java/lang/CharacterDataLatin1", name := "isWhitespace", desc := "(I)Z" } : Jvm.MethodName) jdk_116_method_26_code (3 : Nat) (Option.some Jvm.ClassFile.FieldType.boolean)).before args0 about1 = true := code_word (m := ⟨16, 1⟩) (meth := k16m1) (c := k16c1) (by decide +kernel) rfl rfl rfl (by decide +kernel)
set_option maxRecDepth 65536 in
theorem w_c22 : (Jvm.Cond.code ({ cls := "java/lang/CharacterDataLatin1", name := "getProperties", desc := "(I)I" } : Jvm.MethodName) jdk_116_method_1_code (4 : Nat) (Option.some Jvm.ClassFile.FieldType.int)).before args0 about1 = true := code_word (m := ⟨16, 0⟩) (meth := k16m0) (c := k16c0) (by decide +kernel) rfl rfl rfl (by decide +kernel)
set_option maxRecDepth 65536 in
theorem w_c23 : (Jvm.Cond.code ({ cls := "java/lang/String", name := "length", desc := "()I" } : Jvm.MethodName) jdk_42_method_54_code (1 : Nat) (Option.some Jvm.ClassFile.FieldType.int)).before args0 about1 = true := code_word (m := ⟨9, 3⟩) (meth := k9m3) (c := k9c3) (by decide +kernel) rfl rfl rfl (by decide +kernel)
set_option maxRecDepth 65536 in
theorem w_c24 : (Jvm.Cond.code ({ cls := "java/lang/String", name := "coder", desc := "()B" } : Jvm.MethodName) jdk_42_method_152_code (1 : Nat) (Option.some Jvm.ClassFile.FieldType.byte)).before args0 about1 = true := code_word (m := ⟨9, 10⟩) (meth := k9m10) (c := k9c10) (by decide +kernel) rfl rfl rfl (by decide +kernel)
set_option maxRecDepth 65536 in
theorem w_c25 : (Jvm.Cond.code ({ cls := "com/example/grid_job_scheduler/gridjobscheduler/JobKey", name := "toString", desc := "()Ljava/lang/String;" } : Jvm.MethodName) prog_16_method_3_code (1 : Nat) (Option.some (Jvm.ClassFile.FieldType.object "java/lang/String"))).before args0 about1 = true := code_word (m := ⟨3, 1⟩) (meth := k3m1) (c := k3c1) (by decide +kernel) rfl rfl rfl (by decide +kernel)
set_option maxRecDepth 65536 in
theorem w_c26 : (Jvm.Cond.code ({ cls := "com/example/grid_job_scheduler/gridjobscheduler/Keys", name := "toString", desc := "(Ljava/lang/String;Ljava/lang/String;)Ljava/lang/String;" } : Jvm.MethodName) prog_21_method_4_code (2 : Nat) (Option.some (Jvm.ClassFile.FieldType.object "java/lang/String"))).before args0 about1 = true := code_word (m := ⟨11, 3⟩) (meth := k11m3) (c := k11c3) (by decide +kernel) rfl rfl rfl (by decide +kernel)
set_option maxRecDepth 65536 in
theorem w_c27 : (Jvm.Cond.code ({ cls := "java/lang/StringBuilder", name := "<init>", desc := "()V" } : Jvm.MethodName) jdk_67_method_1_code (1 : Nat) (Option.none : Option Jvm.ClassFile.FieldType)).before args0 about1 = true := code_word (m := ⟨19, 0⟩) (meth := k19m0) (c := k19c0) (by decide +kernel) rfl rfl rfl (by decide +kernel)
set_option maxRecDepth 65536 in
theorem w_c28 : (Jvm.Cond.code ({ cls := "java/lang/AbstractStringBuilder", name := "<init>", desc := "(I)V" } : Jvm.MethodName) jdk_68_method_2_code (2 : Nat) (Option.none : Option Jvm.ClassFile.FieldType)).before args0 about1 = true := code_word (m := ⟨18, 1⟩) (meth := k18m1) (c := k18c1) (by decide +kernel) rfl rfl rfl (by decide +kernel)
set_option maxRecDepth 65536 in
theorem w_c29 : (Jvm.Cond.code ({ cls := "java/lang/StringBuilder", name := "append", desc := "(Ljava/lang/String;)Ljava/lang/StringBuilder;" } : Jvm.MethodName) jdk_67_method_7_code (2 : Nat) (Option.some (Jvm.ClassFile.FieldType.object "java/lang/StringBuilder"))).before args0 about1 = true := code_word (m := ⟨19, 1⟩) (meth := k19m1) (c := k19c1) (by decide +kernel) rfl rfl rfl (by decide +kernel)
set_option maxRecDepth 65536 in
theorem w_c30 : (Jvm.Cond.code ({ cls := "java/lang/AbstractStringBuilder", name := "append", desc := "(Ljava/lang/String;)Ljava/lang/AbstractStringBuilder;" } : Jvm.MethodName) jdk_68_method_22_code (3 : Nat) (Option.some (Jvm.ClassFile.FieldType.object "java/lang/AbstractStringBuilder"))).before args0 about1 = true := code_word (m := ⟨18, 4⟩) (meth := k18m4) (c := k18c4) (by decide +kernel) rfl rfl rfl (by decide +kernel)
set_option maxRecDepth 65536 in
theorem w_c31 : (Jvm.Cond.code ({ cls := "java/lang/AbstractStringBuilder", name := "ensureCapacityInternal", desc := "(I)V" } : Jvm.MethodName) jdk_68_method_9_code (3 : Nat) (Option.none : Option Jvm.ClassFile.FieldType)).before args0 about1 = true := code_word (m := ⟨18, 3⟩) (meth := k18m3) (c := k18c3) (by decide +kernel) rfl rfl rfl (by decide +kernel)
set_option maxRecDepth 65536 in
theorem w_c32 : (Jvm.Cond.code ({ cls := "java/lang/AbstractStringBuilder", name := "putStringAt", desc := "(ILjava/lang/String;)V" } : Jvm.MethodName) jdk_68_method_73_code (3 : Nat) (Option.none : Option Jvm.ClassFile.FieldType)).before args0 about1 = true := code_word (m := ⟨18, 8⟩) (meth := k18m8) (c := k18c8) (by decide +kernel) rfl rfl rfl (by decide +kernel)
set_option maxRecDepth 65536 in
theorem w_c33 : (Jvm.Cond.code ({ cls := "java/lang/AbstractStringBuilder", name := "inflateIfNeededFor", desc := "(Ljava/lang/String;)V" } : Jvm.MethodName) jdk_68_method_71_code (2 : Nat) (Option.none : Option Jvm.ClassFile.FieldType)).before args0 about1 = true := code_word (m := ⟨18, 7⟩) (meth := k18m7) (c := k18c7) (by decide +kernel) rfl rfl rfl (by decide +kernel)
set_option maxRecDepth 65536 in
theorem w_c34 : (Jvm.Cond.code ({ cls := "java/lang/String", name := "getBytes", desc := "([BIB)V" } : Jvm.MethodName) jdk_42_method_147_code (4 : Nat) (Option.none : Option Jvm.ClassFile.FieldType)).before args0 about1 = true := code_word (m := ⟨9, 7⟩) (meth := k9m7) (c := k9c7) (by decide +kernel) rfl rfl rfl (by decide +kernel)
set_option maxRecDepth 65536 in
theorem w_c35 : (Jvm.Cond.code ({ cls := "java/lang/StringBuilder", name := "toString", desc := "()Ljava/lang/String;" } : Jvm.MethodName) jdk_67_method_42_code (1 : Nat) (Option.some (Jvm.ClassFile.FieldType.object "java/lang/String"))).before args0 about1 = true := code_word (m := ⟨19, 2⟩) (meth := k19m2) (c := k19c2) (by decide +kernel) rfl rfl rfl (by decide +kernel)
set_option maxRecDepth 65536 in
theorem w_c36 : (Jvm.Cond.code ({ cls := "java/lang/String", name := "<init>", desc := "(Ljava/lang/StringBuilder;)V" } : Jvm.MethodName) jdk_42_method_53_code (2 : Nat) (Option.none : Option Jvm.ClassFile.FieldType)).before args0 about1 = true := code_word (m := ⟨9, 2⟩) (meth := k9m2) (c := k9c2) (by decide +kernel) rfl rfl rfl (by decide +kernel)
set_option maxRecDepth 65536 in
theorem w_c37 : (Jvm.Cond.code ({ cls := "java/lang/String", name := "<init>", desc := "(Ljava/lang/AbstractStringBuilder;Ljava/lang/Void;)V" } : Jvm.MethodName) jdk_42_method_150_code (5 : Nat) (Option.none : Option Jvm.ClassFile.FieldType)).before args0 about1 = true := code_word (m := ⟨9, 9⟩) (meth := k9m9) (c := k9c9) (by decide +kernel) rfl rfl rfl (by decide +kernel)
set_option maxRecDepth 65536 in
theorem w_c38 : (Jvm.Cond.code ({ cls := "java/lang/AbstractStringBuilder", name := "getValue", desc := "()[B" } : Jvm.MethodName) jdk_68_method_64_code (1 : Nat) (Option.some (Jvm.ClassFile.FieldType.array Jvm.ClassFile.FieldType.byte))).before args0 about1 = true := code_word (m := ⟨18, 5⟩) (meth := k18m5) (c := k18c5) (by decide +kernel) rfl rfl rfl (by decide +kernel)
set_option maxRecDepth 65536 in
theorem w_c39 : (Jvm.Cond.code ({ cls := "java/lang/StringBuilder", name := "length", desc := "()I" } : Jvm.MethodName) jdk_67_method_93_code (1 : Nat) (Option.some Jvm.ClassFile.FieldType.int)).before args0 about1 = true := code_word (m := ⟨19, 3⟩) (meth := k19m3) (c := k19c3) (by decide +kernel) rfl rfl rfl (by decide +kernel)
set_option maxRecDepth 65536 in
theorem w_c40 : (Jvm.Cond.code ({ cls := "java/lang/AbstractStringBuilder", name := "length", desc := "()I" } : Jvm.MethodName) jdk_68_method_6_code (1 : Nat) (Option.some Jvm.ClassFile.FieldType.int)).before args0 about1 = true := code_word (m := ⟨18, 2⟩) (meth := k18m2) (c := k18c2) (by decide +kernel) rfl rfl rfl (by decide +kernel)
set_option maxRecDepth 65536 in
theorem w_c41 : (Jvm.Cond.code ({ cls := "java/lang/AbstractStringBuilder", name := "isLatin1", desc := "()Z" } : Jvm.MethodName) jdk_68_method_68_code (1 : Nat) (Option.some Jvm.ClassFile.FieldType.boolean)).before args0 about1 = true := code_word (m := ⟨18, 6⟩) (meth := k18m6) (c := k18c6) (by decide +kernel) rfl rfl rfl (by decide +kernel)
set_option maxRecDepth 65536 in
theorem w_c42 : (Jvm.Cond.code ({ cls := "java/util/Arrays", name := "copyOfRange", desc := "([BII)[B" } : Jvm.MethodName) jdk_65_method_132_code (3 : Nat) (Option.some (Jvm.ClassFile.FieldType.array Jvm.ClassFile.FieldType.byte))).before args0 about1 = true := code_word (m := ⟨21, 2⟩) (meth := k21m2) (c := k21c2) (by decide +kernel) rfl rfl rfl (by decide +kernel)
set_option maxRecDepth 65536 in
theorem w_c43 : (Jvm.Cond.code ({ cls := "java/util/Arrays", name := "copyOfRangeByte", desc := "([BII)[B" } : Jvm.MethodName) jdk_65_method_133_code (5 : Nat) (Option.some (Jvm.ClassFile.FieldType.array Jvm.ClassFile.FieldType.byte))).before args0 about1 = true := code_word (m := ⟨21, 3⟩) (meth := k21m3) (c := k21c3) (by decide +kernel) rfl rfl rfl (by decide +kernel)
set_option maxRecDepth 65536 in
theorem w_c44 : (Jvm.Cond.code ({ cls := "java/util/Arrays", name := "checkLength", desc := "(II)V" } : Jvm.MethodName) jdk_65_method_131_code (2 : Nat) (Option.none : Option Jvm.ClassFile.FieldType)).before args0 about1 = true := code_word (m := ⟨21, 1⟩) (meth := k21m1) (c := k21c1) (by decide +kernel) rfl rfl rfl (by decide +kernel)
set_option maxRecDepth 65536 in
theorem w_c45 : (Jvm.Cond.code ({ cls := "java/lang/Math", name := "min", desc := "(II)I" } : Jvm.MethodName) jdk_29_method_69_code (2 : Nat) (Option.some Jvm.ClassFile.FieldType.int)).before args0 about1 = true := code_word (m := ⟨22, 1⟩) (meth := k22m1) (c := k22c1) (by decide +kernel) rfl rfl rfl (by decide +kernel)
set_option maxRecDepth 65536 in
theorem w_c46 : (Jvm.Cond.code ({ cls := "java/lang/String", name := "charAt", desc := "(I)C" } : Jvm.MethodName) jdk_42_method_56_code (2 : Nat) (Option.some Jvm.ClassFile.FieldType.char)).before args0 about1 = true := code_word (m := ⟨9, 4⟩) (meth := k9m4) (c := k9c4) (by decide +kernel) rfl rfl rfl (by decide +kernel)
set_option maxRecDepth 65536 in
theorem w_c47 : (Jvm.Cond.code ({ cls := "java/lang/StringLatin1", name := "charAt", desc := "([BI)C" } : Jvm.MethodName) jdk_43_method_2_code (2 : Nat) (Option.some Jvm.ClassFile.FieldType.char)).before args0 about1 = true := code_word (m := ⟨14, 1⟩) (meth := k14m1) (c := k14c1) (by decide +kernel) rfl rfl rfl (by decide +kernel)
set_option maxRecDepth 65536 in
theorem w_c48 : (Jvm.Cond.code ({ cls := "java/lang/String", name := "checkIndex", desc := "(II)V" } : Jvm.MethodName) jdk_42_method_155_code (2 : Nat) (Option.none : Option Jvm.ClassFile.FieldType)).before args0 about1 = true := code_word (m := ⟨9, 12⟩) (meth := k9m12) (c := k9c12) (by decide +kernel) rfl rfl rfl (by decide +kernel)
set_option maxRecDepth 65536 in
theorem w_c49 : (Jvm.Cond.code ({ cls := "jdk/internal/util/Preconditions", name := "checkIndex", desc := "(IILjava/util/function/BiFunction;)I" } : Jvm.MethodName) jdk_41_method_11_code (3 : Nat) (Option.some Jvm.ClassFile.FieldType.int)).before args0 about1 = true := code_word (m := ⟨23, 1⟩) (meth := k23m1) (c := k23c1) (by decide +kernel) rfl rfl rfl (by decide +kernel)
def codes1 : List Jvm.Cond := [Jvm.Cond.code x code maxLocals ret, Jvm.Cond.code ({ cls := "com/example/grid_job_scheduler/gridjobscheduler/JobKeyToStringPinLaw", name := "blank", desc := "(II)Z" } : Jvm.MethodName) method_4_code (2 : Nat) (Option.some Jvm.ClassFile.FieldType.boolean), Jvm.Cond.code ({ cls := "com/example/grid_job_scheduler/gridjobscheduler/JobKeyToStringPinLaw", name := "ch", desc := "(II)C" } : Jvm.MethodName) method_2_code (2 : Nat) (Option.some Jvm.ClassFile.FieldType.char), Jvm.Cond.code ({ cls := "com/example/grid_job_scheduler/gridjobscheduler/JobKeyToStringPinLaw", name := "ws", desc := "(C)Z" } : Jvm.MethodName) method_3_code (1 : Nat) (Option.some Jvm.ClassFile.FieldType.boolean), Jvm.Cond.code ({ cls := "com/example/grid_job_scheduler/gridjobscheduler/JobKeyToStringPinLaw", name := "mk", desc := "(II)Ljava/lang/String;" } : Jvm.MethodName) method_5_code (6 : Nat) (Option.some (Jvm.ClassFile.FieldType.object "java/lang/String")), Jvm.Cond.code ({ cls := "java/lang/String", name := "<init>", desc := "([C)V" } : Jvm.MethodName) jdk_42_method_3_code (2 : Nat) (Option.none : Option Jvm.ClassFile.FieldType), Jvm.Cond.code ({ cls := "java/lang/String", name := "<init>", desc := "([CIILjava/lang/Void;)V" } : Jvm.MethodName) jdk_42_method_149_code (6 : Nat) (Option.none : Option Jvm.ClassFile.FieldType), Jvm.Cond.code ({ cls := "java/lang/Object", name := "<init>", desc := "()V" } : Jvm.MethodName) object_method_1_code (1 : Nat) (Option.none : Option Jvm.ClassFile.FieldType), Jvm.Cond.code ({ cls := "java/lang/StringUTF16", name := "compress", desc := "([CII)[B" } : Jvm.MethodName) jdk_52_method_16_code (6 : Nat) (Option.some (Jvm.ClassFile.FieldType.array Jvm.ClassFile.FieldType.byte)), Jvm.Cond.code ({ cls := "java/lang/StringUTF16", name := "compress", desc := "([CI[BII)I" } : Jvm.MethodName) jdk_52_method_21_code (7 : Nat) (Option.some Jvm.ClassFile.FieldType.int), Jvm.Cond.code ({ cls := "java/lang/StringUTF16", name := "coderFromArrayLen", desc := "([BI)B" } : Jvm.MethodName) jdk_52_method_15_code (2 : Nat) (Option.some Jvm.ClassFile.FieldType.byte), Jvm.Cond.code ({ cls := "com/example/grid_job_scheduler/gridjobscheduler/JobKey", name := "<init>", desc := "(Ljava/lang/String;Ljava/lang/String;)V" } : Jvm.MethodName) prog_16_method_1_code (3 : Nat) (Option.none : Option Jvm.ClassFile.FieldType), Jvm.Cond.code ({ cls := "java/lang/Record", name := "<init>", desc := "()V" } : Jvm.MethodName) jdk_30_method_1_code (1 : Nat) (Option.none : Option Jvm.ClassFile.FieldType), Jvm.Cond.code ({ cls := "com/example/grid_job_scheduler/gridjobscheduler/Keys", name := "requireGroupAndName", desc := "(Ljava/lang/String;Ljava/lang/String;Ljava/lang/String;)V" } : Jvm.MethodName) prog_21_method_2_code (3 : Nat) (Option.none : Option Jvm.ClassFile.FieldType), Jvm.Cond.code ({ cls := "com/example/grid_job_scheduler/gridjobscheduler/Keys", name := "requireNotBlank", desc := "(Ljava/lang/String;Ljava/lang/String;Ljava/lang/String;)V" } : Jvm.MethodName) prog_21_method_3_code (3 : Nat) (Option.none : Option Jvm.ClassFile.FieldType), Jvm.Cond.code ({ cls := "java/util/Objects", name := "requireNonNull", desc := "(Ljava/lang/Object;Ljava/util/function/Supplier;)Ljava/lang/Object;" } : Jvm.MethodName) jdk_31_method_16_code (2 : Nat) (Option.some (Jvm.ClassFile.FieldType.object "java/lang/Object")), Jvm.Cond.code ({ cls := "java/lang/String", name := "isBlank", desc := "()Z" } : Jvm.MethodName) jdk_42_method_117_code (1 : Nat) (Option.some Jvm.ClassFile.FieldType.boolean), Jvm.Cond.code ({ cls := "java/lang/String", name := "indexOfNonWhitespace", desc := "()I" } : Jvm.MethodName) jdk_42_method_120_code (1 : Nat) (Option.some Jvm.ClassFile.FieldType.int), Jvm.Cond.code ({ cls := "java/lang/String", name := "isLatin1", desc := "()Z" } : Jvm.MethodName) jdk_42_method_154_code (1 : Nat) (Option.some Jvm.ClassFile.FieldType.boolean), Jvm.Cond.code ({ cls := "java/lang/StringLatin1", name := "indexOfNonWhitespace", desc := "([B)I" } : Jvm.MethodName) jdk_43_method_37_code (4 : Nat) (Option.some Jvm.ClassFile.FieldType.int), Jvm.Cond.code ({ cls := "java/lang/StringLatin1", name := "getChar", desc := "([BI)C" } : Jvm.MethodName) jdk_43_method_44_code (2 : Nat) (Option.some Jvm.ClassFile.FieldType.char), Jvm.Cond.code ({ cls := "java/lang/CharacterDataLatin1", name := "isWhitespace", desc := "(I)Z" } : Jvm.MethodName) jdk_116_method_26_code (3 : Nat) (Option.some Jvm.ClassFile.FieldType.boolean), Jvm.Cond.code ({ cls := "java/lang/CharacterDataLatin1", name := "getProperties", desc := "(I)I" } : Jvm.MethodName) jdk_116_method_1_code (4 : Nat) (Option.some Jvm.ClassFile.FieldType.int), Jvm.Cond.code ({ cls := "java/lang/String", name := "length", desc := "()I" } : Jvm.MethodName) jdk_42_method_54_code (1 : Nat) (Option.some Jvm.ClassFile.FieldType.int), Jvm.Cond.code ({ cls := "java/lang/String", name := "coder", desc := "()B" } : Jvm.MethodName) jdk_42_method_152_code (1 : Nat) (Option.some Jvm.ClassFile.FieldType.byte), Jvm.Cond.code ({ cls := "com/example/grid_job_scheduler/gridjobscheduler/JobKey", name := "toString", desc := "()Ljava/lang/String;" } : Jvm.MethodName) prog_16_method_3_code (1 : Nat) (Option.some (Jvm.ClassFile.FieldType.object "java/lang/String")), Jvm.Cond.code ({ cls := "com/example/grid_job_scheduler/gridjobscheduler/Keys", name := "toString", desc := "(Ljava/lang/String;Ljava/lang/String;)Ljava/lang/String;" } : Jvm.MethodName) prog_21_method_4_code (2 : Nat) (Option.some (Jvm.ClassFile.FieldType.object "java/lang/String")), Jvm.Cond.code ({ cls := "java/lang/StringBuilder", name := "<init>", desc := "()V" } : Jvm.MethodName) jdk_67_method_1_code (1 : Nat) (Option.none : Option Jvm.ClassFile.FieldType), Jvm.Cond.code ({ cls := "java/lang/AbstractStringBuilder", name := "<init>", desc := "(I)V" } : Jvm.MethodName) jdk_68_method_2_code (2 : Nat) (Option.none : Option Jvm.ClassFile.FieldType), Jvm.Cond.code ({ cls := "java/lang/StringBuilder", name := "append", desc := "(Ljava/lang/String;)Ljava/lang/StringBuilder;" } : Jvm.MethodName) jdk_67_method_7_code (2 : Nat) (Option.some (Jvm.ClassFile.FieldType.object "java/lang/StringBuilder")), Jvm.Cond.code ({ cls := "java/lang/AbstractStringBuilder", name := "append", desc := "(Ljava/lang/String;)Ljava/lang/AbstractStringBuilder;" } : Jvm.MethodName) jdk_68_method_22_code (3 : Nat) (Option.some (Jvm.ClassFile.FieldType.object "java/lang/AbstractStringBuilder")), Jvm.Cond.code ({ cls := "java/lang/AbstractStringBuilder", name := "ensureCapacityInternal", desc := "(I)V" } : Jvm.MethodName) jdk_68_method_9_code (3 : Nat) (Option.none : Option Jvm.ClassFile.FieldType), Jvm.Cond.code ({ cls := "java/lang/AbstractStringBuilder", name := "putStringAt", desc := "(ILjava/lang/String;)V" } : Jvm.MethodName) jdk_68_method_73_code (3 : Nat) (Option.none : Option Jvm.ClassFile.FieldType), Jvm.Cond.code ({ cls := "java/lang/AbstractStringBuilder", name := "inflateIfNeededFor", desc := "(Ljava/lang/String;)V" } : Jvm.MethodName) jdk_68_method_71_code (2 : Nat) (Option.none : Option Jvm.ClassFile.FieldType), Jvm.Cond.code ({ cls := "java/lang/String", name := "getBytes", desc := "([BIB)V" } : Jvm.MethodName) jdk_42_method_147_code (4 : Nat) (Option.none : Option Jvm.ClassFile.FieldType), Jvm.Cond.code ({ cls := "java/lang/StringBuilder", name := "toString", desc := "()Ljava/lang/String;" } : Jvm.MethodName) jdk_67_method_42_code (1 : Nat) (Option.some (Jvm.ClassFile.FieldType.object "java/lang/String")), Jvm.Cond.code ({ cls := "java/lang/String", name := "<init>", desc := "(Ljava/lang/StringBuilder;)V" } : Jvm.MethodName) jdk_42_method_53_code (2 : Nat) (Option.none : Option Jvm.ClassFile.FieldType), Jvm.Cond.code ({ cls := "java/lang/String", name := "<init>", desc := "(Ljava/lang/AbstractStringBuilder;Ljava/lang/Void;)V" } : Jvm.MethodName) jdk_42_method_150_code (5 : Nat) (Option.none : Option Jvm.ClassFile.FieldType), Jvm.Cond.code ({ cls := "java/lang/AbstractStringBuilder", name := "getValue", desc := "()[B" } : Jvm.MethodName) jdk_68_method_64_code (1 : Nat) (Option.some (Jvm.ClassFile.FieldType.array Jvm.ClassFile.FieldType.byte)), Jvm.Cond.code ({ cls := "java/lang/StringBuilder", name := "length", desc := "()I" } : Jvm.MethodName) jdk_67_method_93_code (1 : Nat) (Option.some Jvm.ClassFile.FieldType.int), Jvm.Cond.code ({ cls := "java/lang/AbstractStringBuilder", name := "length", desc := "()I" } : Jvm.MethodName) jdk_68_method_6_code (1 : Nat) (Option.some Jvm.ClassFile.FieldType.int), Jvm.Cond.code ({ cls := "java/lang/AbstractStringBuilder", name := "isLatin1", desc := "()Z" } : Jvm.MethodName) jdk_68_method_68_code (1 : Nat) (Option.some Jvm.ClassFile.FieldType.boolean), Jvm.Cond.code ({ cls := "java/util/Arrays", name := "copyOfRange", desc := "([BII)[B" } : Jvm.MethodName) jdk_65_method_132_code (3 : Nat) (Option.some (Jvm.ClassFile.FieldType.array Jvm.ClassFile.FieldType.byte)), Jvm.Cond.code ({ cls := "java/util/Arrays", name := "copyOfRangeByte", desc := "([BII)[B" } : Jvm.MethodName) jdk_65_method_133_code (5 : Nat) (Option.some (Jvm.ClassFile.FieldType.array Jvm.ClassFile.FieldType.byte)), Jvm.Cond.code ({ cls := "java/util/Arrays", name := "checkLength", desc := "(II)V" } : Jvm.MethodName) jdk_65_method_131_code (2 : Nat) (Option.none : Option Jvm.ClassFile.FieldType), Jvm.Cond.code ({ cls := "java/lang/Math", name := "min", desc := "(II)I" } : Jvm.MethodName) jdk_29_method_69_code (2 : Nat) (Option.some Jvm.ClassFile.FieldType.int), Jvm.Cond.code ({ cls := "java/lang/String", name := "charAt", desc := "(I)C" } : Jvm.MethodName) jdk_42_method_56_code (2 : Nat) (Option.some Jvm.ClassFile.FieldType.char), Jvm.Cond.code ({ cls := "java/lang/StringLatin1", name := "charAt", desc := "([BI)C" } : Jvm.MethodName) jdk_43_method_2_code (2 : Nat) (Option.some Jvm.ClassFile.FieldType.char), Jvm.Cond.code ({ cls := "java/lang/String", name := "checkIndex", desc := "(II)V" } : Jvm.MethodName) jdk_42_method_155_code (2 : Nat) (Option.none : Option Jvm.ClassFile.FieldType), Jvm.Cond.code ({ cls := "jdk/internal/util/Preconditions", name := "checkIndex", desc := "(IILjava/util/function/BiFunction;)I" } : Jvm.MethodName) jdk_41_method_11_code (3 : Nat) (Option.some Jvm.ClassFile.FieldType.int)]
set_option maxRecDepth 65536 in
theorem codes_eq : words1.filter isCode = codes1 := rfl
theorem w_codes : ∀ c ∈ words1.filter isCode, c.before args0 about1 = true := by
  rw [codes_eq]
  intro c hc
  simp only [codes1, List.mem_cons, List.not_mem_nil, or_false] at hc
  rcases hc with rfl | rfl | rfl | rfl | rfl | rfl | rfl | rfl | rfl | rfl | rfl | rfl | rfl | rfl | rfl | rfl | rfl | rfl | rfl | rfl | rfl | rfl | rfl | rfl | rfl | rfl | rfl | rfl | rfl | rfl | rfl | rfl | rfl | rfl | rfl | rfl | rfl | rfl | rfl | rfl | rfl | rfl | rfl | rfl | rfl | rfl | rfl | rfl | rfl | rfl
  · exact w_c0
  · exact w_c1
  · exact w_c2
  · exact w_c3
  · exact w_c4
  · exact w_c5
  · exact w_c6
  · exact w_c7
  · exact w_c8
  · exact w_c9
  · exact w_c10
  · exact w_c11
  · exact w_c12
  · exact w_c13
  · exact w_c14
  · exact w_c15
  · exact w_c16
  · exact w_c17
  · exact w_c18
  · exact w_c19
  · exact w_c20
  · exact w_c21
  · exact w_c22
  · exact w_c23
  · exact w_c24
  · exact w_c25
  · exact w_c26
  · exact w_c27
  · exact w_c28
  · exact w_c29
  · exact w_c30
  · exact w_c31
  · exact w_c32
  · exact w_c33
  · exact w_c34
  · exact w_c35
  · exact w_c36
  · exact w_c37
  · exact w_c38
  · exact w_c39
  · exact w_c40
  · exact w_c41
  · exact w_c42
  · exact w_c43
  · exact w_c44
  · exact w_c45
  · exact w_c46
  · exact w_c47
  · exact w_c48
  · exact w_c49
set_option maxRecDepth 65536 in
theorem w_t1 : (words1.take 24).all (fun c => isCode c || c.before args0 about1) = true := by decide +kernel
set_option maxRecDepth 65536 in
theorem w_t2 : ((words1.drop 24).take 24).all (fun c => isCode c || c.before args0 about1) = true := by decide +kernel
set_option maxRecDepth 65536 in
theorem w_t3 : (((words1.drop 24).drop 24).take 24).all (fun c => isCode c || c.before args0 about1) = true := by decide +kernel
set_option maxRecDepth 65536 in
theorem w_t4 : ((((words1.drop 24).drop 24).drop 24).take 24).all (fun c => isCode c || c.before args0 about1) = true := by decide +kernel
set_option maxRecDepth 65536 in
theorem w_t5 : (((((words1.drop 24).drop 24).drop 24).drop 24).take 24).all (fun c => isCode c || c.before args0 about1) = true := by decide +kernel
set_option maxRecDepth 65536 in
theorem w_t6 : ((((((words1.drop 24).drop 24).drop 24).drop 24).drop 24).take 24).all (fun c => isCode c || c.before args0 about1) = true := by decide +kernel
set_option maxRecDepth 65536 in
theorem w_t7 : (((((((words1.drop 24).drop 24).drop 24).drop 24).drop 24).drop 24).take 24).all (fun c => isCode c || c.before args0 about1) = true := by decide +kernel
set_option maxRecDepth 65536 in
theorem w_t8 : ((((((((words1.drop 24).drop 24).drop 24).drop 24).drop 24).drop 24).drop 24).take 24).all (fun c => isCode c || c.before args0 about1) = true := by decide +kernel
set_option maxRecDepth 65536 in
theorem w_t9 : (((((((((words1.drop 24).drop 24).drop 24).drop 24).drop 24).drop 24).drop 24).drop 24).take 24).all (fun c => isCode c || c.before args0 about1) = true := by decide +kernel
set_option maxRecDepth 65536 in
theorem w_t10 : ((((((((((words1.drop 24).drop 24).drop 24).drop 24).drop 24).drop 24).drop 24).drop 24).drop 24).take 24).all (fun c => isCode c || c.before args0 about1) = true := by decide +kernel
set_option maxRecDepth 65536 in
theorem w_t11 : ((((((((((words1.drop 24).drop 24).drop 24).drop 24).drop 24).drop 24).drop 24).drop 24).drop 24).drop 24).all (fun c => isCode c || c.before args0 about1) = true := by decide +kernel
theorem w_tables : (allAtoms (Jvm.Cond.code x code maxLocals ret :: tables_1)).before args0 about1 = true := by
  rw [allAtoms_all]
  show words1.all (fun c => c.before args0 about1) = true
  refine all_split ?_ w_codes
  rw [← List.take_append_drop 24 words1, List.all_append, w_t1, ← List.take_append_drop 24 (words1.drop 24), List.all_append, w_t2, ← List.take_append_drop 24 ((words1.drop 24).drop 24), List.all_append, w_t3, ← List.take_append_drop 24 (((words1.drop 24).drop 24).drop 24), List.all_append, w_t4, ← List.take_append_drop 24 ((((words1.drop 24).drop 24).drop 24).drop 24), List.all_append, w_t5, ← List.take_append_drop 24 (((((words1.drop 24).drop 24).drop 24).drop 24).drop 24), List.all_append, w_t6, ← List.take_append_drop 24 ((((((words1.drop 24).drop 24).drop 24).drop 24).drop 24).drop 24), List.all_append, w_t7, ← List.take_append_drop 24 (((((((words1.drop 24).drop 24).drop 24).drop 24).drop 24).drop 24).drop 24), List.all_append, w_t8, ← List.take_append_drop 24 ((((((((words1.drop 24).drop 24).drop 24).drop 24).drop 24).drop 24).drop 24).drop 24), List.all_append, w_t9, ← List.take_append_drop 24 (((((((((words1.drop 24).drop 24).drop 24).drop 24).drop 24).drop 24).drop 24).drop 24).drop 24), List.all_append, w_t10, w_t11]
  rfl
set_option maxRecDepth 65536 in
theorem w_rest : rest_1_c.before args0 about1 = true := by decide +kernel
set_option maxRecDepth 65536 in
theorem w_case : (Jvm.Cond.and given_1 narrow_1).before args0 about1 = true := by decide +kernel
set_option maxRecDepth 65536 in
theorem w_consts : constsHeld consts_1 about1 := Jvm.Lit.constsHeldB_iff.mp (by decide +kernel)
theorem w_applies : (headSpec (Jvm.Cond.code x code maxLocals ret :: tables_1) room_1).applies x e0.platform about1 = true :=
  (Spec.applies_iff w_frames).mpr ⟨w_running, w_runnable, w_alone, w_named, w_hears, w_ripe, w_room, w_tables⟩
theorem atStart : AtStart classFile x code maxLocals ret World_1 tables_1 room_1 Calls_1 rest_1 Pre_1 launch0 p0 e0 about1 theMethod args0 below0 :=
  ⟨lists_1, trivial, launch0.admits_env _ _ _, launch0.least_env, fairChoices_fair.cas, fairChoices_fair.clock, w_frames, w_args, w_heap, w_applies, ⟨w_consts, trivial⟩, w_rest, w_case⟩
end start1
theorem witness_1 : WitnessClaimed_1 := ⟨start1.p0, start1.e0, start1.about1, start1.theMethod, start1.args0, start1.below0, start1.atStart⟩
end Jvm.Pilot.@@N@@
