import JvmDerived
import JvmDerived.Pilot.@@N@@Statement
import JvmDerived.Pilot.@@N@@Code
set_option linter.unusedVariables false
set_option linter.unusedSimpArgs false
namespace Jvm.RoadKit
open Sem ClassFile Op Lib Jvm.Stand Jvm.Free Jvm.LawKit
section New
variable {p : Program} {l : Launch} {e : Env} {R : Room} {s : State} {m : MethodId} {args : Array Value} {below : List Frame} {meth : Method} {c : Code} {T : State} {locs : List Loc} {cells slots : Nat}
theorem retI (X : Stand p l e R s m args below meth c T locs cells slots) (hx : p.tables.exec = Jvm.exec) {pc : Nat} {Ls : Array Slot} {z : Int32} {rest : List Value} (hret : meth.sig.returnType = some .int) (hd : decode c.code pc = .ok (.ireturn, 1)) {fs : List Frame}
    (hl : ∀ (f : JFrame) (acts : List Action), f.method = m → f.locked = none → f.entered = [] → (doReturn e (T.setTop f) acts (some (.int z))).1 = T.setFrames fs) : Steps p.tables e below (T.setTop (mkF m pc Ls (.int z :: rest))) (T.setFrames fs) := by
  have hm' : T.vm.method? m = some meth := X.method'
  have hn : narrow .int (.int z) = .int z := rfl
  show Steps p.tables e below (T.setTop { method := m, pc := pc, locals := Ls, stack := _ :: rest, locked := none }) _
  jvm_step X.here [X.here.top, hx, hd, hm', hret, hn]
  first | (intro acts; rw [hl _ acts rfl rfl rfl]) | rw [hl _ _ rfl rfl rfl]
  exact Steps.refl _
end New
end Jvm.RoadKit
namespace Jvm.Pilot.@@N@@
open Jvm Jvm.ClassFile Sem Op Lib Jvm.Free Jvm.Stand Jvm.LawKit Jvm.RoadKit Bundle Jvm.Pilot.@@N@@.Jvm.D
/-! The walk in a goal-driven form: own_Fin says that the run from A comes to an end at which Q holds, within the frame. -/
def own_Fin (p : Program) (e : Env) (below : List Frame) (s : State) (Q : Option Value → Heap → List Loc → Prop) (kc ks : Nat) (A : State) : Prop :=
  ∃ s₂ o, Steps p.tables e below A s₂ ∧ s₂.status = .running ∧ Ended s₂ below o ∧ ∃ v L, o = .returned v ∧ Q v s₂.heap L ∧ FrameEnd s o s₂ L kc ks
theorem own_Fin.go {p : Program} {e : Env} {below : List Frame} {s : State} {Q : Option Value → Heap → List Loc → Prop} {kc ks : Nat} {A B : State} (st : ∀ t, Steps p.tables e below B t → Steps p.tables e below A t) (h : own_Fin p e below s Q kc ks B) : own_Fin p e below s Q kc ks A := by
  obtain ⟨s₂, o, h1, h2⟩ := h
  exact ⟨s₂, o, st _ h1, h2⟩
section OwnRet
variable {p : Program} {l : Launch} {e : Env} {R : Room} {s : State} {m : MethodId} {args : Array Value} {below : List Frame} {meth : Method} {c : Code} {T : State} {locs : List Loc} {cells slots : Nat} {Q : Option Value → Heap → List Loc → Prop} {kc ks : Nat}
theorem own_end (X : Stand p l e R s m args below meth c T locs cells slots) {v : Option Value} (hv : meth.sig.returnType = none → v = none) (hlocks : meth.locks = false) (hc : cells ≤ kc) (hs : slots ≤ ks) {A : State}
    (h : ∀ fs : List Frame, (∀ (f : JFrame) (acts : List Action), f.method = m → f.locked = none → f.entered = [] → (doReturn e (T.setTop f) acts v).1 = T.setFrames fs) → Steps p.tables e below A (T.setFrames fs)) (hQ : Q v T.heap locs) : own_Fin p e below s Q kc ks A := by
  obtain ⟨fs, hr, hrun, hended, hW, hsame⟩ := X.leave (v := v) hv hlocks
  exact ⟨_, _, h fs hr, hrun, hended, _, _, rfl, hQ, ⟨_, rfl⟩, hW, hsame.mono hc hs⟩
theorem own_retN (X : Stand p l e R s m args below meth c T locs cells slots) (hx : p.tables.exec = Jvm.exec) {pc : Nat} {Ls : Array Slot} {z w : Int32} {t : FieldType} {rest : List Value} (hret : meth.sig.returnType = some t) (ht : t = .boolean ∨ t = .byte ∨ t = .char ∨ t = .short)
    (hd : decode c.code pc = .ok (.ireturn, 1)) (hlocks : meth.locks = false) (hw : nar t z = w) (hc : cells ≤ kc) (hs : slots ≤ ks) (hQ : Q (some (.int w)) T.heap locs) : own_Fin p e below s Q kc ks (T.setTop (mkF m pc Ls (.int z :: rest))) :=
  own_end X (v := some (.int w)) (fun h => by rw [hret] at h; cases h) hlocks hc hs (fun fs hr => retN X hx hret ht hd (by rw [hw]; exact hr)) hQ
theorem own_retI (X : Stand p l e R s m args below meth c T locs cells slots) (hx : p.tables.exec = Jvm.exec) {pc : Nat} {Ls : Array Slot} {z : Int32} {rest : List Value} (hret : meth.sig.returnType = some .int)
    (hd : decode c.code pc = .ok (.ireturn, 1)) (hlocks : meth.locks = false) (hc : cells ≤ kc) (hs : slots ≤ ks) (hQ : Q (some (.int z)) T.heap locs) : own_Fin p e below s Q kc ks (T.setTop (mkF m pc Ls (.int z :: rest))) :=
  own_end X (v := some (.int z)) (fun h => by rw [hret] at h; cases h) hlocks hc hs (fun fs hr => retI X hx hret hd hr) hQ
theorem own_retJ (X : Stand p l e R s m args below meth c T locs cells slots) (hx : p.tables.exec = Jvm.exec) {pc : Nat} {Ls : Array Slot} {z : Int64} (hret : meth.sig.returnType = some .long)
    (hd : decode c.code pc = .ok (.lreturn, 1)) (hlocks : meth.locks = false) (hc : cells ≤ kc) (hs : slots ≤ ks) (hQ : Q (some (.long z)) T.heap locs) : own_Fin p e below s Q kc ks (T.setTop (mkF m pc Ls [.long z])) :=
  own_end X (v := some (.long z)) (fun h => by rw [hret] at h; cases h) hlocks hc hs (fun fs hr => X.lreturnOut hx hret hd hr) hQ
theorem own_retA (X : Stand p l e R s m args below meth c T locs cells slots) (hx : p.tables.exec = Jvm.exec) {pc : Nat} {Ls : Array Slot} {a : Addr} {t : FieldType} {rest : List Value} (hret : meth.sig.returnType = some t) (ht : t.isReference = true)
    (hd : decode c.code pc = .ok (.areturn, 1)) (hlocks : meth.locks = false) (hc : cells ≤ kc) (hs : slots ≤ ks) (hQ : Q (some (.ref a)) T.heap locs) : own_Fin p e below s Q kc ks (T.setTop (mkF m pc Ls (.ref a :: rest))) :=
  own_end X (v := some (.ref a)) (fun h => by rw [hret] at h; cases h) hlocks hc hs (fun fs hr => retOut X hx hret (by cases t <;> first | rfl | (simp [FieldType.isReference] at ht)) (Or.inr (Or.inr (Or.inr (Or.inr ⟨rfl, ht, rfl⟩)))) hd hr) hQ
theorem own_ret0 (X : Stand p l e R s m args below meth c T locs cells slots) (hx : p.tables.exec = Jvm.exec) {pc : Nat} {Ls : Array Slot} (hret : meth.sig.returnType = none)
    (hd : decode c.code pc = .ok (.return_, 1)) (hlocks : meth.locks = false) (hc : cells ≤ kc) (hs : slots ≤ ks) (hQ : Q none T.heap locs) : own_Fin p e below s Q kc ks (T.setTop (mkF m pc Ls [])) :=
  own_end X (v := none) (fun _ => rfl) hlocks hc hs (fun fs hr => X.returnOut hx hret hd hr) hQ
end OwnRet
theorem own_selp {s : State} {args args' : Array Value} {C : String} {y w : MethodName} (hw : (Jvm.Cond.selects C w w).before args s = true) (hcls : w.cls = y.cls) (hpriv : s.PrivateAt y) (hinst : (Jvm.Cond.instanceMethod y).before args s = true) (hy : y.cls ≠ "java/lang/invoke/MethodHandle" ∧ y.cls ≠ "java/lang/invoke/VarHandle") : (Jvm.Cond.selects y.cls y y).before args' s = true := by
  obtain ⟨c2, r2, m2, -, -, q3, -, kP, hkP, hkPi⟩ := Cond.selects_spec hw
  exact selects_self_of_private (by rw [← hcls]; exact findClass_of_methodNamed q3) hkP hkPi hpriv hinst hy
theorem own_retD {p : Program} {l : Launch} {e : Env} {R : Room} {s : State} {m : MethodId} {args : Array Value} {below : List Frame} {meth : Method} {c : Code} {T : State} {locs : List Loc} {cells slots : Nat} {Q : Option Value → Heap → List Loc → Prop} {kc ks : Nat} (X : Stand p l e R s m args below meth c T locs cells slots) (hx : p.tables.exec = Jvm.exec) {pc : Nat} {Ls : Array Slot} {z : UInt64} {rest : List Value} (hret : meth.sig.returnType = some .double)
    (hd : decode c.code pc = .ok (.dreturn, 1)) (hlocks : meth.locks = false) (hc : cells ≤ kc) (hs : slots ≤ ks) (hQ : Q (some (.double z)) T.heap locs) : own_Fin p e below s Q kc ks (T.setTop (mkF m pc Ls (.double z :: rest))) :=
  own_end X (v := some (.double z)) (fun h => by rw [hret] at h; cases h) hlocks hc hs (fun fs hr => retOut X hx hret rfl (Or.inr (Or.inr (Or.inl ⟨rfl, rfl, z, rfl⟩))) hd hr) hQ
/-! A walk below the level of Stand: what is left of the stack is weighed by the limits alone (Math.ceil's own frame is a native's). -/
abbrev own_A (p : Program) (l : Launch) (e : Env) (s : State) (below : List Frame) (U T : State) (m : MethodId) (c : Code) (rest : List Frame) (k w : Nat) : Prop :=
  l.admits e ∧ At T m c below ∧ s.WarmedH T.vm ∧ T.frames.tail = rest ∧ rest.length + k < (e.platform.stackLimits U.me).1 ∧ stackWeight rest + w ≤ (e.platform.stackLimits U.me).2 ∧ e.platform.stackLimits T.me = e.platform.stackLimits U.me ∧ ∀ F, T.setFrames F = (U.setVm T.vm).setFrames F
section OwnA
variable {p : Program} {l : Launch} {e : Env} {s U T : State} {below rest : List Frame} {m : MethodId} {c : Code} {k w : Nat} {a0 : Array Value}
theorem own_aVm (X : own_A p l e s below U T m c rest k w) {vm' : Vm} (h : s.WarmedH vm') : own_A p l e s below U (T.setVm vm') m c rest k w :=
  ⟨X.1, X.2.1.setVm (X.2.2.1.alike.symm.trans h.alike), h, X.2.2.2.1, X.2.2.2.2.1, X.2.2.2.2.2.1, X.2.2.2.2.2.2.1, fun F => by
    show (T.setFrames F).setVm vm' = _
    rw [X.2.2.2.2.2.2.2 F]; rfl⟩
theorem own_aInv (X : own_A p l e s below U T m c rest k w) (hx : p.tables.exec = Jvm.exec) {own : String} {index : Nat} {y : MethodName} (hown : s.vm.findClass own = some m.cls)
    (wl : (Jvm.Cond.methodLink own index y).before a0 s = true) (wt : (Jvm.Cond.static y).before a0 s = true) (wz : (Jvm.Cond.initialized y.cls).before a0 s = true) {m' : MethodId} {meth' : Method} (hn : s.methodNamed? y = some m') (hm' : s.vm.method? m' = some meth')
    (hy : y.cls ≠ "java/lang/invoke/MethodHandle" ∧ y.cls ≠ "java/lang/invoke/VarHandle") {g : JFrame} (hg : g.method = m) {argsL rst : List Value} (hlen : argsL.length = meth'.sig.parameters.length) (hstack : g.stack = argsL.reverse ++ rst) (hdg : decode c.code g.pc = .ok (.invokestatic index, 3)) :
    ∃ vm', own_A p l e s below U (T.setVm vm') m c rest k w ∧ ∀ t, (∀ acts, Steps p.tables e below (doInvoke e ((T.setVm vm').setTop { g with stack := rst }) acts m' argsL.toArray).1 t) → Steps p.tables e below (T.setTop g) t := by
  have q1 : e.platform.magicAccessors = ({} : Platform).magicAccessors := by rw [X.1.platform]
  have q2 : e.platform.polymorphicOnlyByInvokevirtual = true := by rw [X.1.platform]
  obtain ⟨kk, hkk, hnm⟩ := className_of_methodNamed hn
  have hin : kk.init = .initialized := Cond.initialized_spec (findClass_of_methodNamed hn) hkk wz
  have hst : meth'.isStatic = true := Cond.static_spec hn hm' wt
  obtain ⟨ci, hl, hr⟩ := Cond.methodLink_spec hown hn wl e.platform q1
  have hE : s.MethodEntry e T.vm m.cls index m' ci := State.methodEntry X.2.2.1 hl hr (fun z hz => by cases hkk.symm.trans hz; rw [hnm]; exact hy)
  obtain ⟨dk, cfile, nt, mname, mdesc, via, ck, _, b1, b2, b3, b4, -, -, b5, -, b6, -⟩ := hl.here
  cases hkk.symm.trans b5
  obtain ⟨dk2, r1, r2⟩ := hE.warmed.alike.2.2 _ _ b1
  obtain ⟨k2, r3, r4⟩ := hE.warmed.alike.2.2 _ _ hkk
  have n1 : (kk.methods.any fun z => z.name == mname && !z.isStatic && signaturePolymorphic kk z) = false := by simp [b6]
  have n2 : (k2.methods.any fun z => z.name == mname && !z.isStatic && signaturePolymorphic k2 z) = false := by rw [r4]; exact n1
  refine ⟨T.vm.called m.cls ci index m', own_aVm X hE.warmed, fun t k => ?_⟩
  subst hg
  jvm_step X.2.1 [hx, hdg, invokestatic.wp_cold (e := e) (s := T) (s₀ := s) (f := g) X.2.1.top q2 X.2.2.1 hE b1 b2 b3 b4 hkk n1,
    invokestatic.wp_ready (e := e) (s := T.setVm (T.vm.called g.method.cls ci index m')) (k := k2) (meth := meth') (m := m') (args := argsL) (rest := rst) (f := g) X.2.1.top
      ⟨ci, mname, mdesc, via, m'.cls, k2, memberRef_ask_via (e := e) r1 (by rw [r2]; exact b2) b3 b4, hE.classReady, r3, n2⟩ hE.ready r3 (by show (T.vm.called g.method.cls ci index m').method? m' = some meth'; rw [hE.warmed.alike.method?]; exact hm') (by rw [r4]; exact b6 meth') hst (by rw [r4]; exact hin) hlen hstack]
  exact fun acts => k acts
theorem own_aEnter (X : own_A p l e s below U T m c rest (k + 1) w) {g : JFrame} (hg : g.method = m) {y : MethodName} {m' : MethodId} {meth' : Method} {code' : Code} (args' : Array Value) (hp : plainFor y = true) (hn : s.methodNamed? y = some m') (hm : s.vm.method? m' = some meth') (hc : meth'.code = some code') (hl : meth'.locks = false)
    {wg w' : Nat} (hwg : Frame.weight (.java g) ≤ wg) (hw : wg + w' ≤ w) (hv : code'.maxLocals + 11 ≤ w') :
    own_A p l e s below U ((T.setTop g).pushFrame (.java (entryFrame m' args' code'.maxLocals))) m' code' (.java g :: rest) k w' ∧
      ∀ acts, (doInvoke e (T.setTop g) acts m' args').1 = ((T.setTop g).pushFrame (.java (entryFrame m' args' code'.maxLocals))).setTop (entryFrame m' args' code'.maxLocals) := by
  have hfr : (T.setTop g).frames = .java g :: rest := by rw [State.frames_setTop' _ X.2.1.top, X.2.2.2.1]
  have hm2 : T.vm.method? m' = some meth' := by rw [X.2.2.1.alike.method?]; exact hm
  have hwt : stackWeight (.java g :: rest) ≤ wg + stackWeight rest := by rw [stackWeight_cons]; omega
  have x1 := X.2.2.2.2.1; have x2 := X.2.2.2.2.2.1
  have hfull : e.platform.stackFull (((T.setTop g).threads[(T.setTop g).cur]?).getD { frames := [] }) (T.setTop g).frames code'.maxLocals = false :=
    stackFull_of hfr (by rw [State.stackLimits_setTop _ X.2.1.top, X.2.2.2.2.2.2.1, List.length_cons]; omega) (by rw [State.stackLimits_setTop _ X.2.1.top, X.2.2.2.2.2.2.1]; omega)
  subst hg
  refine ⟨⟨X.1, X.2.1.enter args' hm2 hc (State.plainMethod.of_named hp (by show (s.setVm T.vm).methodNamed? _ = _; rw [State.methodNamed?_setVm X.2.2.1.alike]; exact hn) hm2), X.2.2.1, ?_, ?_, ?_, ?_, ?_⟩, fun acts => doInvoke_enter X.2.1.top acts hm2 hc hl hfull⟩
  · rw [frames_entered X.2.1.top, List.tail_cons, X.2.2.2.1]
  · rw [List.length_cons]; omega
  · omega
  · rw [State.stackLimits_pushFrame, State.stackLimits_setTop _ X.2.1.top, X.2.2.2.2.2.2.1]
  · intro F
    obtain ⟨g₀, hg⟩ := Option.isSome_iff_exists.mp X.2.1.top
    obtain ⟨r, hr⟩ := State.topJava?_eq_some.mp hg
    rw [State.pushFrame, State.setFrames_setFrames, State.setTop_of_frames _ hr, State.setFrames_setFrames]
    exact X.2.2.2.2.2.2.2 F
theorem own_aLeave {g : JFrame} (X : own_A p l e s below U T m c (.java g :: rest) k w) (hr : ∃ mid, rest = mid ++ below) {meth : Method} (hm : s.vm.method? m = some meth) (hl : meth.locks = false) {y : MethodName} {methG : Method} {cg : Code} (hp : plainFor y = true) (hn : s.methodNamed? y = some g.method) (hmG : s.vm.method? g.method = some methG) (hcG : methG.code = some cg)
    {ig : Instr} {len : Nat} (hdg : decode cg.code g.pc = .ok (ig, len)) (v : Option Value) {w' : Nat} (hw : w' ≤ w + Frame.weight (.java g)) :
    own_A p l e s below U (T.setFrames (.java g :: rest)) g.method cg rest (k + 1) w' ∧
      ∀ (f : JFrame) (acts : List Action), f.method = m → f.locked = none → f.entered = [] → (doReturn e (T.setTop f) acts v).1 = (T.setFrames (.java g :: rest)).setTop { g with pc := g.pc + len, stack := v.toList ++ g.stack } := by
  obtain ⟨f₀, hf0⟩ := Option.isSome_iff_exists.mp X.2.1.top
  obtain ⟨r, hf⟩ := State.topJava?_eq_some.mp hf0
  have ht := X.2.2.2.1; rw [hf, List.tail_cons] at ht; subst ht
  have hcur := State.cur_lt_of_frames hf
  have hmG' : T.vm.method? g.method = some methG := by rw [X.2.2.1.alike.method?]; exact hmG
  have hm' : T.vm.method? m = some meth := by rw [X.2.2.1.alike.method?]; exact hm
  have hcg : T.code? g.method = some cg := by rw [State.code?_eq, hmG']; exact hcG
  have x1 := X.2.2.2.2.1; have x2 := X.2.2.2.2.2.1; rw [List.length_cons] at x1; rw [stackWeight_cons] at x2
  refine ⟨⟨X.1, X.2.1.leave hf hr hcg (State.plainMethod.of_named hp (by show (s.setVm T.vm).methodNamed? _ = _; rw [State.methodNamed?_setVm X.2.2.1.alike]; exact hn) hmG'), X.2.2.1, by rw [State.frames_setFrames _ hcur]; rfl, by omega, by omega, by rw [State.stackLimits_setFrames, X.2.2.2.2.2.2.1], fun F => by rw [State.setFrames_setFrames]; exact X.2.2.2.2.2.2.2 F⟩, fun f acts h1 h2 h3 => ?_⟩
  subst h1
  exact doReturn_leave acts hf hm' hl h2 h3 hcg hdg
theorem own_aRetD (X : own_A p l e s below U T m c rest k w) (hx : p.tables.exec = Jvm.exec) {meth : Method} (hm : s.vm.method? m = some meth) {pc : Nat} {Ls : Array Slot} {z : UInt64} {rs : List Value} (hret : meth.sig.returnType = some .double) (hd : decode c.code pc = .ok (.dreturn, 1)) {B t : State}
    (hl : ∀ (f : JFrame) (acts : List Action), f.method = m → f.locked = none → f.entered = [] → (doReturn e (T.setTop f) acts (some (.double z))).1 = B) (k : Steps p.tables e below B t) : Steps p.tables e below (T.setTop (mkF m pc Ls (.double z :: rs))) t := by
  have hm' : T.vm.method? m = some meth := by rw [X.2.2.1.alike.method?]; exact hm
  have hn : narrow .double (.double z) = .double z := rfl
  show Steps p.tables e below (T.setTop { method := m, pc := pc, locals := Ls, stack := _ :: rs, locked := none }) _
  jvm_step X.2.1 [X.2.1.top, hx, hd, hm', hret, hn]
  first | (intro acts; rw [hl _ acts rfl rfl rfl]; exact k) | (rw [hl _ _ rfl rfl rfl]; exact k)
theorem own_aRetI (X : own_A p l e s below U T m c rest k w) (hx : p.tables.exec = Jvm.exec) {meth : Method} (hm : s.vm.method? m = some meth) {pc : Nat} {Ls : Array Slot} {z : Int32} {rs : List Value} (hret : meth.sig.returnType = some .int) (hd : decode c.code pc = .ok (.ireturn, 1)) {B t : State}
    (hl : ∀ (f : JFrame) (acts : List Action), f.method = m → f.locked = none → f.entered = [] → (doReturn e (T.setTop f) acts (some (.int z))).1 = B) (k : Steps p.tables e below B t) : Steps p.tables e below (T.setTop (mkF m pc Ls (.int z :: rs))) t := by
  have hm' : T.vm.method? m = some meth := by rw [X.2.2.1.alike.method?]; exact hm
  have hn : narrow .int (.int z) = .int z := rfl
  show Steps p.tables e below (T.setTop { method := m, pc := pc, locals := Ls, stack := _ :: rs, locked := none }) _
  jvm_step X.2.1 [X.2.1.top, hx, hd, hm', hret, hn]
  first | (intro acts; rw [hl _ acts rfl rfl rfl]; exact k) | (rw [hl _ _ rfl rfl rfl]; exact k)
theorem own_aLdcJ (X : own_A p l e s below U T m c rest k w) (hx : p.tables.exec = Jvm.exec) {own : String} {index : Nat} {v : Int64} (hown : s.vm.findClass own = some m.cls) (wc : (Jvm.Cond.constantLong own index v).before a0 s = true) {g : JFrame} (hg : g.method = m) (hd : decode c.code g.pc = .ok (.ldc2_w index, 3)) {t : State}
    (k : Steps p.tables e below (T.setTop { g with pc := g.pc + 3, stack := .long v :: g.stack }) t) : Steps p.tables e below (T.setTop g) t := by
  obtain ⟨k1, cf, bytes, hk, hcf, hcp, hb⟩ := Cond.constantLong_spec hown wc
  obtain ⟨k2, hk2, he⟩ := X.2.2.1.alike.2.2 _ _ hk
  subst hg
  jvm_step X.2.1 [hx, hd, ldc2_w.wp_long (s := T) (f := g) X.2.1.top hk2 (by rw [he]; exact hcf) hcp, hb]
  exact k
theorem own_aLdcD (X : own_A p l e s below U T m c rest k w) (hx : p.tables.exec = Jvm.exec) {own : String} {index : Nat} {v : UInt64} (hown : s.vm.findClass own = some m.cls) (wc : (Jvm.Cond.constantDouble own index v).before a0 s = true) {g : JFrame} (hg : g.method = m) (hd : decode c.code g.pc = .ok (.ldc2_w index, 3)) {t : State}
    (k : Steps p.tables e below (T.setTop { g with pc := g.pc + 3, stack := .double v :: g.stack }) t) : Steps p.tables e below (T.setTop g) t := by
  obtain ⟨k1, cf, hk, hcf, hcp⟩ := Cond.constantDouble_spec hown wc
  obtain ⟨k2, hk2, he⟩ := X.2.2.1.alike.2.2 _ _ hk
  subst hg
  jvm_step X.2.1 [hx, hd, ldc2_w.wp_double (s := T) (f := g) X.2.1.top hk2 (by rw [he]; exact hcf) hcp]
  exact k
end OwnA
abbrev own_yM : MethodName := ⟨"java/lang/Math", "ceil", "(D)D"⟩
abbrev own_yS : MethodName := ⟨"java/lang/StrictMath", "ceil", "(D)D"⟩
abbrev own_yF : MethodName := ⟨"java/lang/StrictMath", "floorOrCeil", "(DDDD)D"⟩
abbrev own_yE : MethodName := ⟨"java/lang/Math", "getExponent", "(D)I"⟩
abbrev own_yB : MethodName := ⟨"java/lang/Double", "doubleToRawLongBits", "(D)J"⟩
theorem own_e0 : decode jdk_29_method_92_code 0 = .ok (.dload_n 0, 1) := by decide +kernel
theorem own_e1 : decode jdk_29_method_92_code 1 = .ok (.invokestatic 79, 3) := by decide +kernel
theorem own_e4 : decode jdk_29_method_92_code 4 = .ok (.ldc2_w 87, 3) := by decide +kernel
theorem own_e7 : decode jdk_29_method_92_code 7 = .ok (.land, 1) := by decide +kernel
theorem own_e8 : decode jdk_29_method_92_code 8 = .ok (.bipush 52, 2) := by decide +kernel
theorem own_e10 : decode jdk_29_method_92_code 10 = .ok (.lshr, 1) := by decide +kernel
theorem own_e11 : decode jdk_29_method_92_code 11 = .ok (.ldc2_w 322, 3) := by decide +kernel
theorem own_e14 : decode jdk_29_method_92_code 14 = .ok (.lsub, 1) := by decide +kernel
theorem own_e15 : decode jdk_29_method_92_code 15 = .ok (.l2i, 1) := by decide +kernel
theorem own_e16 : decode jdk_29_method_92_code 16 = .ok (.ireturn, 1) := by decide +kernel
theorem own_f0 : decode jdk_128_method_18_code 0 = .ok (.dload_n 0, 1) := by decide +kernel
theorem own_f1 : decode jdk_128_method_18_code 1 = .ok (.invokestatic 66, 3) := by decide +kernel
theorem own_f4 : decode jdk_128_method_18_code 4 = .ok (.istore 8, 2) := by decide +kernel
theorem own_f6 : decode jdk_128_method_18_code 6 = .ok (.iload 8, 2) := by decide +kernel
theorem own_f8 : decode jdk_128_method_18_code 8 = .ok (.ifCond .ge 26, 3) := by decide +kernel
theorem own_f11 : decode jdk_128_method_18_code 11 = .ok (.dload_n 0, 1) := by decide +kernel
theorem own_f12 : decode jdk_128_method_18_code 12 = .ok (.dconst 0, 1) := by decide +kernel
theorem own_f13 : decode jdk_128_method_18_code 13 = .ok (.dcmp .l, 1) := by decide +kernel
theorem own_f14 : decode jdk_128_method_18_code 14 = .ok (.ifCond .ne 7, 3) := by decide +kernel
theorem own_f17 : decode jdk_128_method_18_code 17 = .ok (.dload_n 0, 1) := by decide +kernel
theorem own_f18 : decode jdk_128_method_18_code 18 = .ok (.goto 15, 3) := by decide +kernel
theorem own_f21 : decode jdk_128_method_18_code 21 = .ok (.dload_n 0, 1) := by decide +kernel
theorem own_f22 : decode jdk_128_method_18_code 22 = .ok (.dconst 0, 1) := by decide +kernel
theorem own_f23 : decode jdk_128_method_18_code 23 = .ok (.dcmp .g, 1) := by decide +kernel
theorem own_f24 : decode jdk_128_method_18_code 24 = .ok (.ifCond .ge 7, 3) := by decide +kernel
theorem own_f27 : decode jdk_128_method_18_code 27 = .ok (.dload_n 2, 1) := by decide +kernel
theorem own_f28 : decode jdk_128_method_18_code 28 = .ok (.goto 5, 3) := by decide +kernel
theorem own_f31 : decode jdk_128_method_18_code 31 = .ok (.dload 4, 2) := by decide +kernel
theorem own_f33 : decode jdk_128_method_18_code 33 = .ok (.dreturn, 1) := by decide +kernel
theorem own_g0 : decode jdk_128_method_16_code 0 = .ok (.dload_n 0, 1) := by decide +kernel
theorem own_g1 : decode jdk_128_method_16_code 1 = .ok (.ldc2_w 58, 3) := by decide +kernel
theorem own_g4 : decode jdk_128_method_16_code 4 = .ok (.dconst 1, 1) := by decide +kernel
theorem own_g5 : decode jdk_128_method_16_code 5 = .ok (.dconst 1, 1) := by decide +kernel
theorem own_g6 : decode jdk_128_method_16_code 6 = .ok (.invokestatic 60, 3) := by decide +kernel
theorem own_g9 : decode jdk_128_method_16_code 9 = .ok (.dreturn, 1) := by decide +kernel
theorem own_plS : plainFor own_yS = true := plainFor_of_name (by first | (simp [plainName, overriddenIn]; done) | decide +kernel)
theorem own_plF : plainFor own_yF = true := plainFor_of_name (by first | (simp [plainName, overriddenIn]; done) | decide +kernel)
theorem own_plE : plainFor own_yE = true := Jvm.Free.JP.mathPlain rfl (by decide +kernel)
theorem own_sgF : parseMethodDescriptor "(DDDD)D" = some ⟨[.double, .double, .double, .double], some .double⟩ := by decide +kernel
theorem own_sgE : parseMethodDescriptor "(D)I" = some ⟨[.double], some .int⟩ := by decide +kernel
theorem own_sgM : parseMethodDescriptor "(D)D" = some ⟨[.double], some .double⟩ := by decide +kernel
section OwnCeil
variable {p : Program} {l : Launch} {e : Env} {s U T Z : State} {below rest : List Frame} {m : MethodId} {c : Code} {k w : Nat} {a0 : Array Value}
set_option maxRecDepth 65536 in
set_option maxHeartbeats 1000000 in
theorem own_gexp (hZ : Z.Warmed39 s.vm) (hw : ∀ d ∈ tables_1, d.before a0 Z = true) (hx : p.tables.exec = Jvm.exec) (X : own_A p l e s below U T m c rest 1 w) (hn : s.methodNamed? own_yE = some m) (hby : c.code = jdk_29_method_92_code) (hwt : 28 ≤ w) :
    ∃ vm', own_A p l e s below U (T.setVm vm') m c rest 1 w ∧ ∀ t, Steps p.tables e below ((T.setVm vm').setTop (mkF m 16 #[.val (.double 0), .second] [.int (-1023)])) t → Steps p.tables e below (T.setTop (mkF m 0 #[.val (.double 0), .second] [])) t := by
  have hown : s.vm.findClass "java/lang/Math" = some m.cls := findClass_of_methodNamed hn
  have w87 : (Jvm.Cond.constantLong "java/lang/Math" 87 9218868437227405312).before #[] s = true := mvT hZ (hw _ (List.mem_of_getElem? (i := 68) rfl))
  have w322 : (Jvm.Cond.constantLong "java/lang/Math" 322 1023).before #[] s = true := mvT hZ (hw _ (List.mem_of_getElem? (i := 69) rfl))
  have wn : (Jvm.Cond.native own_yB).before #[] s = true := mvT hZ (hw _ (List.mem_of_getElem? (i := 67) rfl))
  have ws : (Jvm.Cond.static own_yB).before #[] s = true := mvT hZ (hw _ (List.mem_of_getElem? (i := 65) rfl))
  obtain ⟨mB, kB, xB, nB, hmB, -, N⟩ := NativeOf.of_static wn ws Jvm.Free.NT.descDJ
  obtain ⟨vm', X', st⟩ := own_aInv (a0 := #[]) X hx hown (mvT hZ (hw _ (List.mem_of_getElem? (i := 64) rfl))) (mvT hZ (hw _ (List.mem_of_getElem? (i := 65) rfl))) (mvT hZ (hw _ (List.mem_of_getElem? (i := 66) rfl))) nB hmB (by decide) (g := mkF m 1 #[.val (.double 0), .second] [.double 0]) rfl (argsL := [.double 0]) (rst := []) (by rw [N.sig]; rfl) rfl (hb hby own_e1)
  refine ⟨vm', X', fun t kk => ?_⟩
  refine XS.dloadN X.2.1 hx rfl (hb hby own_e0) rfl ?_
  refine st t fun acts => ?_
  obtain ⟨kB', N'⟩ := N.alike X'.2.2.1.alike
  have x1 := X'.2.2.2.2.1; have x2 := X'.2.2.2.2.2.1
  have hfull : e.platform.stackFull ((((T.setVm vm').setTop (mkF m 1 #[.val (.double 0), .second] [])).threads[((T.setVm vm').setTop (mkF m 1 #[.val (.double 0), .second] [])).cur]?).getD { frames := [] }) ((T.setVm vm').setTop (mkF m 1 #[.val (.double 0), .second] [])).frames (nativeFrameWords "java/lang/Double" "doubleToRawLongBits" 2) = false := by
    refine stackFull_of (F := .java (mkF m 1 #[.val (.double 0), .second] []) :: rest) (by rw [State.frames_setTop' _ X'.2.1.top, X'.2.2.2.1]) ?_ ?_
    · rw [State.stackLimits_setTop _ X'.2.1.top, X'.2.2.2.2.2.2.1, List.length_cons]; omega
    · rw [State.stackLimits_setTop _ X'.2.1.top, X'.2.2.2.2.2.2.1, stackWeight_cons, nativeFrameWords_plain 2 (by decide)]
      have : Frame.weight (.java (mkF m 1 #[.val (.double 0), .second] [])) = 13 := rfl
      omega
  refine Steps.doubleToRawLongBitsOf p (g := mkF m 1 #[.val (.double 0), .second] []) X'.2.1 acts N' 0 hfull (hb hby own_e1) ?_
  show Steps p.tables e below ((T.setVm vm').setTop (mkF m 4 #[.val (.double 0), .second] [.long (0 : UInt64).toInt64])) t
  refine own_aLdcJ X' hx hown w87 (g := mkF m 4 #[.val (.double 0), .second] [.long (0 : UInt64).toInt64]) rfl (hb hby own_e4) ?_
  show Steps p.tables e below ((T.setVm vm').setTop (mkF m 7 #[.val (.double 0), .second] [.long (9218868437227405312 : Int64), .long (0 : UInt64).toInt64])) t
  refine XS.land X'.2.1 hx rfl (hb hby own_e7) rfl ?_
  show Steps p.tables e below ((T.setVm vm').setTop (mkF m 8 #[.val (.double 0), .second] [.long ((0 : UInt64).toInt64 &&& (9218868437227405312 : Int64))])) t
  refine XS.bipush X'.2.1 hx rfl (hb hby own_e8) ?_
  show Steps p.tables e below ((T.setVm vm').setTop (mkF m 10 #[.val (.double 0), .second] [.int 52, .long ((0 : UInt64).toInt64 &&& (9218868437227405312 : Int64))])) t
  refine XS.lshr X'.2.1 hx rfl (hb hby own_e10) rfl ?_
  show Steps p.tables e below ((T.setVm vm').setTop (mkF m 11 #[.val (.double 0), .second] [.long (((0 : UInt64).toInt64 &&& (9218868437227405312 : Int64)) >>> ((52 : Int32) &&& 0x3f).toInt64)])) t
  refine own_aLdcJ X' hx hown w322 (g := mkF m 11 #[.val (.double 0), .second] [.long (((0 : UInt64).toInt64 &&& (9218868437227405312 : Int64)) >>> ((52 : Int32) &&& 0x3f).toInt64)]) rfl (hb hby own_e11) ?_
  show Steps p.tables e below ((T.setVm vm').setTop (mkF m 14 #[.val (.double 0), .second] [.long (1023 : Int64), .long (((0 : UInt64).toInt64 &&& (9218868437227405312 : Int64)) >>> ((52 : Int32) &&& 0x3f).toInt64)])) t
  refine XS.lsub X'.2.1 hx rfl (hb hby own_e14) rfl ?_
  show Steps p.tables e below ((T.setVm vm').setTop (mkF m 15 #[.val (.double 0), .second] [.long ((((0 : UInt64).toInt64 &&& (9218868437227405312 : Int64)) >>> ((52 : Int32) &&& 0x3f).toInt64) - (1023 : Int64))])) t
  refine XS.l2i X'.2.1 hx rfl (hb hby own_e15) rfl ?_
  show Steps p.tables e below ((T.setVm vm').setTop (mkF m 16 #[.val (.double 0), .second] [.int (((((0 : UInt64).toInt64 &&& (9218868437227405312 : Int64)) >>> ((52 : Int32) &&& 0x3f).toInt64) - (1023 : Int64)).toInt32)])) t
  rw [show (((((0 : UInt64).toInt64 &&& (9218868437227405312 : Int64)) >>> ((52 : Int32) &&& 0x3f).toInt64) - (1023 : Int64)).toInt32) = (-1023 : Int32) from by decide +kernel]
  exact kk
set_option maxRecDepth 65536 in
set_option maxHeartbeats 1000000 in
theorem own_foc (hZ : Z.Warmed39 s.vm) (hw : ∀ d ∈ tables_1, d.before a0 Z = true) (hx : p.tables.exec = Jvm.exec) {b1 b2 b3 : UInt64} (X : own_A p l e s below U T m c rest 2 w) (hr : ∃ mid, rest = mid ++ below) (hn : s.methodNamed? own_yF = some m) {meth : Method} (hm : s.vm.method? m = some meth) (hc : meth.code = some c) (hby : c.code = jdk_128_method_18_code) (hwt : 54 ≤ w) {Lc : Array Slot} (hL : Lc = #[.val (.double 0), .second, .val (.double b1), .second, .val (.double b2), .second, .val (.double b3), .second, .unset, .unset, .unset, .unset, .unset, .unset, .unset]) :
    ∃ T' Lc', own_A p l e s below U T' m c rest 2 w ∧ ∀ t, Steps p.tables e below (T'.setTop (mkF m 33 Lc' [.double 0])) t → Steps p.tables e below (T.setTop (mkF m 0 Lc [])) t := by
  have hown : s.vm.findClass "java/lang/StrictMath" = some m.cls := findClass_of_methodNamed hn
  have wcE : (Jvm.Cond.code own_yE jdk_29_method_92_code 2 (some .int)).before #[] s = true := mvT hZ (hw _ (List.mem_of_getElem? (i := 63) rfl))
  obtain ⟨mE, nE⟩ := Cond.code_named wcE
  obtain ⟨xE, cE, hmE, hcE, hbE, hlE, hrE, hkE, -, hsE⟩ := Cond.code_spec nE wcE
  obtain ⟨vm', X', st⟩ := own_aInv (a0 := #[]) X hx hown (mvT hZ (hw _ (List.mem_of_getElem? (i := 61) rfl))) (mvT hZ (hw _ (List.mem_of_getElem? (i := 62) rfl))) (mvT hZ (hw _ (List.mem_of_getElem? (i := 23) rfl))) nE hmE (by decide) (g := mkF m 1 Lc [.double 0]) rfl (argsL := [.double 0]) (rst := []) (by rw [← Option.some.inj (own_sgE.symm.trans hsE)]; rfl) rfl (hb hby own_f1)
  obtain ⟨X2, hent⟩ := own_aEnter X' (g := mkF m 1 Lc []) rfl (y := own_yE) #[.double 0] own_plE nE hmE hcE hkE (wg := 26) (w' := w - 26) (by subst hL; exact Nat.le_refl _) (by omega) (by rw [hlE]; omega)
  rw [hlE] at X2 hent
  obtain ⟨vm2, X3, st2⟩ := own_gexp hZ hw hx X2 nE hbE (by omega)
  have hwl : Frame.weight (.java (mkF m 1 Lc [])) = 26 := by subst hL; rfl
  obtain ⟨X4, hlv⟩ := own_aLeave X3 hr hmE hkE (y := own_yF) own_plF hn hm hc (ig := .invokestatic 66) (len := 3) (hb hby own_f1) (some (.int (-1023))) (w' := w) (by rw [hwl]; omega)
  subst hL
  obtain ⟨TT, hTT⟩ : ∃ z, z = ((((T.setVm vm').setTop (mkF m 1 #[.val (.double 0), .second, .val (.double b1), .second, .val (.double b2), .second, .val (.double b3), .second, .unset, .unset, .unset, .unset, .unset, .unset, .unset] [])).pushFrame (.java (entryFrame mE #[.double 0] 2))).setVm vm2).setFrames (.java (mkF m 1 #[.val (.double 0), .second, .val (.double b1), .second, .val (.double b2), .second, .val (.double b3), .second, .unset, .unset, .unset, .unset, .unset, .unset, .unset] []) :: rest) := ⟨_, rfl⟩
  rw [← hTT] at X4 hlv
  refine ⟨TT, #[.val (.double 0), .second, .val (.double b1), .second, .val (.double b2), .second, .val (.double b3), .second, .val (.int (-1023)), .unset, .unset, .unset, .unset, .unset, .unset], X4, fun t kk => ?_⟩
  refine XS.dloadN X.2.1 hx rfl (hb hby own_f0) rfl ?_
  refine st t fun acts => ?_
  rw [show (#[Value.double 0] : Array Value) = [Value.double 0].toArray from rfl] at hent
  rw [hent acts]
  refine st2 t ?_
  refine own_aRetI X3 hx hmE hrE (hb hbE own_e16) hlv ?_
  show Steps p.tables e below (TT.setTop (mkF m 4 #[.val (.double 0), .second, .val (.double b1), .second, .val (.double b2), .second, .val (.double b3), .second, .unset, .unset, .unset, .unset, .unset, .unset, .unset] [.int (-1023)])) t
  refine XS.istore X4.2.1 hx rfl (hb hby own_f4) rfl (l' := #[.val (.double 0), .second, .val (.double b1), .second, .val (.double b2), .second, .val (.double b3), .second, .val (.int (-1023)), .unset, .unset, .unset, .unset, .unset, .unset]) rfl ?_
  show Steps p.tables e below (TT.setTop (mkF m 6 #[.val (.double 0), .second, .val (.double b1), .second, .val (.double b2), .second, .val (.double b3), .second, .val (.int (-1023)), .unset, .unset, .unset, .unset, .unset, .unset] [])) t
  refine XS.iload X4.2.1 hx rfl (hb hby own_f6) rfl ?_
  show Steps p.tables e below (TT.setTop (mkF m 8 #[.val (.double 0), .second, .val (.double b1), .second, .val (.double b2), .second, .val (.double b3), .second, .val (.int (-1023)), .unset, .unset, .unset, .unset, .unset, .unset] [.int (-1023)])) t
  refine XS.ifNo X4.2.1 hx rfl (hb hby own_f8) rfl (Jvm.Free.XT.i0_ge_f (by decide)) ?_
  show Steps p.tables e below (TT.setTop (mkF m 11 #[.val (.double 0), .second, .val (.double b1), .second, .val (.double b2), .second, .val (.double b3), .second, .val (.int (-1023)), .unset, .unset, .unset, .unset, .unset, .unset] [])) t
  refine XS.dloadN X4.2.1 hx rfl (hb hby own_f11) rfl ?_
  show Steps p.tables e below (TT.setTop (mkF m 12 #[.val (.double 0), .second, .val (.double b1), .second, .val (.double b2), .second, .val (.double b3), .second, .val (.int (-1023)), .unset, .unset, .unset, .unset, .unset, .unset] [.double 0])) t
  refine XS.dconst0 X4.2.1 hx rfl (hb hby own_f12) (v := 0) rfl ?_
  show Steps p.tables e below (TT.setTop (mkF m 13 #[.val (.double 0), .second, .val (.double b1), .second, .val (.double b2), .second, .val (.double b3), .second, .val (.int (-1023)), .unset, .unset, .unset, .unset, .unset, .unset] [.double 0, .double 0])) t
  refine XS.dcmpS X4.2.1 hx rfl (hb hby own_f13) rfl (v := 0) (by decide +kernel) ?_
  show Steps p.tables e below (TT.setTop (mkF m 14 #[.val (.double 0), .second, .val (.double b1), .second, .val (.double b2), .second, .val (.double b3), .second, .val (.int (-1023)), .unset, .unset, .unset, .unset, .unset, .unset] [.int 0])) t
  refine XS.ifNo X4.2.1 hx rfl (hb hby own_f14) rfl (Jvm.Free.XT.i0_ne_f rfl) ?_
  show Steps p.tables e below (TT.setTop (mkF m 17 #[.val (.double 0), .second, .val (.double b1), .second, .val (.double b2), .second, .val (.double b3), .second, .val (.int (-1023)), .unset, .unset, .unset, .unset, .unset, .unset] [])) t
  refine XS.dloadN X4.2.1 hx rfl (hb hby own_f17) rfl ?_
  show Steps p.tables e below (TT.setTop (mkF m 18 #[.val (.double 0), .second, .val (.double b1), .second, .val (.double b2), .second, .val (.double b3), .second, .val (.int (-1023)), .unset, .unset, .unset, .unset, .unset, .unset] [.double 0])) t
  refine XS.goto X4.2.1 hx rfl (pc0 := 18) (pc' := 33) rfl (hb hby own_f18) (by decide) (by decide) ?_
  show Steps p.tables e below (TT.setTop (mkF m 33 #[.val (.double 0), .second, .val (.double b1), .second, .val (.double b2), .second, .val (.double b3), .second, .val (.int (-1023)), .unset, .unset, .unset, .unset, .unset, .unset] [.double 0])) t
  exact kk
set_option maxRecDepth 65536 in
set_option maxHeartbeats 1000000 in
theorem own_sceil (hZ : Z.Warmed39 s.vm) (hw : ∀ d ∈ tables_1, d.before a0 Z = true) (hx : p.tables.exec = Jvm.exec) (X : own_A p l e s below U T m c rest 3 w) (hr : ∃ mid, rest = mid ++ below) (hn : s.methodNamed? own_yS = some m) {meth : Method} (hm : s.vm.method? m = some meth) (hc : meth.code = some c) (hby : c.code = jdk_128_method_16_code) (hwt : 67 ≤ w) :
    ∃ T', own_A p l e s below U T' m c rest 3 w ∧ ∀ t, Steps p.tables e below (T'.setTop (mkF m 9 #[.val (.double 0), .second] [.double 0])) t → Steps p.tables e below (T.setTop (mkF m 0 #[.val (.double 0), .second] [])) t := by
  have hown : s.vm.findClass "java/lang/StrictMath" = some m.cls := findClass_of_methodNamed hn
  have wcF : (Jvm.Cond.code own_yF jdk_128_method_18_code 15 (some .double)).before #[] s = true := mvT hZ (hw _ (List.mem_of_getElem? (i := 60) rfl))
  have w58 : (Jvm.Cond.constantDouble "java/lang/StrictMath" 58 9223372036854775808).before #[] s = true := mvT hZ (hw _ (List.mem_of_getElem? (i := 57) rfl))
  obtain ⟨mF, nF⟩ := Cond.code_named wcF
  obtain ⟨xF, cF, hmF, hcF, hbF, hlF, hrF, hkF, -, hsF⟩ := Cond.code_spec nF wcF
  obtain ⟨vm', X', st⟩ := own_aInv (a0 := #[]) X hx hown (mvT hZ (hw _ (List.mem_of_getElem? (i := 58) rfl))) (mvT hZ (hw _ (List.mem_of_getElem? (i := 59) rfl))) (mvT hZ (hw _ (List.mem_of_getElem? (i := 55) rfl))) nF hmF (by decide) (g := mkF m 6 #[.val (.double 0), .second] [.double FP.dconst1, .double FP.dconst1, .double 9223372036854775808, .double 0]) rfl (argsL := [.double 0, .double 9223372036854775808, .double FP.dconst1, .double FP.dconst1]) (rst := []) (by rw [← Option.some.inj (own_sgF.symm.trans hsF)]; rfl) rfl (hb hby own_g6)
  obtain ⟨X2, hent⟩ := own_aEnter X' (g := mkF m 6 #[.val (.double 0), .second] []) rfl (y := own_yF) #[.double 0, .double 9223372036854775808, .double FP.dconst1, .double FP.dconst1] own_plF nF hmF hcF hkF (wg := 13) (w' := w - 13) (Nat.le_refl _) (by omega) (by rw [hlF]; omega)
  rw [hlF] at X2 hent
  obtain ⟨T3, Lc, X3, st2⟩ := own_foc hZ hw hx X2 (by obtain ⟨mid, rfl⟩ := hr; exact ⟨_ :: mid, rfl⟩) nF hmF hcF hbF (by omega) rfl
  have hwl : Frame.weight (.java (mkF m 6 #[.val (.double 0), .second] [])) = 13 := rfl
  obtain ⟨X4, hlv⟩ := own_aLeave X3 hr hmF hkF (y := own_yS) own_plS hn hm hc (ig := .invokestatic 60) (len := 3) (hb hby own_g6) (some (.double 0)) (w' := w) (by rw [hwl]; omega)
  refine ⟨_, X4, fun t kk => ?_⟩
  refine XS.dloadN X.2.1 hx rfl (hb hby own_g0) rfl ?_
  show Steps p.tables e below (T.setTop (mkF m 1 #[.val (.double 0), .second] [.double 0])) t
  refine own_aLdcD X hx hown w58 (g := mkF m 1 #[.val (.double 0), .second] [.double 0]) rfl (hb hby own_g1) ?_
  show Steps p.tables e below (T.setTop (mkF m 4 #[.val (.double 0), .second] [.double 9223372036854775808, .double 0])) t
  refine XS.dconst1 X.2.1 hx rfl (hb hby own_g4) rfl ?_
  show Steps p.tables e below (T.setTop (mkF m 5 #[.val (.double 0), .second] [.double FP.dconst1, .double 9223372036854775808, .double 0])) t
  refine XS.dconst1 X.2.1 hx rfl (hb hby own_g5) rfl ?_
  show Steps p.tables e below (T.setTop (mkF m 6 #[.val (.double 0), .second] [.double FP.dconst1, .double FP.dconst1, .double 9223372036854775808, .double 0])) t
  refine st t fun acts => ?_
  rw [show (#[.double 0, .double 9223372036854775808, .double FP.dconst1, .double FP.dconst1] : Array Value) = [.double 0, .double 9223372036854775808, .double FP.dconst1, .double FP.dconst1].toArray from rfl] at hent
  rw [hent acts]
  refine castTop (g' := mkF mF 0 #[.val (.double 0), .second, .val (.double 9223372036854775808), .second, .val (.double FP.dconst1), .second, .val (.double FP.dconst1), .second, .unset, .unset, .unset, .unset, .unset, .unset, .unset] []) (by first | (simp [entryFrame, mkF, argsToLocals, Value.category]; done) | rfl) ?_
  refine st2 t ?_
  exact own_aRetD X3 hx hmF hrF (hb hbF own_f33) hlv kk
abbrev own_nf (mM : MethodId) : NFrame := { method := mM, args := #[.double 0], stage := 1, saved := #[], awaiting := true, answer := none, words := 0 }
abbrev own_nf2 (mM : MethodId) : NFrame := { method := mM, args := #[.double 0], stage := 1, saved := #[], awaiting := false, answer := some (.returned (some (.double 0))), words := 0 }
set_option maxRecDepth 65536 in
set_option maxHeartbeats 1000000 in
theorem own_ceilBack {R : Room} {args : Array Value} (hZ : Z.Warmed39 s.vm) (hw : ∀ d ∈ tables_1, d.before a0 Z = true) (hx : p.tables.exec = Jvm.exec) {W : Nat} (hfr : 5 ≤ R.frames) (hlo : W + 67 ≤ R.locals) :
    Back l R p e below s args own_yM 3 W (fun _ a => a = #[.double 0]) (fun A _ v B => v = some (.double 0) ∧ ∃ vm', B = ⟨A.U.setVm vm', A.locs, A.cells, A.slots⟩) := by
  intro m meth c A g ig mk a' X hg hsize hdg hW hnamed ha
  subst ha
  obtain ⟨U, Ls, c0, s0⟩ := A
  dsimp only [Pt.U, Pt.locs, Pt.cells, Pt.slots] at X hnamed ⊢
  have wM : (Jvm.Cond.code own_yM jdk_29_method_16_code 2 (some .double)).before #[] s = true := mvT hZ (hw _ (List.mem_of_getElem? (i := 52) rfl))
  have wS : (Jvm.Cond.code own_yS jdk_128_method_16_code 2 (some .double)).before #[] s = true := mvT hZ (hw _ (List.mem_of_getElem? (i := 56) rfl))
  have wI : (Jvm.Cond.initialized "java/lang/StrictMath").before #[] s = true := mvT hZ (hw _ (List.mem_of_getElem? (i := 55) rfl))
  obtain ⟨mM, nM⟩ := Cond.code_named wM
  cases (X.named nM).symm.trans hnamed
  obtain ⟨xM, cM, hmM, hcM, hbM, hlM, hrM, hkM, -, hsM⟩ := Cond.code_spec nM wM
  have hmU : U.vm.method? mk = some xM := by rw [X.warmed.alike.method?]; exact hmM
  obtain ⟨kP, hkP, hkn⟩ := className_of_methodNamed (X.named nM)
  obtain ⟨hmn, hmd⟩ := name_of_methodNamed (X.named nM) hmU
  have hxP : kP.methods[mk.idx]? = some xM := by simpa [Vm.method?, hkP] using hmU
  have hboot : kP.loader = none := Vm.bootOf_findClass (findClass_of_methodNamed (X.named nM)) hkP
  obtain ⟨mS, nS⟩ := Cond.code_named wS
  obtain ⟨xS, cS, hmS, hcS, hbS, hlS, hrS, hkS, -, hsS⟩ := Cond.code_spec nS wS
  obtain ⟨kS0, hk0, -⟩ := className_of_methodNamed nS
  have hi0 : kS0.init = .initialized := Cond.initialized_spec (findClass_of_methodNamed nS) hk0 wI
  obtain ⟨kS, hkS1, hkSe⟩ := X.warmed.alike.2.2 _ _ hk0
  have hiS : kS.init = .initialized := by rw [hkSe]; exact hi0
  have hfS : U.vm.findClass "java/lang/StrictMath" = some mS.cls := findClass_of_methodNamed (X.named nS)
  have hfm : kS.findMethod "ceil" "(D)D" = some mS.idx := by
    have h := X.named nS
    simp only [State.methodNamed?, Option.bind_eq_bind, Option.pure_def, hfS, Option.bind_some, hkS1] at h
    cases q : kS.findMethod "ceil" "(D)D" with
    | none => rw [q] at h; cases h
    | some j => rw [q] at h; simp at h; rw [← h]
  obtain ⟨g0, hf0⟩ := X.frames_eq
  have hcur : U.cur < U.threads.size := State.cur_lt_of_frames hf0
  obtain ⟨-, r2, -, r4⟩ := State.hasRoom_stack X.room
  rw [State.localsInUse_invoking X.frames X.method X.code] at r4
  rw [X.frames, List.length_cons] at r2
  have hvw : vmFrameWords = 1024 := rfl
  have hgw : Frame.weight (.java g) = 11 + g.locals.size + 2 * g.monitorRoom + (g.stack.map fun v => v.category).sum := rfl
  have hnw : Frame.weight (.native (own_nf mk)) = 1024 := rfl
  have hUl := X.limits
  have htop : U.setTop g = U.setFrames (.java g :: below) := State.setTop_of_frames _ hf0
  have hfull0 : e.platform.stackFull (((U.setTop g).threads[(U.setTop g).cur]?).getD { frames := [] }) (U.setTop g).frames cM.maxLocals = false := X.notFull hsize (by omega) (by rw [hlM]; omega)
  have hV : (doInvoke e (U.setTop g) [] mk #[.double 0]).1 = U.setFrames (.java (entryFrame mk #[.double 0] 2) :: .java g :: below) := by
    rw [(doInvoke_java (s := U.setTop g) (e := e) (acts := []) (args := #[.double 0]) hmU hcM hkM hfull0).1, hlM, State.pushFrame, State.frames_setTop _ hf0, htop, State.setFrames_setFrames]
    rfl
  have hfV : (U.setFrames (.java (entryFrame mk #[.double 0] 2) :: .java g :: below)).frames = .java (entryFrame mk #[.double 0] 2) :: .java g :: below := State.frames_setFrames _ hcur
  have hgb : givenBack (entryFrame mk #[.double 0] 2).locals (xM.sig.parameters.length + (if xM.isStatic then 0 else 1)) = #[.double 0] := by
    rw [← Option.some.inj (own_sgM.symm.trans hsM)]
    cases xM.isStatic <;> rfl
  obtain ⟨acts2, hrun⟩ := Jvm.Free.Hsc.ceil_run 0 e (U.setFrames (.native { method := mk, args := #[.double 0], locked := none } :: .java g :: below)) hfS hkS1 hiS hfm
  have hst1 : (stepThread p.tables e (U.setFrames (.java (entryFrame mk #[.double 0] 2) :: .java g :: below))).1 = (doInvoke e (U.setFrames (.native (own_nf mk) :: .java g :: below)) acts2 mS #[.double 0]).1 := by
    rw [stepThread_overridden hfV rfl hkP hxP (by rw [hkn]; decide) hboot (by rw [hkn, hmn, hmd]; exact Jvm.Free.Hsc.ceil_row p), hgb, State.setFrames_setFrames]
    show (afterNative e _ _ ((Jvm.Free.Hsc.ceilRow.sem #[.double 0]).run e (U.setFrames (.native { method := mk, args := #[.double 0], locked := none } :: .java g :: below)))).1 = _
    rw [hrun]
    have hwd : (((U.setFrames (.native { method := mk, args := #[.double 0], locked := none } :: .java g :: below)).vm.classes[mk.cls]?).bind fun k => (k.methods[mk.idx]?).map fun n => upcallWords k.name n.name).getD 0 = 0 := by
      show ((U.vm.classes[mk.cls]?).bind fun k => (k.methods[mk.idx]?).map fun n => upcallWords k.name n.name).getD 0 = 0
      simp [hkP, hxP, hkn, hmn, upcallWords]
    show (doInvoke e ((U.setFrames (.native { method := mk, args := #[.double 0], locked := none } :: .java g :: below)).setFrames (.native { method := mk, args := #[.double 0], stage := 1, saved := #[], awaiting := true, answer := none, words := (((U.setFrames (.native { method := mk, args := #[.double 0], locked := none } :: .java g :: below)).vm.classes[mk.cls]?).bind fun k => (k.methods[mk.idx]?).map fun n => upcallWords k.name n.name).getD 0 } :: .java g :: below)) acts2 mS #[.double 0]).1 = _
    rw [hwd, State.setFrames_setFrames]
  have hfN : (U.setFrames (.native (own_nf mk) :: .java g :: below)).frames = .native (own_nf mk) :: .java g :: below := State.frames_setFrames _ hcur
  have hmSU : U.vm.method? mS = some xS := by rw [X.warmed.alike.method?]; exact hmS
  have hwN : stackWeight (.native (own_nf mk) :: .java g :: below) = 1024 + (Frame.weight (.java g) + stackWeight below) := by rw [stackWeight_cons, stackWeight_cons, hnw]
  have hfull1 : e.platform.stackFull (((U.setFrames (.native (own_nf mk) :: .java g :: below)).threads[(U.setFrames (.native (own_nf mk) :: .java g :: below)).cur]?).getD { frames := [] }) (U.setFrames (.native (own_nf mk) :: .java g :: below)).frames cS.maxLocals = false :=
    stackFull_of hfN (by rw [State.stackLimits_setFrames, hUl, List.length_cons, List.length_cons]; omega) (by rw [State.stackLimits_setFrames, hUl, hwN, hlS]; omega)
  have hT1 : ∀ acts, (doInvoke e (U.setFrames (.native (own_nf mk) :: .java g :: below)) acts mS #[.double 0]).1 = U.setFrames (.java (entryFrame mS #[.double 0] 2) :: .native (own_nf mk) :: .java g :: below) := fun acts => by
    rw [(doInvoke_java (s := U.setFrames (.native (own_nf mk) :: .java g :: below)) (e := e) (acts := acts) (args := #[.double 0]) hmSU hcS hkS hfull1).1, hlS, State.pushFrame, hfN, State.setFrames_setFrames]
    rfl
  have hfT : (U.setFrames (.java (entryFrame mS #[.double 0] 2) :: .native (own_nf mk) :: .java g :: below)).frames = .java (entryFrame mS #[.double 0] 2) :: .native (own_nf mk) :: .java g :: below := State.frames_setFrames _ hcur
  have hplS : U.plainMethod mS := State.plainMethod.of_named own_plS (X.named nS) hmSU
  have X1 : own_A p l e s below U (U.setFrames (.java (entryFrame mS #[.double 0] 2) :: .native (own_nf mk) :: .java g :: below)) mS cS (.native (own_nf mk) :: .java g :: below) 3 67 := by
    refine ⟨X.admits, ⟨by rw [State.topJava?_of_frames hfT]; rfl, ⟨[.native (own_nf mk), .java g], by rw [hfT]; rfl⟩, X.here.running, by simpa using X.here.runnable, by simpa using X.here.alone, by rw [State.code?_eq]; show (U.vm.method? mS).bind _ = _; rw [hmSU]; exact hcS, hplS⟩, X.warmed, by rw [hfT]; rfl, ?_, ?_, by rw [State.stackLimits_setFrames], fun F => by rw [State.setFrames_setFrames]; rfl⟩
    · rw [hUl, List.length_cons, List.length_cons]; omega
    · rw [hUl, hwN]; omega
  obtain ⟨T2, X2, st2⟩ := own_sceil hZ hw hx X1 ⟨[.native (own_nf mk), .java g], rfl⟩ nS hmS hcS hbS (Nat.le_refl _)
  obtain ⟨f2, hf2⟩ := Option.isSome_iff_exists.mp X2.2.1.top
  obtain ⟨r2', hr2'⟩ := State.topJava?_eq_some.mp hf2
  have ht2 := X2.2.2.2.1; rw [hr2', List.tail_cons] at ht2; subst ht2
  have hcur2 := State.cur_lt_of_frames hr2'
  have hret : ∀ (f : JFrame) (acts : List Action), f.method = mS → f.locked = none → f.entered = [] → (doReturn e (T2.setTop f) acts (some (.double 0))).1 = T2.setFrames (.native (own_nf2 mk) :: .java g :: below) := fun f acts h1 h2 h3 => by
    subst h1
    rw [(doReturn_plain (s := T2.setTop f) (e := e) (acts := acts) (v := some (.double 0)) (f := f) (fs := .native (own_nf2 mk) :: .java g :: below) (State.frames_setTop f hr2') (by show T2.vm.method? f.method = some xS; rw [X2.2.2.1.alike.method?]; exact hmS) hkS h2 h3 rfl).1, State.setTop_of_frames _ hr2', State.setFrames_setFrames]
  have hf6 : (T2.setFrames (.native (own_nf2 mk) :: .java g :: below)).frames = .native (own_nf2 mk) :: .java g :: below := State.frames_setFrames _ hcur2
  have hal : s.vm.Alike T2.vm := X2.2.2.1.alike
  obtain ⟨kQ0, hq0, hq1⟩ := className_of_methodNamed nM
  obtain ⟨kQ, hkQ, hkQe⟩ := hal.2.2 _ _ hq0
  have hbQ0 : kQ0.loader = none := Vm.bootOf_findClass (findClass_of_methodNamed nM) hq0
  have hxQ0 : kQ0.methods[mk.idx]? = some xM := by simpa [Vm.method?, hq0] using hmM
  have hbQ : kQ.loader = none := by rw [hkQe]; exact hbQ0
  have hxQ : kQ.methods[mk.idx]? = some xM := by rw [hkQe]; exact hxQ0
  have hnQ : kQ.name = "java/lang/Math" := by rw [hkQe]; exact hq1
  obtain ⟨acts3, hres⟩ := Jvm.Free.Hsc.ceil_resume (r := 0) (by decide) e (T2.setFrames (.native (own_nf2 mk) :: .java g :: below))
  have hcg : (T2.setFrames (.native (own_nf2 mk) :: .java g :: below)).code? g.method = some c := by
    rw [State.code?_eq]; show (T2.vm.method? g.method).bind _ = _
    rw [hal.method?, hg, X.method]; exact X.code
  have hho : handOver (T2.setFrames (.native (own_nf2 mk) :: .java g :: below)) (some (.double 0)) (.java g :: below) = some (.java { g with pc := g.pc + 3, stack := .double 0 :: g.stack } :: below) := by
    simp [handOver, hcg, hdg, Except.toOption]
  have hst6 : (stepThread p.tables e (T2.setFrames (.native (own_nf2 mk) :: .java g :: below))).1 = (U.setVm T2.vm).setTop { g with pc := g.pc + 3, stack := .double 0 :: g.stack } := by
    rw [Jvm.Free.Hsc.stepThread_resumed' (f := own_nf2 mk) (o := .returned (some (.double 0))) hf6 hkQ hbQ hxQ (by rw [hnQ, hmn, hmd]; exact Jvm.Free.Hsc.ceil_row p) rfl]
    show (afterNative e _ _ ((Jvm.Free.Hsc.ceilRow.resume 1 #[] (.returned (some (.double 0)))).run e _)).1 = _
    rw [hres]
    show (doReturn e _ acts3 _).1 = _
    rw [doReturn_native (f := own_nf2 mk) hf6 rfl hho, State.setFrames_setFrames, X2.2.2.2.2.2.2.2, State.setTop_of_frames (s := U.setVm T2.vm) _ hf0]
  refine ⟨some (.double 0), ⟨U.setVm T2.vm, Ls, c0, s0⟩, X.noted X2.2.2.1, ⟨rfl, T2.vm, rfl⟩, ?_⟩
  rw [hV]
  refine Steps.head ⟨X.here.running, by simpa using X.here.runnable, by simpa using X.here.alone⟩ ⟨[.java (entryFrame mk #[.double 0] 2), .java g], by rw [hfV]; rfl, by simp, by simp⟩ ?_
  rw [hst1, hT1, ← State.setTop_self (State.topJava?_of_frames hfT)]
  refine castTop (g' := mkF mS 0 #[.val (.double 0), .second] []) (by first | (simp [entryFrame, mkF, argsToLocals, Value.category]; done) | rfl) ?_
  refine st2 _ ?_
  refine own_aRetD X2 hx hmS hrS (hb hbS own_g9) hret ?_
  refine Steps.head ⟨X2.2.1.running, by simpa using X2.2.1.runnable, by simpa using X2.2.1.alone⟩ ⟨[.native (own_nf2 mk), .java g], by rw [hf6]; rfl, by simp, by simp⟩ ?_
  rw [hst6]
  exact Steps.refl _
end OwnCeil

def own_mx (a b : Int64) : Int64 := if a < b then b else a
def own_mn (a b : Int64) : Int64 := if b < a then b else a
def own_z4 (i n : Int32) : Int32 := n - ((i.toUInt32 >>> ((1 : Int32) &&& 31).toUInt32).toInt32)
def own_z3 (i n : Int32) : Int32 := if i < 4 then own_z4 i n else own_z4 ((i.toUInt32 >>> ((2 : Int32) &&& 31).toUInt32).toInt32) (n + (-2 : Int32))
def own_z2 (i n : Int32) : Int32 := if i < 16 then own_z3 i n else own_z3 ((i.toUInt32 >>> ((4 : Int32) &&& 31).toUInt32).toInt32) (n + (-4 : Int32))
def own_z1 (i n : Int32) : Int32 := if i < 256 then own_z2 i n else own_z2 ((i.toUInt32 >>> ((8 : Int32) &&& 31).toUInt32).toInt32) (n + (-8 : Int32))
def own_z0 (i n : Int32) : Int32 := if i < 65536 then own_z1 i n else own_z1 ((i.toUInt32 >>> ((16 : Int32) &&& 31).toUInt32).toInt32) (n + (-16 : Int32))
def own_nlzI (i : Int32) : Int32 := if 0 < i then own_z0 i 31 else if i = 0 then 32 else 0
def own_hi (v : Int64) : Int32 := ((v.toUInt64 >>> ((32 : Int32) &&& 0x3f).toInt64.toUInt64).toInt64).toInt32
def own_nlzL (v : Int64) : Int32 := if own_hi v = 0 then (32 : Int32) + own_nlzI v.toInt32 else own_nlzI (own_hi v)
def own_bkt (v : Int64) : Int32 := if v < 128 then v.toInt32 else
  (((128 : Int32) + ((((63 : Int32) - own_nlzL v) - (7 : Int32)) * (64 : Int32))) + ((((v.toUInt64 >>> ((((63 : Int32) - own_nlzL v) - (6 : Int32)) &&& 0x3f).toInt64.toUInt64).toInt64).toInt32) - (64 : Int32)))
theorem own_b32 (x : Int32) : -2147483648 ≤ x.toInt ∧ x.toInt < 2147483648 := ⟨Int32.le_toInt x, Int32.toInt_lt x⟩
theorem own_b64 (x : Int64) : -9223372036854775808 ≤ x.toInt ∧ x.toInt < 9223372036854775808 := ⟨Int64.le_toInt x, Int64.toInt_lt x⟩
def own_S (b : Nat) (i n r : Int) : Prop := ∃ k : Nat, k < b ∧ ((2 ^ k : Nat) : Int) ≤ i ∧ i < ((2 ^ (k + 1) : Nat) : Int) ∧ r = n - k
theorem own_S.up {b c : Nat} {i n r : Int} (h : b ≤ c) (H : own_S b i n r) : own_S c i n r := by
  obtain ⟨k, h1, h2⟩ := H
  exact ⟨k, by omega, h2⟩
theorem own_S.sh {b c s : Nat} {i n r q m : Int} (hq : q = i / ((2 ^ s : Nat) : Int)) (hm : m = n - s) (hc : b + s ≤ c) (H : own_S b q m r) : own_S c i n r := by
  obtain ⟨k, h1, h2, h3, h4⟩ := H
  have hp : (0 : Int) < ((2 ^ s : Nat) : Int) := by exact_mod_cast Nat.two_pow_pos s
  subst hq
  refine ⟨k + s, by omega, ?_, ?_, by omega⟩
  · have := (Int.le_ediv_iff_mul_le hp).mp h2
    rw [Nat.pow_add]; exact_mod_cast this
  · have := (Int.ediv_lt_iff_lt_mul hp).mp h3
    rw [show k + s + 1 = (k + 1) + s by omega, Nat.pow_add]; exact_mod_cast this
theorem own_z4s (i n : Int32) (h1 : 1 ≤ i.toInt) (h2 : i.toInt < 4) (h3 : -90 ≤ n.toInt) (h4 : n.toInt ≤ 90) : own_S 2 i.toInt n.toInt (own_z4 i n).toInt := by
  have q := c_iushr i 1 1 (by decide) (by decide)
  have r := c_isub n ((i.toUInt32 >>> ((1 : Int32) &&& 31).toUInt32).toInt32)
  have b := own_b32 (n - ((i.toUInt32 >>> ((1 : Int32) &&& 31).toUInt32).toInt32))
  unfold own_z4
  generalize (n - ((i.toUInt32 >>> ((1 : Int32) &&& 31).toUInt32).toInt32)).toInt = R at *
  generalize ((i.toUInt32 >>> ((1 : Int32) &&& 31).toUInt32).toInt32).toInt = Q at *
  have q' : Q = i.toInt % 4294967296 / 2 := q
  by_cases h : i.toInt < 2
  · exact ⟨0, by decide, by simpa using h1, by simpa using h, by omega⟩
  · exact ⟨1, by decide, by show (2 : Int) ≤ _; omega, by show _ < (4 : Int); omega, by omega⟩
theorem own_z3s (i n : Int32) (h1 : 1 ≤ i.toInt) (h2 : i.toInt < 16) (h3 : -80 ≤ n.toInt) (h4 : n.toInt ≤ 80) : own_S 4 i.toInt n.toInt (own_z3 i n).toInt := by
  have q := c_iushr i 2 2 (by decide) (by decide)
  have q' : ((i.toUInt32 >>> ((2 : Int32) &&& 31).toUInt32).toInt32).toInt = i.toInt / ((2 ^ 2 : Nat) : Int) := by rw [q, Int.emod_eq_of_lt (by omega) (by omega)]
  have r := c_iadd n (-2 : Int32)
  have e1 : (-2 : Int32).toInt = -2 := rfl
  have b := own_b32 (n + (-2 : Int32))
  have e2 : (n + (-2 : Int32)).toInt = n.toInt - 2 := by omega
  have e3 : (4 : Int32).toInt = 4 := rfl
  have e4 : ((2 ^ 2 : Nat) : Int) = 4 := rfl
  unfold own_z3
  split
  · rename_i h; rw [Int32.lt_iff_toInt_lt, e3] at h
    exact (own_z4s i n h1 h (by omega) (by omega)).up (by decide)
  · rename_i h; rw [Int32.lt_iff_toInt_lt, e3] at h
    rw [e4] at q'
    exact (own_z4s _ _ (by omega) (by omega) (by omega) (by omega)).sh (s := 2) (by rw [e4]; exact q') e2 (by decide)
theorem own_z2s (i n : Int32) (h1 : 1 ≤ i.toInt) (h2 : i.toInt < 256) (h3 : -70 ≤ n.toInt) (h4 : n.toInt ≤ 70) : own_S 8 i.toInt n.toInt (own_z2 i n).toInt := by
  have q := c_iushr i 4 4 (by decide) (by decide)
  have q' : ((i.toUInt32 >>> ((4 : Int32) &&& 31).toUInt32).toInt32).toInt = i.toInt / ((2 ^ 4 : Nat) : Int) := by rw [q, Int.emod_eq_of_lt (by omega) (by omega)]
  have r := c_iadd n (-4 : Int32)
  have e1 : (-4 : Int32).toInt = -4 := rfl
  have b := own_b32 (n + (-4 : Int32))
  have e2 : (n + (-4 : Int32)).toInt = n.toInt - 4 := by omega
  have e3 : (16 : Int32).toInt = 16 := rfl
  have e4 : ((2 ^ 4 : Nat) : Int) = 16 := rfl
  unfold own_z2
  split
  · rename_i h; rw [Int32.lt_iff_toInt_lt, e3] at h
    exact (own_z3s i n h1 h (by omega) (by omega)).up (by decide)
  · rename_i h; rw [Int32.lt_iff_toInt_lt, e3] at h
    rw [e4] at q'
    exact (own_z3s _ _ (by omega) (by omega) (by omega) (by omega)).sh (s := 4) (by rw [e4]; exact q') e2 (by decide)
theorem own_z1s (i n : Int32) (h1 : 1 ≤ i.toInt) (h2 : i.toInt < 65536) (h3 : -60 ≤ n.toInt) (h4 : n.toInt ≤ 60) : own_S 16 i.toInt n.toInt (own_z1 i n).toInt := by
  have q := c_iushr i 8 8 (by decide) (by decide)
  have q' : ((i.toUInt32 >>> ((8 : Int32) &&& 31).toUInt32).toInt32).toInt = i.toInt / ((2 ^ 8 : Nat) : Int) := by rw [q, Int.emod_eq_of_lt (by omega) (by omega)]
  have r := c_iadd n (-8 : Int32)
  have e1 : (-8 : Int32).toInt = -8 := rfl
  have b := own_b32 (n + (-8 : Int32))
  have e2 : (n + (-8 : Int32)).toInt = n.toInt - 8 := by omega
  have e3 : (256 : Int32).toInt = 256 := rfl
  have e4 : ((2 ^ 8 : Nat) : Int) = 256 := rfl
  unfold own_z1
  split
  · rename_i h; rw [Int32.lt_iff_toInt_lt, e3] at h
    exact (own_z2s i n h1 h (by omega) (by omega)).up (by decide)
  · rename_i h; rw [Int32.lt_iff_toInt_lt, e3] at h
    rw [e4] at q'
    exact (own_z2s _ _ (by omega) (by omega) (by omega) (by omega)).sh (s := 8) (by rw [e4]; exact q') e2 (by decide)
theorem own_z0s (i n : Int32) (h1 : 1 ≤ i.toInt) (h2 : i.toInt < 2147483648) (h3 : -40 ≤ n.toInt) (h4 : n.toInt ≤ 40) : own_S 32 i.toInt n.toInt (own_z0 i n).toInt := by
  have q := c_iushr i 16 16 (by decide) (by decide)
  have q' : ((i.toUInt32 >>> ((16 : Int32) &&& 31).toUInt32).toInt32).toInt = i.toInt / ((2 ^ 16 : Nat) : Int) := by rw [q, Int.emod_eq_of_lt (by omega) (by omega)]
  have r := c_iadd n (-16 : Int32)
  have e1 : (-16 : Int32).toInt = -16 := rfl
  have b := own_b32 (n + (-16 : Int32))
  have e2 : (n + (-16 : Int32)).toInt = n.toInt - 16 := by omega
  have e3 : (65536 : Int32).toInt = 65536 := rfl
  have e4 : ((2 ^ 16 : Nat) : Int) = 65536 := rfl
  unfold own_z0
  split
  · rename_i h; rw [Int32.lt_iff_toInt_lt, e3] at h
    exact (own_z1s i n h1 h (by omega) (by omega)).up (by decide)
  · rename_i h; rw [Int32.lt_iff_toInt_lt, e3] at h
    rw [e4] at q'
    exact (own_z1s _ _ (by omega) (by omega) (by omega) (by omega)).sh (s := 16) (by rw [e4]; exact q') e2 (by decide)
theorem own_nI (i : Int32) (h : 0 < i.toInt) : own_S 32 i.toInt 31 (own_nlzI i).toInt := by
  have b := own_b32 i
  have e0 : (0 : Int32).toInt = 0 := rfl
  have h0 : 0 < i := by rw [Int32.lt_iff_toInt_lt, e0]; exact h
  have e1 : (31 : Int32).toInt = 31 := rfl
  unfold own_nlzI
  rw [if_pos h0]
  exact own_z0s i 31 (by omega) (by omega) (by decide) (by decide)
theorem own_nL (v : Int64) (h : 0 < v.toInt) : own_S 64 v.toInt 63 (own_nlzL v).toInt := by
  have b := own_b64 v
  have q := c_lushr v 32 32 (by decide) (by decide)
  have q1 : ((v.toUInt64 >>> ((32 : Int32) &&& 0x3f).toInt64.toUInt64).toInt64).toInt = v.toInt / 4294967296 := by rw [q, Int.emod_eq_of_lt (by omega) (by omega)]; rfl
  have q2 := c_l2i ((v.toUInt64 >>> ((32 : Int32) &&& 0x3f).toInt64.toUInt64).toInt64)
  have b2 := own_b32 (own_hi v)
  have q3 : (own_hi v).toInt = v.toInt / 4294967296 := by
    have : own_hi v = ((v.toUInt64 >>> ((32 : Int32) &&& 0x3f).toInt64.toUInt64).toInt64).toInt32 := rfl
    rw [← this] at q2; omega
  have e0 : (0 : Int32).toInt = 0 := rfl
  have e32 : (32 : Int32).toInt = 32 := rfl
  unfold own_nlzL
  split
  · rename_i hz
    rw [hz, e0] at q3
    have p2 := c_l2i v
    have b3 := own_b32 v.toInt32
    have r := c_iadd (32 : Int32) (own_nlzI v.toInt32)
    have b4 := own_b32 ((32 : Int32) + own_nlzI v.toInt32)
    by_cases hp : 0 < v.toInt32.toInt
    · obtain ⟨k, k1, k2, k3, k4⟩ := own_nI v.toInt32 hp
      have ev : v.toInt32.toInt = v.toInt := by omega
      rw [ev] at k2 k3
      exact ⟨k, by omega, k2, k3, by omega⟩
    · have n1 : own_nlzI v.toInt32 = 0 := by
        have z1 : ¬ 0 < v.toInt32 := by rw [Int32.lt_iff_toInt_lt, e0]; exact hp
        have z2 : ¬ v.toInt32 = 0 := fun z => by rw [z, e0] at p2; omega
        unfold own_nlzI; rw [if_neg z1, if_neg z2]
      rw [n1] at r b4 ⊢
      exact ⟨31, by decide, by show (2147483648 : Int) ≤ _; omega, by show _ < (4294967296 : Int); omega, rfl⟩
  · rename_i hz
    have hp : 0 < (own_hi v).toInt := by
      have : (own_hi v).toInt ≠ 0 := fun z => hz (Int32.toInt_inj.mp (z.trans e0.symm))
      omega
    obtain ⟨k, k1, k2, k3, k4⟩ := own_nI (own_hi v) hp
    rw [q3] at k2 k3
    have hP : (0 : Int) < 4294967296 := by decide
    have m1 := (Int.le_ediv_iff_mul_le hP).mp k2
    have m2 := (Int.ediv_lt_iff_lt_mul hP).mp k3
    refine ⟨k + 32, by omega, ?_, ?_, by omega⟩
    · rw [Nat.pow_add, Int.natCast_mul]; exact m1
    · rw [show k + 32 + 1 = (k + 1) + 32 by omega, Nat.pow_add, Int.natCast_mul]; exact m2
theorem own_toNat (x : Int32) (n : Nat) (h : x.toInt = (n : Int)) : x.toBitVec.toNat = n := by
  have h1 : x.toBitVec.toInt = (n : Int) := h
  have h2 := BitVec.toInt_eq_toNat_cond x.toBitVec
  have h3 := x.toBitVec.isLt
  split at h2 <;> omega
theorem own_bk (v : Int64) (h : ¬ v < 0) : ¬ own_bkt v < 0 ∧ own_bkt v < 3776 := by
  have e0 : (0 : Int64).toInt = 0 := rfl
  have e1 : (128 : Int64).toInt = 128 := rfl
  have f0 : (0 : Int32).toInt = 0 := rfl
  have f1 : (3776 : Int32).toInt = 3776 := rfl
  rw [Int64.lt_iff_toInt_lt, e0] at h
  rw [Int32.lt_iff_toInt_lt, Int32.lt_iff_toInt_lt, f0, f1]
  unfold own_bkt
  split
  · rename_i hs; rw [Int64.lt_iff_toInt_lt, e1] at hs
    have q := c_l2i v; have b := own_b32 v.toInt32
    omega
  · rename_i hs; rw [Int64.lt_iff_toInt_lt, e1] at hs
    obtain ⟨k, k1, k2, k3, k4⟩ := own_nL v (by omega)
    have k7 : 7 ≤ k := by
      refine Nat.le_of_not_lt fun hk => ?_
      have : 2 ^ (k + 1) ≤ 2 ^ 7 := Nat.pow_le_pow_right (by decide) (by omega)
      have : ((2 ^ (k + 1) : Nat) : Int) ≤ 128 := by exact_mod_cast this
      omega
    have b := own_b64 v
    have k62 : k ≤ 62 := by
      refine Nat.le_of_not_lt fun hk => ?_
      have : 2 ^ 63 ≤ 2 ^ k := Nat.pow_le_pow_right (by decide) (by omega)
      have t : ((2 ^ 63 : Nat) : Int) ≤ ((2 ^ k : Nat) : Int) := Int.ofNat_le.mpr this
      have e : ((2 ^ 63 : Nat) : Int) = 9223372036854775808 := rfl
      rw [e] at t
      omega
    generalize own_nlzL v = N at *
    have a1 := c_isub (63 : Int32) N; have a2 := own_b32 ((63 : Int32) - N); have e63 : (63 : Int32).toInt = 63 := rfl
    have E : ((63 : Int32) - N).toInt = k := by omega
    generalize (63 : Int32) - N = X at *
    have c1 := c_isub X (7 : Int32); have c2 := own_b32 (X - (7 : Int32)); have e7 : (7 : Int32).toInt = 7 := rfl
    have E7 : (X - (7 : Int32)).toInt = k - 7 := by omega
    have d1 := c_isub X (6 : Int32); have d2 := own_b32 (X - (6 : Int32)); have e6 : (6 : Int32).toInt = 6 := rfl
    have E6 : (X - (6 : Int32)).toInt = k - 6 := by omega
    generalize X - (7 : Int32) = Y at *
    generalize X - (6 : Int32) = Sh at *
    have g1 := c_imul Y (64 : Int32); have g2 := own_b32 (Y * (64 : Int32)); have e64 : (64 : Int32).toInt = 64 := rfl
    rw [e64] at g1
    have h1 := c_iadd (128 : Int32) (Y * (64 : Int32)); have h2 := own_b32 ((128 : Int32) + Y * (64 : Int32)); have e128 : (128 : Int32).toInt = 128 := rfl
    have sb : Sh.toBitVec.toNat % 64 = k - 6 := by
      have : Sh.toInt = ((k - 6 : Nat) : Int) := by omega
      have t := own_toNat Sh (k - 6) this
      rw [t]; omega
    have l1 := c_lushr v Sh (k - 6) sb (by omega)
    rw [Int.emod_eq_of_lt (by omega) (by omega)] at l1
    have hp : (0 : Int) < ((2 ^ (k - 6) : Nat) : Int) := by exact_mod_cast Nat.two_pow_pos (k - 6)
    have l2 : 64 ≤ v.toInt / ((2 ^ (k - 6) : Nat) : Int) := (Int.le_ediv_iff_mul_le hp).mpr (by
      have : (64 * 2 ^ (k - 6) : Nat) = 2 ^ k := by rw [show (64 : Nat) = 2 ^ 6 from rfl, ← Nat.pow_add]; congr 1; omega
      have : (64 : Int) * ((2 ^ (k - 6) : Nat) : Int) = ((2 ^ k : Nat) : Int) := by exact_mod_cast this
      omega)
    have l3 : v.toInt / ((2 ^ (k - 6) : Nat) : Int) < 128 := (Int.ediv_lt_iff_lt_mul hp).mpr (by
      have : (128 * 2 ^ (k - 6) : Nat) = 2 ^ (k + 1) := by rw [show (128 : Nat) = 2 ^ 7 from rfl, ← Nat.pow_add]; congr 1; omega
      have : (128 : Int) * ((2 ^ (k - 6) : Nat) : Int) = ((2 ^ (k + 1) : Nat) : Int) := by exact_mod_cast this
      omega)
    rw [← l1] at l2 l3
    generalize (v.toUInt64 >>> (Sh &&& 0x3f).toInt64.toUInt64).toInt64 = D at *
    have m1 := c_l2i D; have m2 := own_b32 D.toInt32
    have m3 := c_isub D.toInt32 (64 : Int32); have m4 := own_b32 (D.toInt32 - (64 : Int32))
    have n1 := c_iadd ((128 : Int32) + Y * (64 : Int32)) (D.toInt32 - (64 : Int32)); have n2 := own_b32 (((128 : Int32) + Y * (64 : Int32)) + (D.toInt32 - (64 : Int32)))
    clear l1 k2 k3 sb hp
    omega
def own_vs (f : Nat → Int64) : List Value := (List.range 3776).map (fun i => .long (f i))
def own_zero : Nat → Int64 := fun _ => 0
def own_up (f : Nat → Int64) (k : Nat) (v : Int64) : Nat → Int64 := fun i => if i = k then v else f i
theorem own_vsD (f : Nat → Int64) (k : Nat) (d : Value) (h : k < 3776) : (own_vs f).getD k d = .long (f k) := by
  simp only [own_vs, List.getD_eq_getElem?_getD, List.getElem?_map, List.getElem?_range h, Option.map_some, Option.getD_some]
theorem own_vsN (f : Nat → Int64) (k : Nat) (d : Value) (h : ¬ k < 3776) : (own_vs f).getD k d = d := by
  have : (own_vs f)[k]? = none := List.getElem?_eq_none (by simp only [own_vs, List.length_map, List.length_range]; omega)
  rw [List.getD_eq_getElem?_getD, this]; rfl
theorem own_cl {j : Int32} (h0 : ¬ j < 0) (h1 : j < 3776) : j.toNatClampNeg < 3776 := by
  have e0 : (0 : Int32).toInt = 0 := rfl
  have e1 : (3776 : Int32).toInt = 3776 := rfl
  rw [Int32.lt_iff_toInt_lt] at h0 h1
  simp only [Int32.toNatClampNeg]; omega
theorem own_vsI {j : Int32} (f : Nat → Int64) (d : Value) (h0 : ¬ j < 0) (h1 : j < 3776) : (own_vs f).getD j.toNatClampNeg d = .long (f j.toNatClampNeg) := own_vsD f _ d (own_cl h0 h1)
theorem own_pad0 : ∀ i, (own_vs own_zero).getD i (.long (0 : Int64)) = ([] : List Value).getD i (.long (0 : Int64)) := fun i => by
  by_cases h : i < 3776
  · rw [own_vsD _ _ _ h]; rfl
  · rw [own_vsN _ _ _ h]; rfl
theorem own_set {Z : State} {h h' : Heap} {a : Addr} {k : ClassId} {f : Nat → Int64} {j : Int32} {v : Int64} (V : Arv Z h a k .long (3776 : Int32) (own_vs f) (.long (0 : Int64))) (W : Wr h h' a j.toNatClampNeg (.long v)) (q : ¬ j < 0 ∧ j < 3776) :
    Arv Z h' a k .long (3776 : Int32) (own_vs (own_up f j.toNatClampNeg v)) (.long (0 : Int64)) := by
  obtain ⟨c, A, q1, S, q3, H, G⟩ := V
  have hj := own_cl q.1 q.2
  have r := Arv.set A q1 S q3 H G (v := .long v) rfl W j.toNatClampNeg rfl (by simp only [own_vs, List.length_map, List.length_range]; exact hj)
  refine r.pad fun i => ?_
  by_cases hi : i < 3776
  · rw [own_vsD _ _ _ hi, List.getD_eq_getElem?_getD, List.getElem?_set]
    by_cases hij : j.toNatClampNeg = i
    · subst hij
      simp [own_up, own_vs, hj]
    · have hne : ¬ i = j.toNatClampNeg := fun z => hij z.symm
      rw [if_neg hij]
      simp only [own_up, if_neg hne]
      rw [← List.getD_eq_getElem?_getD, own_vsD _ _ _ hi]
  · have hne : ¬ i = j.toNatClampNeg := fun z => hi (z ▸ hj)
    rw [own_vsN _ _ _ hi, List.getD_eq_getElem?_getD, List.getElem?_set, if_neg (fun z => hne z.symm), ← List.getD_eq_getElem?_getD, own_vsN _ _ _ hi]
theorem own_mx0 (v : Int64) : ¬ own_mx (0 : Int64) v < 0 := by
  unfold own_mx
  split
  · rename_i h; rw [Int64.lt_iff_toInt_lt] at h ⊢; omega
  · decide
def own_top (b : Int32) : Int64 := if b < 128 then b.toInt64 else
  ((((((64 : Int32) + ((b - (128 : Int32)) % (64 : Int32))).toInt64) + (1 : Int64)) <<< ((((7 : Int32) + ((b - (128 : Int32)) / (64 : Int32))) - (6 : Int32)) &&& 0x3f).toInt64) - (1 : Int64))
def own_mix (f g : Nat → Int64) (j : Nat) : Nat → Int64 := fun i => if i < j then f i + g i else f i
theorem own_mix0 (f g : Nat → Int64) : own_mix f g 0 = f := by
  funext i; simp [own_mix]
theorem own_ji {j : Nat} (h : j ≤ 3776) : j.toInt32.toInt = j := len_toInt (by omega)
theorem own_jlt {j k : Nat} (h : j + (k + 1) = 3776) : j.toInt32 < 3776 := by
  have q := own_ji (j := j) (by omega)
  have e : (3776 : Int32).toInt = 3776 := rfl
  rw [Int32.lt_iff_toInt_lt]; omega
theorem own_jq {j k : Nat} (h : j + (k + 1) = 3776) : ¬ j.toInt32 < 0 ∧ j.toInt32 < 3776 := by
  have q := own_ji (j := j) (by omega)
  have e : (0 : Int32).toInt = 0 := rfl
  exact ⟨by rw [Int32.lt_iff_toInt_lt]; omega, own_jlt h⟩
theorem own_jc {j k : Nat} (h : j + (k + 1) = 3776) : j.toInt32.toNatClampNeg = j := by
  have q := own_ji (j := j) (by omega)
  simp only [Int32.toNatClampNeg, q]; omega
theorem own_vsJ {j k : Nat} (f : Nat → Int64) (d : Value) (h : j + (k + 1) = 3776) : (own_vs f).getD j.toInt32.toNatClampNeg d = .long (f j) := by
  rw [own_jc h]; exact own_vsD f j d (by omega)
theorem own_inc {j k : Nat} (h : j + (k + 1) = 3776) : j.toInt32 + (1 : Int32) = (j + 1).toInt32 := by
  have q := own_ji (j := j) (by omega)
  have q1 := own_ji (j := j + 1) (by omega)
  have r := c_iadd j.toInt32 (1 : Int32); have b := own_b32 (j.toInt32 + (1 : Int32)); have e : (1 : Int32).toInt = 1 := rfl
  apply Int32.toInt_inj.mp
  omega
theorem own_setJ {Z : State} {h h' : Heap} {a : Addr} {kk : ClassId} {f g : Nat → Int64} {j k : Nat} (V : Arv Z h a kk .long (3776 : Int32) (own_vs (own_mix f g j)) (.long (0 : Int64))) (W : Wr h h' a j.toInt32.toNatClampNeg (.long (own_mix f g j j + g j))) (q : j + (k + 1) = 3776) :
    Arv Z h' a kk .long (3776 : Int32) (own_vs (own_mix f g (j + 1))) (.long (0 : Int64)) := by
  have r := own_set V W (own_jq q)
  rw [own_jc q] at r
  have e : own_up (own_mix f g j) j (own_mix f g j j + g j) = own_mix f g (j + 1) := by
    funext i
    simp only [own_up, own_mix]
    by_cases h1 : i = j
    · subst h1
      rw [if_pos rfl, if_neg (Nat.lt_irrefl i), if_pos (Nat.lt_succ_self i)]
    · rw [if_neg h1]
      by_cases h2 : i < j
      · rw [if_pos h2, if_pos (by omega)]
      · rw [if_neg h2, if_neg (by omega)]
  rw [e] at r
  exact r
def own_fp (f : Nat → Int64) (x : Int64) : Nat → Nat → Int64 → Int64
  | 0, _, _ => x
  | k + 1, j, s => if s + f j < 1 then own_fp f x k (j + 1) (s + f j) else own_mn (own_top j.toInt32) x
def own_pct (f : Nat → Int64) (n x : Int64) : Int64 := if n = 0 then 0 else own_fp f x 3776 0 0
theorem own_dz {n : Int64} (h : n = 0 ∨ n = 1 ∨ n = 2) : Jvm.FP.dmul Jvm.FP.dconst0 (Jvm.FP.l2d n) = 0 := by
  rcases h with rfl | rfl | rfl <;> decide +kernel
theorem own_mxI (a b : Int64) : (own_mx a b).toInt = max a.toInt b.toInt := by
  unfold own_mx
  split <;> rename_i h <;> rw [Int64.lt_iff_toInt_lt] at h <;> omega
theorem own_m1 (a : Int64) : own_mx (own_mx 0 (own_mx 0 a)) 0 = own_mx 0 a := by
  apply Int64.toInt_inj.mp; simp only [own_mxI]; omega
theorem own_m2 (a : Int64) : own_mx 0 (own_mx 0 (own_mx 0 a)) = own_mx 0 a := by
  apply Int64.toInt_inj.mp; simp only [own_mxI]; omega
theorem own_m3 (a b : Int64) : own_mx (own_mx 0 (own_mx 0 a)) (own_mx 0 (own_mx 0 b)) = own_mx (own_mx 0 a) b := by
  apply Int64.toInt_inj.mp; simp only [own_mxI]; have : (0 : Int64).toInt = 0 := rfl; omega
theorem own_m4 (a b : Int64) : own_mx (own_mx 0 (own_mx 0 a)) (own_mx 0 (own_mx 0 b)) = own_mx (own_mx 0 (own_mx 0 a)) (own_mx 0 b) := by
  apply Int64.toInt_inj.mp; simp only [own_mxI]; have : (0 : Int64).toInt = 0 := rfl; omega
theorem own_m5 (a : Int64) : own_mx 0 (own_mx 0 (own_mx 0 a)) = own_mx 0 (own_mx 0 a) := by
  apply Int64.toInt_inj.mp; simp only [own_mxI]; omega
theorem own_m6 (a : Int64) : own_mx (own_mx 0 (own_mx 0 a)) 0 = own_mx 0 (own_mx 0 a) := by
  apply Int64.toInt_inj.mp; simp only [own_mxI]; omega
theorem own_c1 (f : Nat → Int64) : own_mix f own_zero 3776 = f := by
  funext i
  simp only [own_mix]
  by_cases h : i < 3776
  · rw [if_pos h]; exact Int64.add_zero _
  · rw [if_neg h]
theorem own_c2 (k : Nat) (v : Int64) (hk : k < 3776) : own_mix own_zero (own_up own_zero k v) 3776 = own_up own_zero k v := by
  funext i
  simp only [own_mix]
  by_cases h : i < 3776
  · rw [if_pos h]; exact Int64.zero_add _
  · have : ¬ i = k := fun z => h (z ▸ hk)
    rw [if_neg h]; simp only [own_up, if_neg this]
theorem own_c3 (j k : Nat) (hk : k < 3776) : own_mix (own_up own_zero j (own_zero j + 1)) (own_up own_zero k (own_zero k + 1)) 3776 = own_up (own_up own_zero j (own_zero j + 1)) k (own_up own_zero j (own_zero j + 1) k + 1) := by
  funext i
  simp only [own_mix]
  by_cases hi : i = k
  · subst hi
    rw [if_pos hk]
    simp only [own_up, if_pos rfl]
    rfl
  · by_cases h : i < 3776
    · rw [if_pos h]
      simp only [own_up, if_neg hi]
      exact Int64.add_zero _
    · rw [if_neg h]
      simp only [own_up, if_neg hi]
theorem own_kb (v : Int64) : (own_bkt (own_mx 0 v)).toNatClampNeg < 3776 := own_cl (own_bk _ (own_mx0 v)).1 (own_bk _ (own_mx0 v)).2
theorem own_pe {f g : Nat → Int64} {n n' x x' : Int64} (h1 : f = g) (h2 : n = n') (h3 : x = x') : own_pct f n x = own_pct g n' x' := by rw [h1, h2, h3]

theorem own_dmx_0 : decode jdk_29_method_66_code 0 = .ok (.lload_n 0, 1) := by decide +kernel
theorem own_dmx_1 : decode jdk_29_method_66_code 1 = .ok (.lload_n 2, 1) := by decide +kernel
theorem own_dmx_2 : decode jdk_29_method_66_code 2 = .ok (.lcmp, 1) := by decide +kernel
theorem own_dmx_3 : decode jdk_29_method_66_code 3 = .ok (.ifCond .lt 7, 3) := by decide +kernel
theorem own_dmx_6 : decode jdk_29_method_66_code 6 = .ok (.lload_n 0, 1) := by decide +kernel
theorem own_dmx_7 : decode jdk_29_method_66_code 7 = .ok (.goto 4, 3) := by decide +kernel
theorem own_dmx_10 : decode jdk_29_method_66_code 10 = .ok (.lload_n 2, 1) := by decide +kernel
theorem own_dmx_11 : decode jdk_29_method_66_code 11 = .ok (.lreturn, 1) := by decide +kernel
theorem own_ef_mx (m : MethodId) (va : Int64) (vb : Int64) : entryFrame m #[(.long va), (.long vb)] 4 = mkF m 0 #[.val (.long va), .second, .val (.long vb), .second] [] := by first | (simp [entryFrame, mkF, argsToLocals, Value.category]; done) | rfl
def own_Q_mx (Z : State) (va : Int64) (vb : Int64) (h0 : Heap) (n0 : Nat) (v : Option Value) (h : Heap) (L : List Loc) : Prop := v = some (.long (own_mx va vb)) ∧ Fr n0 L ∧ h = h0
set_option maxRecDepth 65536 in
set_option maxHeartbeats 40000000 in
theorem own_rm_mx (l : Launch) (Z : State) (a0 : Array Value) (hw : ∀ d ∈ tables_1, d.before a0 Z = true) (ws : List Jvm.Cond) (va : Int64) (vb : Int64) (h0 : Heap) (n0 : Nat) (Z0 : n0 ≤ h0.size) :
    MetFree l (⟨"java/lang/Math", "max", "(JJ)J"⟩ : MethodName) (head1 (Jvm.Cond.code (⟨"java/lang/Math", "max", "(JJ)J"⟩ : MethodName) jdk_29_method_66_code 4 (some .long) :: ws) ({ frames := 0, cells := 0, slots := 0, locals := 0 } : Room)) (fun a U => a = #[(.long va), (.long vb)] ∧ Z.Warmed39 U.vm ∧ U.heap = h0) (fun _ _ _ _ _ => True) (fun _ U o U' => ∃ v L, o = .returned v ∧ own_Q_mx Z va vb h0 n0 v U'.heap L ∧ FrameEnd U o U' L ({ frames := 0, cells := 0, slots := 0, locals := 0 } : Room).cells ({ frames := 0, cells := 0, slots := 0, locals := 0 } : Room).slots) := by
  refine MetFree.of_bodySF (Jvm.Free.JP.mathPlain rfl (by decide +kernel)) hisR ?_
  intro p e s m args below meth c s₁ Bd hml0 hP hK
  obtain ⟨rfl, hZ, hh⟩ := hP
  have hx := Bd.exec
  have hby := Bd.bytes
  have hml : c.maxLocals = 4 := hml0
  have hown : s.vm.findClass "java/lang/Math" = some m.cls := findClass_of_methodNamed Bd.named
  have hnm := (name_of_methodNamed Bd.named Bd.method).1
  have X0 : Stand p l e ({ frames := 0, cells := 0, slots := 0, locals := 0 } : Room) s m #[(.long va), (.long vb)] below meth c s₁ [] 0 0 := Stand.of_body Bd
  have e0 : s₁.heap = h0 := by rw [← hh, Bd.state]; rfl
  have N0 := Fr.nil n0
  show own_Fin p e below s (own_Q_mx Z va vb h0 n0) ({ frames := 0, cells := 0, slots := 0, locals := 0 } : Room).cells ({ frames := 0, cells := 0, slots := 0, locals := 0 } : Room).slots (s₁.setTop (entryFrame m #[(.long va), (.long vb)] 4))
  refine own_Fin.go (fun t k => castTop (own_ef_mx m va vb) k) ?_
  refine own_Fin.go (fun t k => XS.lloadN X0.here hx rfl (hb hby own_dmx_0) rfl k) ?_
  show own_Fin _ _ _ _ _ _ _ (s₁.setTop (mkF m 1 #[.val (.long va), .second, .val (.long vb), .second] [(.long va)]))
  refine own_Fin.go (fun t k => XS.lloadN X0.here hx rfl (hb hby own_dmx_1) rfl k) ?_
  show own_Fin _ _ _ _ _ _ _ (s₁.setTop (mkF m 2 #[.val (.long va), .second, .val (.long vb), .second] [(.long vb), (.long va)]))
  refine own_Fin.go (fun t k => XS.lcmp X0.here hx rfl (hb hby own_dmx_2) rfl k) ?_
  show own_Fin _ _ _ _ _ _ _ (s₁.setTop (mkF m 3 #[.val (.long va), .second, .val (.long vb), .second] [(.int (lcmpW va vb))]))
  by_cases hc3 : va < vb
  · refine own_Fin.go (fun t k => XS.ifYes X0.here hx rfl (pc0 := 3) (pc' := 10) rfl (hb hby own_dmx_3) rfl (Jvm.Free.XT.ll_lt_t hc3) (by decide) (by decide) k) ?_
    show own_Fin _ _ _ _ _ _ _ (s₁.setTop (mkF m 10 #[.val (.long va), .second, .val (.long vb), .second] []))
    refine own_Fin.go (fun t k => XS.lloadN X0.here hx rfl (hb hby own_dmx_10) rfl k) ?_
    show own_Fin _ _ _ _ _ _ _ (s₁.setTop (mkF m 11 #[.val (.long va), .second, .val (.long vb), .second] [(.long vb)]))
    refine own_retJ X0 hx Bd.returns (hb hby own_dmx_11) Bd.notSynchronized (by decide) (by decide) ?_
    rw [e0]
    exact ⟨by simp only [own_mx, if_pos hc3], N0, rfl⟩
  · refine own_Fin.go (fun t k => XS.ifNo X0.here hx rfl (hb hby own_dmx_3) rfl (Jvm.Free.XT.ll_lt_f hc3) k) ?_
    show own_Fin _ _ _ _ _ _ _ (s₁.setTop (mkF m 6 #[.val (.long va), .second, .val (.long vb), .second] []))
    refine own_Fin.go (fun t k => XS.lloadN X0.here hx rfl (hb hby own_dmx_6) rfl k) ?_
    show own_Fin _ _ _ _ _ _ _ (s₁.setTop (mkF m 7 #[.val (.long va), .second, .val (.long vb), .second] [(.long va)]))
    refine own_Fin.go (fun t k => XS.goto X0.here hx rfl (pc0 := 7) (pc' := 11) rfl (hb hby own_dmx_7) (by decide) (by decide) k) ?_
    show own_Fin _ _ _ _ _ _ _ (s₁.setTop (mkF m 11 #[.val (.long va), .second, .val (.long vb), .second] [(.long va)]))
    refine own_retJ X0 hx Bd.returns (hb hby own_dmx_11) Bd.notSynchronized (by decide) (by decide) ?_
    rw [e0]
    exact ⟨by simp only [own_mx, if_neg hc3], N0, rfl⟩
theorem own_dmn_0 : decode jdk_29_method_70_code 0 = .ok (.lload_n 0, 1) := by decide +kernel
theorem own_dmn_1 : decode jdk_29_method_70_code 1 = .ok (.lload_n 2, 1) := by decide +kernel
theorem own_dmn_2 : decode jdk_29_method_70_code 2 = .ok (.lcmp, 1) := by decide +kernel
theorem own_dmn_3 : decode jdk_29_method_70_code 3 = .ok (.ifCond .gt 7, 3) := by decide +kernel
theorem own_dmn_6 : decode jdk_29_method_70_code 6 = .ok (.lload_n 0, 1) := by decide +kernel
theorem own_dmn_7 : decode jdk_29_method_70_code 7 = .ok (.goto 4, 3) := by decide +kernel
theorem own_dmn_10 : decode jdk_29_method_70_code 10 = .ok (.lload_n 2, 1) := by decide +kernel
theorem own_dmn_11 : decode jdk_29_method_70_code 11 = .ok (.lreturn, 1) := by decide +kernel
theorem own_ef_mn (m : MethodId) (va : Int64) (vb : Int64) : entryFrame m #[(.long va), (.long vb)] 4 = mkF m 0 #[.val (.long va), .second, .val (.long vb), .second] [] := by first | (simp [entryFrame, mkF, argsToLocals, Value.category]; done) | rfl
def own_Q_mn (Z : State) (va : Int64) (vb : Int64) (h0 : Heap) (n0 : Nat) (v : Option Value) (h : Heap) (L : List Loc) : Prop := v = some (.long (own_mn va vb)) ∧ Fr n0 L ∧ h = h0
set_option maxRecDepth 65536 in
set_option maxHeartbeats 40000000 in
theorem own_rm_mn (l : Launch) (Z : State) (a0 : Array Value) (hw : ∀ d ∈ tables_1, d.before a0 Z = true) (ws : List Jvm.Cond) (va : Int64) (vb : Int64) (h0 : Heap) (n0 : Nat) (Z0 : n0 ≤ h0.size) :
    MetFree l (⟨"java/lang/Math", "min", "(JJ)J"⟩ : MethodName) (head1 (Jvm.Cond.code (⟨"java/lang/Math", "min", "(JJ)J"⟩ : MethodName) jdk_29_method_70_code 4 (some .long) :: ws) ({ frames := 0, cells := 0, slots := 0, locals := 0 } : Room)) (fun a U => a = #[(.long va), (.long vb)] ∧ Z.Warmed39 U.vm ∧ U.heap = h0) (fun _ _ _ _ _ => True) (fun _ U o U' => ∃ v L, o = .returned v ∧ own_Q_mn Z va vb h0 n0 v U'.heap L ∧ FrameEnd U o U' L ({ frames := 0, cells := 0, slots := 0, locals := 0 } : Room).cells ({ frames := 0, cells := 0, slots := 0, locals := 0 } : Room).slots) := by
  refine MetFree.of_bodySF (Jvm.Free.JP.mathPlain rfl (by decide +kernel)) hisR ?_
  intro p e s m args below meth c s₁ Bd hml0 hP hK
  obtain ⟨rfl, hZ, hh⟩ := hP
  have hx := Bd.exec
  have hby := Bd.bytes
  have hml : c.maxLocals = 4 := hml0
  have hown : s.vm.findClass "java/lang/Math" = some m.cls := findClass_of_methodNamed Bd.named
  have hnm := (name_of_methodNamed Bd.named Bd.method).1
  have X0 : Stand p l e ({ frames := 0, cells := 0, slots := 0, locals := 0 } : Room) s m #[(.long va), (.long vb)] below meth c s₁ [] 0 0 := Stand.of_body Bd
  have e0 : s₁.heap = h0 := by rw [← hh, Bd.state]; rfl
  have N0 := Fr.nil n0
  show own_Fin p e below s (own_Q_mn Z va vb h0 n0) ({ frames := 0, cells := 0, slots := 0, locals := 0 } : Room).cells ({ frames := 0, cells := 0, slots := 0, locals := 0 } : Room).slots (s₁.setTop (entryFrame m #[(.long va), (.long vb)] 4))
  refine own_Fin.go (fun t k => castTop (own_ef_mn m va vb) k) ?_
  refine own_Fin.go (fun t k => XS.lloadN X0.here hx rfl (hb hby own_dmn_0) rfl k) ?_
  show own_Fin _ _ _ _ _ _ _ (s₁.setTop (mkF m 1 #[.val (.long va), .second, .val (.long vb), .second] [(.long va)]))
  refine own_Fin.go (fun t k => XS.lloadN X0.here hx rfl (hb hby own_dmn_1) rfl k) ?_
  show own_Fin _ _ _ _ _ _ _ (s₁.setTop (mkF m 2 #[.val (.long va), .second, .val (.long vb), .second] [(.long vb), (.long va)]))
  refine own_Fin.go (fun t k => XS.lcmp X0.here hx rfl (hb hby own_dmn_2) rfl k) ?_
  show own_Fin _ _ _ _ _ _ _ (s₁.setTop (mkF m 3 #[.val (.long va), .second, .val (.long vb), .second] [(.int (lcmpW va vb))]))
  by_cases hc3 : vb < va
  · refine own_Fin.go (fun t k => XS.ifYes X0.here hx rfl (pc0 := 3) (pc' := 10) rfl (hb hby own_dmn_3) rfl (Jvm.Free.XT.ll_gt_t hc3) (by decide) (by decide) k) ?_
    show own_Fin _ _ _ _ _ _ _ (s₁.setTop (mkF m 10 #[.val (.long va), .second, .val (.long vb), .second] []))
    refine own_Fin.go (fun t k => XS.lloadN X0.here hx rfl (hb hby own_dmn_10) rfl k) ?_
    show own_Fin _ _ _ _ _ _ _ (s₁.setTop (mkF m 11 #[.val (.long va), .second, .val (.long vb), .second] [(.long vb)]))
    refine own_retJ X0 hx Bd.returns (hb hby own_dmn_11) Bd.notSynchronized (by decide) (by decide) ?_
    rw [e0]
    exact ⟨by simp only [own_mn, if_pos hc3], N0, rfl⟩
  · refine own_Fin.go (fun t k => XS.ifNo X0.here hx rfl (hb hby own_dmn_3) rfl (Jvm.Free.XT.ll_gt_f hc3) k) ?_
    show own_Fin _ _ _ _ _ _ _ (s₁.setTop (mkF m 6 #[.val (.long va), .second, .val (.long vb), .second] []))
    refine own_Fin.go (fun t k => XS.lloadN X0.here hx rfl (hb hby own_dmn_6) rfl k) ?_
    show own_Fin _ _ _ _ _ _ _ (s₁.setTop (mkF m 7 #[.val (.long va), .second, .val (.long vb), .second] [(.long va)]))
    refine own_Fin.go (fun t k => XS.goto X0.here hx rfl (pc0 := 7) (pc' := 11) rfl (hb hby own_dmn_7) (by decide) (by decide) k) ?_
    show own_Fin _ _ _ _ _ _ _ (s₁.setTop (mkF m 11 #[.val (.long va), .second, .val (.long vb), .second] [(.long va)]))
    refine own_retJ X0 hx Bd.returns (hb hby own_dmn_11) Bd.notSynchronized (by decide) (by decide) ?_
    rw [e0]
    exact ⟨by simp only [own_mn, if_neg hc3], N0, rfl⟩
theorem own_dnlI_0 : decode jdk_33_method_47_code 0 = .ok (.iload_n 0, 1) := by decide +kernel
theorem own_dnlI_1 : decode jdk_33_method_47_code 1 = .ok (.ifCond .gt 14, 3) := by decide +kernel
theorem own_dnlI_4 : decode jdk_33_method_47_code 4 = .ok (.iload_n 0, 1) := by decide +kernel
theorem own_dnlI_5 : decode jdk_33_method_47_code 5 = .ok (.ifCond .ne 8, 3) := by decide +kernel
theorem own_dnlI_8 : decode jdk_33_method_47_code 8 = .ok (.bipush 32, 2) := by decide +kernel
theorem own_dnlI_10 : decode jdk_33_method_47_code 10 = .ok (.goto 4, 3) := by decide +kernel
theorem own_dnlI_13 : decode jdk_33_method_47_code 13 = .ok (.iconst 0, 1) := by decide +kernel
theorem own_dnlI_14 : decode jdk_33_method_47_code 14 = .ok (.ireturn, 1) := by decide +kernel
theorem own_dnlI_15 : decode jdk_33_method_47_code 15 = .ok (.bipush 31, 2) := by decide +kernel
theorem own_dnlI_17 : decode jdk_33_method_47_code 17 = .ok (.istore_n 1, 1) := by decide +kernel
theorem own_dnlI_18 : decode jdk_33_method_47_code 18 = .ok (.iload_n 0, 1) := by decide +kernel
theorem own_dnlI_19 : decode jdk_33_method_47_code 19 = .ok (.ldc_w 264, 3) := by decide +kernel
theorem own_dnlI_22 : decode jdk_33_method_47_code 22 = .ok (.if_icmp .lt 11, 3) := by decide +kernel
theorem own_dnlI_25 : decode jdk_33_method_47_code 25 = .ok (.iinc 1 (-16), 3) := by decide +kernel
theorem own_dnlI_28 : decode jdk_33_method_47_code 28 = .ok (.iload_n 0, 1) := by decide +kernel
theorem own_dnlI_29 : decode jdk_33_method_47_code 29 = .ok (.bipush 16, 2) := by decide +kernel
theorem own_dnlI_31 : decode jdk_33_method_47_code 31 = .ok (.iushr, 1) := by decide +kernel
theorem own_dnlI_32 : decode jdk_33_method_47_code 32 = .ok (.istore_n 0, 1) := by decide +kernel
theorem own_dnlI_33 : decode jdk_33_method_47_code 33 = .ok (.iload_n 0, 1) := by decide +kernel
theorem own_dnlI_34 : decode jdk_33_method_47_code 34 = .ok (.sipush 256, 3) := by decide +kernel
theorem own_dnlI_37 : decode jdk_33_method_47_code 37 = .ok (.if_icmp .lt 11, 3) := by decide +kernel
theorem own_dnlI_40 : decode jdk_33_method_47_code 40 = .ok (.iinc 1 (-8), 3) := by decide +kernel
theorem own_dnlI_43 : decode jdk_33_method_47_code 43 = .ok (.iload_n 0, 1) := by decide +kernel
theorem own_dnlI_44 : decode jdk_33_method_47_code 44 = .ok (.bipush 8, 2) := by decide +kernel
theorem own_dnlI_46 : decode jdk_33_method_47_code 46 = .ok (.iushr, 1) := by decide +kernel
theorem own_dnlI_47 : decode jdk_33_method_47_code 47 = .ok (.istore_n 0, 1) := by decide +kernel
theorem own_dnlI_48 : decode jdk_33_method_47_code 48 = .ok (.iload_n 0, 1) := by decide +kernel
theorem own_dnlI_49 : decode jdk_33_method_47_code 49 = .ok (.bipush 16, 2) := by decide +kernel
theorem own_dnlI_51 : decode jdk_33_method_47_code 51 = .ok (.if_icmp .lt 10, 3) := by decide +kernel
theorem own_dnlI_54 : decode jdk_33_method_47_code 54 = .ok (.iinc 1 (-4), 3) := by decide +kernel
theorem own_dnlI_57 : decode jdk_33_method_47_code 57 = .ok (.iload_n 0, 1) := by decide +kernel
theorem own_dnlI_58 : decode jdk_33_method_47_code 58 = .ok (.iconst 4, 1) := by decide +kernel
theorem own_dnlI_59 : decode jdk_33_method_47_code 59 = .ok (.iushr, 1) := by decide +kernel
theorem own_dnlI_60 : decode jdk_33_method_47_code 60 = .ok (.istore_n 0, 1) := by decide +kernel
theorem own_dnlI_61 : decode jdk_33_method_47_code 61 = .ok (.iload_n 0, 1) := by decide +kernel
theorem own_dnlI_62 : decode jdk_33_method_47_code 62 = .ok (.iconst 4, 1) := by decide +kernel
theorem own_dnlI_63 : decode jdk_33_method_47_code 63 = .ok (.if_icmp .lt 10, 3) := by decide +kernel
theorem own_dnlI_66 : decode jdk_33_method_47_code 66 = .ok (.iinc 1 (-2), 3) := by decide +kernel
theorem own_dnlI_69 : decode jdk_33_method_47_code 69 = .ok (.iload_n 0, 1) := by decide +kernel
theorem own_dnlI_70 : decode jdk_33_method_47_code 70 = .ok (.iconst 2, 1) := by decide +kernel
theorem own_dnlI_71 : decode jdk_33_method_47_code 71 = .ok (.iushr, 1) := by decide +kernel
theorem own_dnlI_72 : decode jdk_33_method_47_code 72 = .ok (.istore_n 0, 1) := by decide +kernel
theorem own_dnlI_73 : decode jdk_33_method_47_code 73 = .ok (.iload_n 1, 1) := by decide +kernel
theorem own_dnlI_74 : decode jdk_33_method_47_code 74 = .ok (.iload_n 0, 1) := by decide +kernel
theorem own_dnlI_75 : decode jdk_33_method_47_code 75 = .ok (.iconst 1, 1) := by decide +kernel
theorem own_dnlI_76 : decode jdk_33_method_47_code 76 = .ok (.iushr, 1) := by decide +kernel
theorem own_dnlI_77 : decode jdk_33_method_47_code 77 = .ok (.isub, 1) := by decide +kernel
theorem own_dnlI_78 : decode jdk_33_method_47_code 78 = .ok (.ireturn, 1) := by decide +kernel
theorem own_pn0 : plainName "java/lang/Integer" = true := by first | (simp [plainName, overriddenIn]; done) | decide +kernel
theorem own_ef_nlI (m : MethodId) (va : Int32) : entryFrame m #[(.int va)] 2 = mkF m 0 #[.val (.int va), .unset] [] := by first | (simp [entryFrame, mkF, argsToLocals, Value.category]; done) | rfl
def own_Q_nlI (Z : State) (va : Int32) (h0 : Heap) (n0 : Nat) (v : Option Value) (h : Heap) (L : List Loc) : Prop := v = some (.int (own_nlzI va)) ∧ Fr n0 L ∧ h = h0
set_option maxRecDepth 65536 in
set_option maxHeartbeats 40000000 in
theorem own_rm_nlI (l : Launch) (Z : State) (a0 : Array Value) (hw : ∀ d ∈ tables_1, d.before a0 Z = true) (ws : List Jvm.Cond) (va : Int32) (h0 : Heap) (n0 : Nat) (Z0 : n0 ≤ h0.size) :
    MetFree l (⟨"java/lang/Integer", "numberOfLeadingZeros", "(I)I"⟩ : MethodName) (head1 (Jvm.Cond.code (⟨"java/lang/Integer", "numberOfLeadingZeros", "(I)I"⟩ : MethodName) jdk_33_method_47_code 2 (some .int) :: ws) ({ frames := 0, cells := 0, slots := 0, locals := 0 } : Room)) (fun a U => a = #[(.int va)] ∧ Z.Warmed39 U.vm ∧ U.heap = h0) (fun _ _ _ _ _ => True) (fun _ U o U' => ∃ v L, o = .returned v ∧ own_Q_nlI Z va h0 n0 v U'.heap L ∧ FrameEnd U o U' L ({ frames := 0, cells := 0, slots := 0, locals := 0 } : Room).cells ({ frames := 0, cells := 0, slots := 0, locals := 0 } : Room).slots) := by
  refine MetFree.of_bodySF (plainFor_of_name own_pn0) hisR ?_
  intro p e s m args below meth c s₁ Bd hml0 hP hK
  obtain ⟨rfl, hZ, hh⟩ := hP
  have hx := Bd.exec
  have hby := Bd.bytes
  have hml : c.maxLocals = 2 := hml0
  have hown : s.vm.findClass "java/lang/Integer" = some m.cls := findClass_of_methodNamed Bd.named
  have hnm := (name_of_methodNamed Bd.named Bd.method).1
  have X0 : Stand p l e ({ frames := 0, cells := 0, slots := 0, locals := 0 } : Room) s m #[(.int va)] below meth c s₁ [] 0 0 := Stand.of_body Bd
  have e0 : s₁.heap = h0 := by rw [← hh, Bd.state]; rfl
  have N0 := Fr.nil n0
  show own_Fin p e below s (own_Q_nlI Z va h0 n0) ({ frames := 0, cells := 0, slots := 0, locals := 0 } : Room).cells ({ frames := 0, cells := 0, slots := 0, locals := 0 } : Room).slots (s₁.setTop (entryFrame m #[(.int va)] 2))
  refine own_Fin.go (fun t k => castTop (own_ef_nlI m va) k) ?_
  refine own_Fin.go (fun t k => XS.iloadN X0.here hx rfl (hb hby own_dnlI_0) rfl k) ?_
  show own_Fin _ _ _ _ _ _ _ (s₁.setTop (mkF m 1 #[.val (.int va), .unset] [(.int va)]))
  by_cases hc1 : (0 : Int32) < va
  · refine own_Fin.go (fun t k => XS.ifYes X0.here hx rfl (pc0 := 1) (pc' := 15) rfl (hb hby own_dnlI_1) rfl (Jvm.Free.XT.i0_gt_t hc1) (by decide) (by decide) k) ?_
    show own_Fin _ _ _ _ _ _ _ (s₁.setTop (mkF m 15 #[.val (.int va), .unset] []))
    refine own_Fin.go (fun t k => XS.bipush X0.here hx rfl (hb hby own_dnlI_15) k) ?_
    show own_Fin _ _ _ _ _ _ _ (s₁.setTop (mkF m 17 #[.val (.int va), .unset] [(.int (31 : Int32))]))
    refine own_Fin.go (fun t k => XS.istoreN X0.here hx rfl (hb hby own_dnlI_17) rfl (l' := #[.val (.int va), .val (.int (31 : Int32))]) rfl k) ?_
    show own_Fin _ _ _ _ _ _ _ (s₁.setTop (mkF m 18 #[.val (.int va), .val (.int (31 : Int32))] []))
    have J33 : ∀ (i1 : Int32) (n1 : Int32) (hJ33 : own_nlzI va = own_z1 i1 n1), own_Fin p e below s (own_Q_nlI Z va h0 n0) ({ frames := 0, cells := 0, slots := 0, locals := 0 } : Room).cells ({ frames := 0, cells := 0, slots := 0, locals := 0 } : Room).slots (s₁.setTop (mkF m 33 #[.val (.int i1), .val (.int n1)] [])) := by
      intro i1 n1 hJ33
      have J48 : ∀ (i2 : Int32) (n2 : Int32) (hJ48 : own_nlzI va = own_z2 i2 n2), own_Fin p e below s (own_Q_nlI Z va h0 n0) ({ frames := 0, cells := 0, slots := 0, locals := 0 } : Room).cells ({ frames := 0, cells := 0, slots := 0, locals := 0 } : Room).slots (s₁.setTop (mkF m 48 #[.val (.int i2), .val (.int n2)] [])) := by
        intro i2 n2 hJ48
        have J61 : ∀ (i3 : Int32) (n3 : Int32) (hJ61 : own_nlzI va = own_z3 i3 n3), own_Fin p e below s (own_Q_nlI Z va h0 n0) ({ frames := 0, cells := 0, slots := 0, locals := 0 } : Room).cells ({ frames := 0, cells := 0, slots := 0, locals := 0 } : Room).slots (s₁.setTop (mkF m 61 #[.val (.int i3), .val (.int n3)] [])) := by
          intro i3 n3 hJ61
          have J73 : ∀ (i4 : Int32) (n4 : Int32) (hJ73 : own_nlzI va = own_z4 i4 n4), own_Fin p e below s (own_Q_nlI Z va h0 n0) ({ frames := 0, cells := 0, slots := 0, locals := 0 } : Room).cells ({ frames := 0, cells := 0, slots := 0, locals := 0 } : Room).slots (s₁.setTop (mkF m 73 #[.val (.int i4), .val (.int n4)] [])) := by
            intro i4 n4 hJ73
            refine own_Fin.go (fun t k => XS.iloadN X0.here hx rfl (hb hby own_dnlI_73) rfl k) ?_
            show own_Fin _ _ _ _ _ _ _ (s₁.setTop (mkF m 74 #[.val (.int i4), .val (.int n4)] [(.int n4)]))
            refine own_Fin.go (fun t k => XS.iloadN X0.here hx rfl (hb hby own_dnlI_74) rfl k) ?_
            show own_Fin _ _ _ _ _ _ _ (s₁.setTop (mkF m 75 #[.val (.int i4), .val (.int n4)] [(.int i4), (.int n4)]))
            refine own_Fin.go (fun t k => XS.iconst X0.here hx rfl (hb hby own_dnlI_75) k) ?_
            show own_Fin _ _ _ _ _ _ _ (s₁.setTop (mkF m 76 #[.val (.int i4), .val (.int n4)] [(.int (1 : Int32)), (.int i4), (.int n4)]))
            refine own_Fin.go (fun t k => XS.iushr X0.here hx rfl (hb hby own_dnlI_76) rfl k) ?_
            show own_Fin _ _ _ _ _ _ _ (s₁.setTop (mkF m 77 #[.val (.int i4), .val (.int n4)] [(.int ((i4.toUInt32 >>> ((1 : Int32) &&& 31).toUInt32).toInt32)), (.int n4)]))
            refine own_Fin.go (fun t k => XS.isub X0.here hx rfl (hb hby own_dnlI_77) rfl k) ?_
            show own_Fin _ _ _ _ _ _ _ (s₁.setTop (mkF m 78 #[.val (.int i4), .val (.int n4)] [(.int (n4 - ((i4.toUInt32 >>> ((1 : Int32) &&& 31).toUInt32).toInt32)))]))
            refine own_retI X0 hx Bd.returns (hb hby own_dnlI_78) Bd.notSynchronized (by decide) (by decide) ?_
            rw [e0]
            exact ⟨by rw [hJ73]; rfl, N0, rfl⟩
          refine own_Fin.go (fun t k => XS.iloadN X0.here hx rfl (hb hby own_dnlI_61) rfl k) ?_
          show own_Fin _ _ _ _ _ _ _ (s₁.setTop (mkF m 62 #[.val (.int i3), .val (.int n3)] [(.int i3)]))
          refine own_Fin.go (fun t k => XS.iconst X0.here hx rfl (hb hby own_dnlI_62) k) ?_
          show own_Fin _ _ _ _ _ _ _ (s₁.setTop (mkF m 63 #[.val (.int i3), .val (.int n3)] [(.int (4 : Int32)), (.int i3)]))
          by_cases hc63 : i3 < (4 : Int32)
          · refine own_Fin.go (fun t k => XS.icmpYes X0.here hx rfl (pc0 := 63) (pc' := 73) rfl (hb hby own_dnlI_63) rfl (Jvm.Free.XT.ii_lt_t hc63) (by decide) (by decide) k) ?_
            show own_Fin _ _ _ _ _ _ _ (s₁.setTop (mkF m 73 #[.val (.int i3), .val (.int n3)] []))
            exact J73 i3 n3 (by rw [hJ61]; first | (simp only [own_z3, if_pos hc63]; done) | (simp only [own_z3, if_neg hc63]; done))
          · refine own_Fin.go (fun t k => XS.icmpNo X0.here hx rfl (hb hby own_dnlI_63) rfl (Jvm.Free.XT.ii_lt_f hc63) k) ?_
            show own_Fin _ _ _ _ _ _ _ (s₁.setTop (mkF m 66 #[.val (.int i3), .val (.int n3)] []))
            refine own_Fin.go (fun t k => XS.iinc X0.here hx rfl (hb hby own_dnlI_66) rfl (l' := #[.val (.int i3), .val (.int (n3 + (-2 : Int32)))]) rfl k) ?_
            show own_Fin _ _ _ _ _ _ _ (s₁.setTop (mkF m 69 #[.val (.int i3), .val (.int (n3 + (-2 : Int32)))] []))
            refine own_Fin.go (fun t k => XS.iloadN X0.here hx rfl (hb hby own_dnlI_69) rfl k) ?_
            show own_Fin _ _ _ _ _ _ _ (s₁.setTop (mkF m 70 #[.val (.int i3), .val (.int (n3 + (-2 : Int32)))] [(.int i3)]))
            refine own_Fin.go (fun t k => XS.iconst X0.here hx rfl (hb hby own_dnlI_70) k) ?_
            show own_Fin _ _ _ _ _ _ _ (s₁.setTop (mkF m 71 #[.val (.int i3), .val (.int (n3 + (-2 : Int32)))] [(.int (2 : Int32)), (.int i3)]))
            refine own_Fin.go (fun t k => XS.iushr X0.here hx rfl (hb hby own_dnlI_71) rfl k) ?_
            show own_Fin _ _ _ _ _ _ _ (s₁.setTop (mkF m 72 #[.val (.int i3), .val (.int (n3 + (-2 : Int32)))] [(.int ((i3.toUInt32 >>> ((2 : Int32) &&& 31).toUInt32).toInt32))]))
            refine own_Fin.go (fun t k => XS.istoreN X0.here hx rfl (hb hby own_dnlI_72) rfl (l' := #[.val (.int ((i3.toUInt32 >>> ((2 : Int32) &&& 31).toUInt32).toInt32)), .val (.int (n3 + (-2 : Int32)))]) rfl k) ?_
            show own_Fin _ _ _ _ _ _ _ (s₁.setTop (mkF m 73 #[.val (.int ((i3.toUInt32 >>> ((2 : Int32) &&& 31).toUInt32).toInt32)), .val (.int (n3 + (-2 : Int32)))] []))
            exact J73 ((i3.toUInt32 >>> ((2 : Int32) &&& 31).toUInt32).toInt32) (n3 + (-2 : Int32)) (by rw [hJ61]; first | (simp only [own_z3, if_pos hc63]; done) | (simp only [own_z3, if_neg hc63]; done))
        refine own_Fin.go (fun t k => XS.iloadN X0.here hx rfl (hb hby own_dnlI_48) rfl k) ?_
        show own_Fin _ _ _ _ _ _ _ (s₁.setTop (mkF m 49 #[.val (.int i2), .val (.int n2)] [(.int i2)]))
        refine own_Fin.go (fun t k => XS.bipush X0.here hx rfl (hb hby own_dnlI_49) k) ?_
        show own_Fin _ _ _ _ _ _ _ (s₁.setTop (mkF m 51 #[.val (.int i2), .val (.int n2)] [(.int (16 : Int32)), (.int i2)]))
        by_cases hc51 : i2 < (16 : Int32)
        · refine own_Fin.go (fun t k => XS.icmpYes X0.here hx rfl (pc0 := 51) (pc' := 61) rfl (hb hby own_dnlI_51) rfl (Jvm.Free.XT.ii_lt_t hc51) (by decide) (by decide) k) ?_
          show own_Fin _ _ _ _ _ _ _ (s₁.setTop (mkF m 61 #[.val (.int i2), .val (.int n2)] []))
          exact J61 i2 n2 (by rw [hJ48]; first | (simp only [own_z2, if_pos hc51]; done) | (simp only [own_z2, if_neg hc51]; done))
        · refine own_Fin.go (fun t k => XS.icmpNo X0.here hx rfl (hb hby own_dnlI_51) rfl (Jvm.Free.XT.ii_lt_f hc51) k) ?_
          show own_Fin _ _ _ _ _ _ _ (s₁.setTop (mkF m 54 #[.val (.int i2), .val (.int n2)] []))
          refine own_Fin.go (fun t k => XS.iinc X0.here hx rfl (hb hby own_dnlI_54) rfl (l' := #[.val (.int i2), .val (.int (n2 + (-4 : Int32)))]) rfl k) ?_
          show own_Fin _ _ _ _ _ _ _ (s₁.setTop (mkF m 57 #[.val (.int i2), .val (.int (n2 + (-4 : Int32)))] []))
          refine own_Fin.go (fun t k => XS.iloadN X0.here hx rfl (hb hby own_dnlI_57) rfl k) ?_
          show own_Fin _ _ _ _ _ _ _ (s₁.setTop (mkF m 58 #[.val (.int i2), .val (.int (n2 + (-4 : Int32)))] [(.int i2)]))
          refine own_Fin.go (fun t k => XS.iconst X0.here hx rfl (hb hby own_dnlI_58) k) ?_
          show own_Fin _ _ _ _ _ _ _ (s₁.setTop (mkF m 59 #[.val (.int i2), .val (.int (n2 + (-4 : Int32)))] [(.int (4 : Int32)), (.int i2)]))
          refine own_Fin.go (fun t k => XS.iushr X0.here hx rfl (hb hby own_dnlI_59) rfl k) ?_
          show own_Fin _ _ _ _ _ _ _ (s₁.setTop (mkF m 60 #[.val (.int i2), .val (.int (n2 + (-4 : Int32)))] [(.int ((i2.toUInt32 >>> ((4 : Int32) &&& 31).toUInt32).toInt32))]))
          refine own_Fin.go (fun t k => XS.istoreN X0.here hx rfl (hb hby own_dnlI_60) rfl (l' := #[.val (.int ((i2.toUInt32 >>> ((4 : Int32) &&& 31).toUInt32).toInt32)), .val (.int (n2 + (-4 : Int32)))]) rfl k) ?_
          show own_Fin _ _ _ _ _ _ _ (s₁.setTop (mkF m 61 #[.val (.int ((i2.toUInt32 >>> ((4 : Int32) &&& 31).toUInt32).toInt32)), .val (.int (n2 + (-4 : Int32)))] []))
          exact J61 ((i2.toUInt32 >>> ((4 : Int32) &&& 31).toUInt32).toInt32) (n2 + (-4 : Int32)) (by rw [hJ48]; first | (simp only [own_z2, if_pos hc51]; done) | (simp only [own_z2, if_neg hc51]; done))
      refine own_Fin.go (fun t k => XS.iloadN X0.here hx rfl (hb hby own_dnlI_33) rfl k) ?_
      show own_Fin _ _ _ _ _ _ _ (s₁.setTop (mkF m 34 #[.val (.int i1), .val (.int n1)] [(.int i1)]))
      refine own_Fin.go (fun t k => XS.sipush X0.here hx rfl (hb hby own_dnlI_34) k) ?_
      show own_Fin _ _ _ _ _ _ _ (s₁.setTop (mkF m 37 #[.val (.int i1), .val (.int n1)] [(.int (256 : Int32)), (.int i1)]))
      by_cases hc37 : i1 < (256 : Int32)
      · refine own_Fin.go (fun t k => XS.icmpYes X0.here hx rfl (pc0 := 37) (pc' := 48) rfl (hb hby own_dnlI_37) rfl (Jvm.Free.XT.ii_lt_t hc37) (by decide) (by decide) k) ?_
        show own_Fin _ _ _ _ _ _ _ (s₁.setTop (mkF m 48 #[.val (.int i1), .val (.int n1)] []))
        exact J48 i1 n1 (by rw [hJ33]; first | (simp only [own_z1, if_pos hc37]; done) | (simp only [own_z1, if_neg hc37]; done))
      · refine own_Fin.go (fun t k => XS.icmpNo X0.here hx rfl (hb hby own_dnlI_37) rfl (Jvm.Free.XT.ii_lt_f hc37) k) ?_
        show own_Fin _ _ _ _ _ _ _ (s₁.setTop (mkF m 40 #[.val (.int i1), .val (.int n1)] []))
        refine own_Fin.go (fun t k => XS.iinc X0.here hx rfl (hb hby own_dnlI_40) rfl (l' := #[.val (.int i1), .val (.int (n1 + (-8 : Int32)))]) rfl k) ?_
        show own_Fin _ _ _ _ _ _ _ (s₁.setTop (mkF m 43 #[.val (.int i1), .val (.int (n1 + (-8 : Int32)))] []))
        refine own_Fin.go (fun t k => XS.iloadN X0.here hx rfl (hb hby own_dnlI_43) rfl k) ?_
        show own_Fin _ _ _ _ _ _ _ (s₁.setTop (mkF m 44 #[.val (.int i1), .val (.int (n1 + (-8 : Int32)))] [(.int i1)]))
        refine own_Fin.go (fun t k => XS.bipush X0.here hx rfl (hb hby own_dnlI_44) k) ?_
        show own_Fin _ _ _ _ _ _ _ (s₁.setTop (mkF m 46 #[.val (.int i1), .val (.int (n1 + (-8 : Int32)))] [(.int (8 : Int32)), (.int i1)]))
        refine own_Fin.go (fun t k => XS.iushr X0.here hx rfl (hb hby own_dnlI_46) rfl k) ?_
        show own_Fin _ _ _ _ _ _ _ (s₁.setTop (mkF m 47 #[.val (.int i1), .val (.int (n1 + (-8 : Int32)))] [(.int ((i1.toUInt32 >>> ((8 : Int32) &&& 31).toUInt32).toInt32))]))
        refine own_Fin.go (fun t k => XS.istoreN X0.here hx rfl (hb hby own_dnlI_47) rfl (l' := #[.val (.int ((i1.toUInt32 >>> ((8 : Int32) &&& 31).toUInt32).toInt32)), .val (.int (n1 + (-8 : Int32)))]) rfl k) ?_
        show own_Fin _ _ _ _ _ _ _ (s₁.setTop (mkF m 48 #[.val (.int ((i1.toUInt32 >>> ((8 : Int32) &&& 31).toUInt32).toInt32)), .val (.int (n1 + (-8 : Int32)))] []))
        exact J48 ((i1.toUInt32 >>> ((8 : Int32) &&& 31).toUInt32).toInt32) (n1 + (-8 : Int32)) (by rw [hJ33]; first | (simp only [own_z1, if_pos hc37]; done) | (simp only [own_z1, if_neg hc37]; done))
    refine own_Fin.go (fun t k => XS.iloadN X0.here hx rfl (hb hby own_dnlI_18) rfl k) ?_
    show own_Fin _ _ _ _ _ _ _ (s₁.setTop (mkF m 19 #[.val (.int va), .val (.int (31 : Int32))] [(.int va)]))
    refine own_Fin.go (fun t k => X0.ldcWInt hx hown (mvT hZ (hw _ (List.mem_of_getElem? (i := 84) rfl))) (g := (mkF m 19 #[.val (.int va), .val (.int (31 : Int32))] [(.int va)])) rfl (hb hby own_dnlI_19) t k) ?_
    show own_Fin _ _ _ _ _ _ _ (s₁.setTop (mkF m 22 #[.val (.int va), .val (.int (31 : Int32))] [(.int (65536 : Int32)), (.int va)]))
    by_cases hc22 : va < (65536 : Int32)
    · refine own_Fin.go (fun t k => XS.icmpYes X0.here hx rfl (pc0 := 22) (pc' := 33) rfl (hb hby own_dnlI_22) rfl (Jvm.Free.XT.ii_lt_t hc22) (by decide) (by decide) k) ?_
      show own_Fin _ _ _ _ _ _ _ (s₁.setTop (mkF m 33 #[.val (.int va), .val (.int (31 : Int32))] []))
      exact J33 va (31 : Int32) (by first | (simp only [own_nlzI, own_z0, if_pos hc1, if_pos hc22]; done) | (simp only [own_nlzI, own_z0, if_pos hc1, if_neg hc22]; rfl))
    · refine own_Fin.go (fun t k => XS.icmpNo X0.here hx rfl (hb hby own_dnlI_22) rfl (Jvm.Free.XT.ii_lt_f hc22) k) ?_
      show own_Fin _ _ _ _ _ _ _ (s₁.setTop (mkF m 25 #[.val (.int va), .val (.int (31 : Int32))] []))
      refine own_Fin.go (fun t k => XS.iinc X0.here hx rfl (hb hby own_dnlI_25) rfl (l' := #[.val (.int va), .val (.int ((31 : Int32) + (-16 : Int32)))]) rfl k) ?_
      show own_Fin _ _ _ _ _ _ _ (s₁.setTop (mkF m 28 #[.val (.int va), .val (.int ((31 : Int32) + (-16 : Int32)))] []))
      rw [show ((31 : Int32) + (-16 : Int32)) = (15 : Int32) from by decide +kernel]
      show own_Fin _ _ _ _ _ _ _ (s₁.setTop (mkF m 28 #[.val (.int va), .val (.int (15 : Int32))] []))
      refine own_Fin.go (fun t k => XS.iloadN X0.here hx rfl (hb hby own_dnlI_28) rfl k) ?_
      show own_Fin _ _ _ _ _ _ _ (s₁.setTop (mkF m 29 #[.val (.int va), .val (.int (15 : Int32))] [(.int va)]))
      refine own_Fin.go (fun t k => XS.bipush X0.here hx rfl (hb hby own_dnlI_29) k) ?_
      show own_Fin _ _ _ _ _ _ _ (s₁.setTop (mkF m 31 #[.val (.int va), .val (.int (15 : Int32))] [(.int (16 : Int32)), (.int va)]))
      refine own_Fin.go (fun t k => XS.iushr X0.here hx rfl (hb hby own_dnlI_31) rfl k) ?_
      show own_Fin _ _ _ _ _ _ _ (s₁.setTop (mkF m 32 #[.val (.int va), .val (.int (15 : Int32))] [(.int ((va.toUInt32 >>> ((16 : Int32) &&& 31).toUInt32).toInt32))]))
      refine own_Fin.go (fun t k => XS.istoreN X0.here hx rfl (hb hby own_dnlI_32) rfl (l' := #[.val (.int ((va.toUInt32 >>> ((16 : Int32) &&& 31).toUInt32).toInt32)), .val (.int (15 : Int32))]) rfl k) ?_
      show own_Fin _ _ _ _ _ _ _ (s₁.setTop (mkF m 33 #[.val (.int ((va.toUInt32 >>> ((16 : Int32) &&& 31).toUInt32).toInt32)), .val (.int (15 : Int32))] []))
      exact J33 ((va.toUInt32 >>> ((16 : Int32) &&& 31).toUInt32).toInt32) (15 : Int32) (by first | (simp only [own_nlzI, own_z0, if_pos hc1, if_pos hc22]; done) | (simp only [own_nlzI, own_z0, if_pos hc1, if_neg hc22]; rfl))
  · refine own_Fin.go (fun t k => XS.ifNo X0.here hx rfl (hb hby own_dnlI_1) rfl (Jvm.Free.XT.i0_gt_f hc1) k) ?_
    show own_Fin _ _ _ _ _ _ _ (s₁.setTop (mkF m 4 #[.val (.int va), .unset] []))
    refine own_Fin.go (fun t k => XS.iloadN X0.here hx rfl (hb hby own_dnlI_4) rfl k) ?_
    show own_Fin _ _ _ _ _ _ _ (s₁.setTop (mkF m 5 #[.val (.int va), .unset] [(.int va)]))
    by_cases hc5 : va = (0 : Int32)
    · refine own_Fin.go (fun t k => XS.ifNo X0.here hx rfl (hb hby own_dnlI_5) rfl (Jvm.Free.XT.i0_ne_f hc5) k) ?_
      show own_Fin _ _ _ _ _ _ _ (s₁.setTop (mkF m 8 #[.val (.int va), .unset] []))
      refine own_Fin.go (fun t k => XS.bipush X0.here hx rfl (hb hby own_dnlI_8) k) ?_
      show own_Fin _ _ _ _ _ _ _ (s₁.setTop (mkF m 10 #[.val (.int va), .unset] [(.int (32 : Int32))]))
      refine own_Fin.go (fun t k => XS.goto X0.here hx rfl (pc0 := 10) (pc' := 14) rfl (hb hby own_dnlI_10) (by decide) (by decide) k) ?_
      show own_Fin _ _ _ _ _ _ _ (s₁.setTop (mkF m 14 #[.val (.int va), .unset] [(.int (32 : Int32))]))
      refine own_retI X0 hx Bd.returns (hb hby own_dnlI_14) Bd.notSynchronized (by decide) (by decide) ?_
      rw [e0]
      exact ⟨by simp only [own_nlzI, if_neg hc1, if_pos hc5], N0, rfl⟩
    · refine own_Fin.go (fun t k => XS.ifYes X0.here hx rfl (pc0 := 5) (pc' := 13) rfl (hb hby own_dnlI_5) rfl (Jvm.Free.XT.i0_ne_t hc5) (by decide) (by decide) k) ?_
      show own_Fin _ _ _ _ _ _ _ (s₁.setTop (mkF m 13 #[.val (.int va), .unset] []))
      refine own_Fin.go (fun t k => XS.iconst X0.here hx rfl (hb hby own_dnlI_13) k) ?_
      show own_Fin _ _ _ _ _ _ _ (s₁.setTop (mkF m 14 #[.val (.int va), .unset] [(.int (0 : Int32))]))
      refine own_retI X0 hx Bd.returns (hb hby own_dnlI_14) Bd.notSynchronized (by decide) (by decide) ?_
      rw [e0]
      exact ⟨by simp only [own_nlzI, if_neg hc1, if_neg hc5], N0, rfl⟩
theorem own_pd0 : parseMethodDescriptor "(I)I" = some ⟨[.int], some .int⟩ := by decide +kernel
theorem own_dnlL_0 : decode jdk_35_method_48_code 0 = .ok (.lload_n 0, 1) := by decide +kernel
theorem own_dnlL_1 : decode jdk_35_method_48_code 1 = .ok (.bipush 32, 2) := by decide +kernel
theorem own_dnlL_3 : decode jdk_35_method_48_code 3 = .ok (.lushr, 1) := by decide +kernel
theorem own_dnlL_4 : decode jdk_35_method_48_code 4 = .ok (.l2i, 1) := by decide +kernel
theorem own_dnlL_5 : decode jdk_35_method_48_code 5 = .ok (.istore_n 2, 1) := by decide +kernel
theorem own_dnlL_6 : decode jdk_35_method_48_code 6 = .ok (.iload_n 2, 1) := by decide +kernel
theorem own_dnlL_7 : decode jdk_35_method_48_code 7 = .ok (.ifCond .ne 14, 3) := by decide +kernel
theorem own_dnlL_10 : decode jdk_35_method_48_code 10 = .ok (.bipush 32, 2) := by decide +kernel
theorem own_dnlL_12 : decode jdk_35_method_48_code 12 = .ok (.lload_n 0, 1) := by decide +kernel
theorem own_dnlL_13 : decode jdk_35_method_48_code 13 = .ok (.l2i, 1) := by decide +kernel
theorem own_dnlL_14 : decode jdk_35_method_48_code 14 = .ok (.invokestatic 308, 3) := by decide +kernel
theorem own_dnlL_17 : decode jdk_35_method_48_code 17 = .ok (.iadd, 1) := by decide +kernel
theorem own_dnlL_18 : decode jdk_35_method_48_code 18 = .ok (.goto 7, 3) := by decide +kernel
theorem own_dnlL_21 : decode jdk_35_method_48_code 21 = .ok (.iload_n 2, 1) := by decide +kernel
theorem own_dnlL_22 : decode jdk_35_method_48_code 22 = .ok (.invokestatic 308, 3) := by decide +kernel
theorem own_dnlL_25 : decode jdk_35_method_48_code 25 = .ok (.ireturn, 1) := by decide +kernel
theorem own_pn1 : plainName "java/lang/Long" = true := by first | (simp [plainName, overriddenIn]; done) | decide +kernel
theorem own_ef_nlL (m : MethodId) (va : Int64) : entryFrame m #[(.long va)] 3 = mkF m 0 #[.val (.long va), .second, .unset] [] := by first | (simp [entryFrame, mkF, argsToLocals, Value.category]; done) | rfl
def own_Q_nlL (Z : State) (va : Int64) (h0 : Heap) (n0 : Nat) (v : Option Value) (h : Heap) (L : List Loc) : Prop := v = some (.int (own_nlzL va)) ∧ Fr n0 L ∧ h = h0
set_option maxRecDepth 65536 in
set_option maxHeartbeats 40000000 in
theorem own_rm_nlL (l : Launch) (Z : State) (a0 : Array Value) (hw : ∀ d ∈ tables_1, d.before a0 Z = true) (ws : List Jvm.Cond) (va : Int64) (h0 : Heap) (n0 : Nat) (Z0 : n0 ≤ h0.size) :
    MetFree l (⟨"java/lang/Long", "numberOfLeadingZeros", "(J)I"⟩ : MethodName) (head1 (Jvm.Cond.code (⟨"java/lang/Long", "numberOfLeadingZeros", "(J)I"⟩ : MethodName) jdk_35_method_48_code 3 (some .int) :: ws) ({ frames := 1, cells := 0, slots := 0, locals := 14 } : Room)) (fun a U => a = #[(.long va)] ∧ Z.Warmed39 U.vm ∧ U.heap = h0) (fun _ _ _ _ _ => True) (fun _ U o U' => ∃ v L, o = .returned v ∧ own_Q_nlL Z va h0 n0 v U'.heap L ∧ FrameEnd U o U' L ({ frames := 1, cells := 0, slots := 0, locals := 14 } : Room).cells ({ frames := 1, cells := 0, slots := 0, locals := 14 } : Room).slots) := by
  refine MetFree.of_bodySF (plainFor_of_name own_pn1) hisR ?_
  intro p e s m args below meth c s₁ Bd hml0 hP hK
  obtain ⟨rfl, hZ, hh⟩ := hP
  have hx := Bd.exec
  have hby := Bd.bytes
  have hml : c.maxLocals = 3 := hml0
  have hown : s.vm.findClass "java/lang/Long" = some m.cls := findClass_of_methodNamed Bd.named
  have hnm := (name_of_methodNamed Bd.named Bd.method).1
  have X0 : Stand p l e ({ frames := 1, cells := 0, slots := 0, locals := 14 } : Room) s m #[(.long va)] below meth c s₁ [] 0 0 := Stand.of_body Bd
  have e0 : s₁.heap = h0 := by rw [← hh, Bd.state]; rfl
  have N0 := Fr.nil n0
  show own_Fin p e below s (own_Q_nlL Z va h0 n0) ({ frames := 1, cells := 0, slots := 0, locals := 14 } : Room).cells ({ frames := 1, cells := 0, slots := 0, locals := 14 } : Room).slots (s₁.setTop (entryFrame m #[(.long va)] 3))
  refine own_Fin.go (fun t k => castTop (own_ef_nlL m va) k) ?_
  refine own_Fin.go (fun t k => XS.lloadN X0.here hx rfl (hb hby own_dnlL_0) rfl k) ?_
  show own_Fin _ _ _ _ _ _ _ (s₁.setTop (mkF m 1 #[.val (.long va), .second, .unset] [(.long va)]))
  refine own_Fin.go (fun t k => XS.bipush X0.here hx rfl (hb hby own_dnlL_1) k) ?_
  show own_Fin _ _ _ _ _ _ _ (s₁.setTop (mkF m 3 #[.val (.long va), .second, .unset] [(.int (32 : Int32)), (.long va)]))
  refine own_Fin.go (fun t k => XS.lushr X0.here hx rfl (hb hby own_dnlL_3) rfl k) ?_
  show own_Fin _ _ _ _ _ _ _ (s₁.setTop (mkF m 4 #[.val (.long va), .second, .unset] [(.long ((va.toUInt64 >>> ((32 : Int32) &&& 0x3f).toInt64.toUInt64).toInt64))]))
  refine own_Fin.go (fun t k => XS.l2i X0.here hx rfl (hb hby own_dnlL_4) rfl k) ?_
  show own_Fin _ _ _ _ _ _ _ (s₁.setTop (mkF m 5 #[.val (.long va), .second, .unset] [(.int (((va.toUInt64 >>> ((32 : Int32) &&& 0x3f).toInt64.toUInt64).toInt64).toInt32))]))
  refine own_Fin.go (fun t k => XS.istoreN X0.here hx rfl (hb hby own_dnlL_5) rfl (l' := #[.val (.long va), .second, .val (.int (((va.toUInt64 >>> ((32 : Int32) &&& 0x3f).toInt64.toUInt64).toInt64).toInt32))]) rfl k) ?_
  show own_Fin _ _ _ _ _ _ _ (s₁.setTop (mkF m 6 #[.val (.long va), .second, .val (.int (((va.toUInt64 >>> ((32 : Int32) &&& 0x3f).toInt64.toUInt64).toInt64).toInt32))] []))
  show own_Fin _ _ _ _ _ _ _ (s₁.setTop (mkF m 6 #[.val (.long va), .second, .val (.int (own_hi va))] []))
  refine own_Fin.go (fun t k => XS.iloadN X0.here hx rfl (hb hby own_dnlL_6) rfl k) ?_
  show own_Fin _ _ _ _ _ _ _ (s₁.setTop (mkF m 7 #[.val (.long va), .second, .val (.int (own_hi va))] [(.int (own_hi va))]))
  by_cases hc7 : (own_hi va) = (0 : Int32)
  · refine own_Fin.go (fun t k => XS.ifNo X0.here hx rfl (hb hby own_dnlL_7) rfl (Jvm.Free.XT.i0_ne_f hc7) k) ?_
    show own_Fin _ _ _ _ _ _ _ (s₁.setTop (mkF m 10 #[.val (.long va), .second, .val (.int (own_hi va))] []))
    refine own_Fin.go (fun t k => XS.bipush X0.here hx rfl (hb hby own_dnlL_10) k) ?_
    show own_Fin _ _ _ _ _ _ _ (s₁.setTop (mkF m 12 #[.val (.long va), .second, .val (.int (own_hi va))] [(.int (32 : Int32))]))
    refine own_Fin.go (fun t k => XS.lloadN X0.here hx rfl (hb hby own_dnlL_12) rfl k) ?_
    show own_Fin _ _ _ _ _ _ _ (s₁.setTop (mkF m 13 #[.val (.long va), .second, .val (.int (own_hi va))] [(.long va), (.int (32 : Int32))]))
    refine own_Fin.go (fun t k => XS.l2i X0.here hx rfl (hb hby own_dnlL_13) rfl k) ?_
    show own_Fin _ _ _ _ _ _ _ (s₁.setTop (mkF m 14 #[.val (.long va), .second, .val (.int (own_hi va))] [(.int (va.toInt32)), (.int (32 : Int32))]))
    obtain ⟨_, _, ⟨T1, L1, k1, n1⟩, -, X1, ⟨Lc1, hQ1, l1, y1, z1⟩, st1⟩ := Jvm.LawKit.callS X0 hx (y := (⟨"java/lang/Integer", "numberOfLeadingZeros", "(I)I"⟩ : MethodName)) hown (mvT hZ (hw _ (List.mem_of_getElem? (i := 80) rfl))) (mvT hZ (hw _ (List.mem_of_getElem? (i := 81) rfl))) (mvT hZ (hw _ (List.mem_of_getElem? (i := 82) rfl))) (mvT hZ (hw _ (List.mem_of_getElem? (i := 83) rfl))) (by decide) (backOf (W := 1) (own_rm_nlI l Z a0 hw [] (va.toInt32)  h0 n0 Z0 ) hZ (hw _ (List.mem_of_getElem? (i := 83) rfl)) (hw _ (List.mem_of_getElem? (i := 82) rfl)) (by decide) (by decide)) (g := (mkF m 14 #[.val (.long va), .second, .val (.int (own_hi va))] [(.int (va.toInt32)), (.int (32 : Int32))])) rfl (by rw [hml]; rfl) (argsL := [(.int (va.toInt32))]) (rest := [(.int (32 : Int32))]) (lenOf own_pd0 rfl) rfl (by show 2 * 0 + _ ≤ _; exact Nat.le_of_eq rfl) (hb hby own_dnlL_14) (fun _ _ => ⟨rfl, e0, (by decide : 0 + 0 ≤ _), (by decide : 0 + 0 ≤ _)⟩)
    dsimp only [Pt.U, Pt.locs, Pt.cells, Pt.slots] at X1 l1 y1 z1 st1 hQ1
    subst l1 y1 z1
    obtain ⟨rfl, N1q, e1⟩ := hQ1
    refine own_Fin.go (fun t k => st1 t k) ?_
    have N1 := Fr.app N0 N1q
    show own_Fin _ _ _ _ _ _ _ (T1.setTop (mkF m 17 #[.val (.long va), .second, .val (.int (own_hi va))] [(.int (own_nlzI (va.toInt32))), (.int (32 : Int32))]))
    refine own_Fin.go (fun t k => XS.iadd X1.here hx rfl (hb hby own_dnlL_17) rfl k) ?_
    show own_Fin _ _ _ _ _ _ _ (T1.setTop (mkF m 18 #[.val (.long va), .second, .val (.int (own_hi va))] [(.int ((32 : Int32) + (own_nlzI (va.toInt32))))]))
    refine own_Fin.go (fun t k => XS.goto X1.here hx rfl (pc0 := 18) (pc' := 25) rfl (hb hby own_dnlL_18) (by decide) (by decide) k) ?_
    show own_Fin _ _ _ _ _ _ _ (T1.setTop (mkF m 25 #[.val (.long va), .second, .val (.int (own_hi va))] [(.int ((32 : Int32) + (own_nlzI (va.toInt32))))]))
    refine own_retI X1 hx Bd.returns (hb hby own_dnlL_25) Bd.notSynchronized (by decide) (by decide) ?_
    rw [e1]
    exact ⟨by simp only [own_nlzL, if_pos hc7], N1, rfl⟩
  · refine own_Fin.go (fun t k => XS.ifYes X0.here hx rfl (pc0 := 7) (pc' := 21) rfl (hb hby own_dnlL_7) rfl (Jvm.Free.XT.i0_ne_t hc7) (by decide) (by decide) k) ?_
    show own_Fin _ _ _ _ _ _ _ (s₁.setTop (mkF m 21 #[.val (.long va), .second, .val (.int (own_hi va))] []))
    refine own_Fin.go (fun t k => XS.iloadN X0.here hx rfl (hb hby own_dnlL_21) rfl k) ?_
    show own_Fin _ _ _ _ _ _ _ (s₁.setTop (mkF m 22 #[.val (.long va), .second, .val (.int (own_hi va))] [(.int (own_hi va))]))
    obtain ⟨_, _, ⟨T2, L2, k2, n2⟩, -, X2, ⟨Lc2, hQ2, l2, y2, z2⟩, st2⟩ := Jvm.LawKit.callS X0 hx (y := (⟨"java/lang/Integer", "numberOfLeadingZeros", "(I)I"⟩ : MethodName)) hown (mvT hZ (hw _ (List.mem_of_getElem? (i := 80) rfl))) (mvT hZ (hw _ (List.mem_of_getElem? (i := 81) rfl))) (mvT hZ (hw _ (List.mem_of_getElem? (i := 82) rfl))) (mvT hZ (hw _ (List.mem_of_getElem? (i := 83) rfl))) (by decide) (backOf (W := 0) (own_rm_nlI l Z a0 hw [] (own_hi va)  h0 n0 Z0 ) hZ (hw _ (List.mem_of_getElem? (i := 83) rfl)) (hw _ (List.mem_of_getElem? (i := 82) rfl)) (by decide) (by decide)) (g := (mkF m 22 #[.val (.long va), .second, .val (.int (own_hi va))] [(.int (own_hi va))])) rfl (by rw [hml]; rfl) (argsL := [(.int (own_hi va))]) (rest := []) (lenOf own_pd0 rfl) rfl (by show 2 * 0 + _ ≤ _; exact Nat.le_of_eq rfl) (hb hby own_dnlL_22) (fun _ _ => ⟨rfl, e0, (by decide : 0 + 0 ≤ _), (by decide : 0 + 0 ≤ _)⟩)
    dsimp only [Pt.U, Pt.locs, Pt.cells, Pt.slots] at X2 l2 y2 z2 st2 hQ2
    subst l2 y2 z2
    obtain ⟨rfl, N2q, e2⟩ := hQ2
    refine own_Fin.go (fun t k => st2 t k) ?_
    have N2 := Fr.app N0 N2q
    show own_Fin _ _ _ _ _ _ _ (T2.setTop (mkF m 25 #[.val (.long va), .second, .val (.int (own_hi va))] [(.int (own_nlzI (own_hi va)))]))
    refine own_retI X2 hx Bd.returns (hb hby own_dnlL_25) Bd.notSynchronized (by decide) (by decide) ?_
    rw [e2]
    exact ⟨by simp only [own_nlzL, if_neg hc7], N2, rfl⟩
theorem own_pd1 : parseMethodDescriptor "(J)I" = some ⟨[.long], some .int⟩ := by decide +kernel
theorem own_dbk_0 : decode prog_3_method_7_code 0 = .ok (.lload_n 0, 1) := by decide +kernel
theorem own_dbk_1 : decode prog_3_method_7_code 1 = .ok (.ldc2_w 42, 3) := by decide +kernel
theorem own_dbk_4 : decode prog_3_method_7_code 4 = .ok (.lcmp, 1) := by decide +kernel
theorem own_dbk_5 : decode prog_3_method_7_code 5 = .ok (.ifCond .ge 6, 3) := by decide +kernel
theorem own_dbk_8 : decode prog_3_method_7_code 8 = .ok (.lload_n 0, 1) := by decide +kernel
theorem own_dbk_9 : decode prog_3_method_7_code 9 = .ok (.l2i, 1) := by decide +kernel
theorem own_dbk_10 : decode prog_3_method_7_code 10 = .ok (.ireturn, 1) := by decide +kernel
theorem own_dbk_11 : decode prog_3_method_7_code 11 = .ok (.bipush 63, 2) := by decide +kernel
theorem own_dbk_13 : decode prog_3_method_7_code 13 = .ok (.lload_n 0, 1) := by decide +kernel
theorem own_dbk_14 : decode prog_3_method_7_code 14 = .ok (.invokestatic 44, 3) := by decide +kernel
theorem own_dbk_17 : decode prog_3_method_7_code 17 = .ok (.isub, 1) := by decide +kernel
theorem own_dbk_18 : decode prog_3_method_7_code 18 = .ok (.istore_n 2, 1) := by decide +kernel
theorem own_dbk_19 : decode prog_3_method_7_code 19 = .ok (.iload_n 2, 1) := by decide +kernel
theorem own_dbk_20 : decode prog_3_method_7_code 20 = .ok (.bipush 6, 2) := by decide +kernel
theorem own_dbk_22 : decode prog_3_method_7_code 22 = .ok (.isub, 1) := by decide +kernel
theorem own_dbk_23 : decode prog_3_method_7_code 23 = .ok (.istore_n 3, 1) := by decide +kernel
theorem own_dbk_24 : decode prog_3_method_7_code 24 = .ok (.lload_n 0, 1) := by decide +kernel
theorem own_dbk_25 : decode prog_3_method_7_code 25 = .ok (.iload_n 3, 1) := by decide +kernel
theorem own_dbk_26 : decode prog_3_method_7_code 26 = .ok (.lushr, 1) := by decide +kernel
theorem own_dbk_27 : decode prog_3_method_7_code 27 = .ok (.l2i, 1) := by decide +kernel
theorem own_dbk_28 : decode prog_3_method_7_code 28 = .ok (.bipush 64, 2) := by decide +kernel
theorem own_dbk_30 : decode prog_3_method_7_code 30 = .ok (.isub, 1) := by decide +kernel
theorem own_dbk_31 : decode prog_3_method_7_code 31 = .ok (.istore 4, 2) := by decide +kernel
theorem own_dbk_33 : decode prog_3_method_7_code 33 = .ok (.sipush 128, 3) := by decide +kernel
theorem own_dbk_36 : decode prog_3_method_7_code 36 = .ok (.iload_n 2, 1) := by decide +kernel
theorem own_dbk_37 : decode prog_3_method_7_code 37 = .ok (.bipush 7, 2) := by decide +kernel
theorem own_dbk_39 : decode prog_3_method_7_code 39 = .ok (.isub, 1) := by decide +kernel
theorem own_dbk_40 : decode prog_3_method_7_code 40 = .ok (.bipush 64, 2) := by decide +kernel
theorem own_dbk_42 : decode prog_3_method_7_code 42 = .ok (.imul, 1) := by decide +kernel
theorem own_dbk_43 : decode prog_3_method_7_code 43 = .ok (.iadd, 1) := by decide +kernel
theorem own_dbk_44 : decode prog_3_method_7_code 44 = .ok (.iload 4, 2) := by decide +kernel
theorem own_dbk_46 : decode prog_3_method_7_code 46 = .ok (.iadd, 1) := by decide +kernel
theorem own_dbk_47 : decode prog_3_method_7_code 47 = .ok (.ireturn, 1) := by decide +kernel
theorem own_pn2 : plainName "com/example/canopy/canopy/bench/LatencyHistogram" = true := by first | (simp [plainName, overriddenIn]; done) | decide +kernel
theorem own_ef_bk (m : MethodId) (va : Int64) : entryFrame m #[(.long va)] 5 = mkF m 0 #[.val (.long va), .second, .unset, .unset, .unset] [] := by first | (simp [entryFrame, mkF, argsToLocals, Value.category]; done) | rfl
def own_Q_bk (Z : State) (va : Int64) (h0 : Heap) (n0 : Nat) (v : Option Value) (h : Heap) (L : List Loc) : Prop := v = some (.int (own_bkt va)) ∧ Fr n0 L ∧ h = h0
set_option maxRecDepth 65536 in
set_option maxHeartbeats 40000000 in
theorem own_rm_bk (l : Launch) (Z : State) (a0 : Array Value) (hw : ∀ d ∈ tables_1, d.before a0 Z = true) (ws : List Jvm.Cond) (va : Int64) (h0 : Heap) (n0 : Nat) (Z0 : n0 ≤ h0.size) :
    MetFree l (⟨"com/example/canopy/canopy/bench/LatencyHistogram", "bucket", "(J)I"⟩ : MethodName) (head1 (Jvm.Cond.code (⟨"com/example/canopy/canopy/bench/LatencyHistogram", "bucket", "(J)I"⟩ : MethodName) prog_3_method_7_code 5 (some .int) :: ws) ({ frames := 2, cells := 0, slots := 0, locals := 29 } : Room)) (fun a U => a = #[(.long va)] ∧ Z.Warmed39 U.vm ∧ U.heap = h0) (fun _ _ _ _ _ => True) (fun _ U o U' => ∃ v L, o = .returned v ∧ own_Q_bk Z va h0 n0 v U'.heap L ∧ FrameEnd U o U' L ({ frames := 2, cells := 0, slots := 0, locals := 29 } : Room).cells ({ frames := 2, cells := 0, slots := 0, locals := 29 } : Room).slots) := by
  refine MetFree.of_bodySF (plainFor_of_name own_pn2) hisR ?_
  intro p e s m args below meth c s₁ Bd hml0 hP hK
  obtain ⟨rfl, hZ, hh⟩ := hP
  have hx := Bd.exec
  have hby := Bd.bytes
  have hml : c.maxLocals = 5 := hml0
  have hown : s.vm.findClass "com/example/canopy/canopy/bench/LatencyHistogram" = some m.cls := findClass_of_methodNamed Bd.named
  have hnm := (name_of_methodNamed Bd.named Bd.method).1
  have X0 : Stand p l e ({ frames := 2, cells := 0, slots := 0, locals := 29 } : Room) s m #[(.long va)] below meth c s₁ [] 0 0 := Stand.of_body Bd
  have e0 : s₁.heap = h0 := by rw [← hh, Bd.state]; rfl
  have N0 := Fr.nil n0
  show own_Fin p e below s (own_Q_bk Z va h0 n0) ({ frames := 2, cells := 0, slots := 0, locals := 29 } : Room).cells ({ frames := 2, cells := 0, slots := 0, locals := 29 } : Room).slots (s₁.setTop (entryFrame m #[(.long va)] 5))
  refine own_Fin.go (fun t k => castTop (own_ef_bk m va) k) ?_
  refine own_Fin.go (fun t k => XS.lloadN X0.here hx rfl (hb hby own_dbk_0) rfl k) ?_
  show own_Fin _ _ _ _ _ _ _ (s₁.setTop (mkF m 1 #[.val (.long va), .second, .unset, .unset, .unset] [(.long va)]))
  refine own_Fin.go (fun t k => X0.ldc2Long hx hown (mvT hZ (hw _ (List.mem_of_getElem? (i := 48) rfl))) (g := (mkF m 1 #[.val (.long va), .second, .unset, .unset, .unset] [(.long va)])) rfl (hb hby own_dbk_1) t k) ?_
  show own_Fin _ _ _ _ _ _ _ (s₁.setTop (mkF m 4 #[.val (.long va), .second, .unset, .unset, .unset] [(.long (128 : Int64)), (.long va)]))
  refine own_Fin.go (fun t k => XS.lcmp X0.here hx rfl (hb hby own_dbk_4) rfl k) ?_
  show own_Fin _ _ _ _ _ _ _ (s₁.setTop (mkF m 5 #[.val (.long va), .second, .unset, .unset, .unset] [(.int (lcmpW va (128 : Int64)))]))
  by_cases hc5 : va < (128 : Int64)
  · refine own_Fin.go (fun t k => XS.ifNo X0.here hx rfl (hb hby own_dbk_5) rfl (Jvm.Free.XT.ll_ge_f hc5) k) ?_
    show own_Fin _ _ _ _ _ _ _ (s₁.setTop (mkF m 8 #[.val (.long va), .second, .unset, .unset, .unset] []))
    refine own_Fin.go (fun t k => XS.lloadN X0.here hx rfl (hb hby own_dbk_8) rfl k) ?_
    show own_Fin _ _ _ _ _ _ _ (s₁.setTop (mkF m 9 #[.val (.long va), .second, .unset, .unset, .unset] [(.long va)]))
    refine own_Fin.go (fun t k => XS.l2i X0.here hx rfl (hb hby own_dbk_9) rfl k) ?_
    show own_Fin _ _ _ _ _ _ _ (s₁.setTop (mkF m 10 #[.val (.long va), .second, .unset, .unset, .unset] [(.int (va.toInt32))]))
    refine own_retI X0 hx Bd.returns (hb hby own_dbk_10) Bd.notSynchronized (by decide) (by decide) ?_
    rw [e0]
    exact ⟨by simp only [own_bkt, if_pos hc5], N0, rfl⟩
  · refine own_Fin.go (fun t k => XS.ifYes X0.here hx rfl (pc0 := 5) (pc' := 11) rfl (hb hby own_dbk_5) rfl (Jvm.Free.XT.ll_ge_t hc5) (by decide) (by decide) k) ?_
    show own_Fin _ _ _ _ _ _ _ (s₁.setTop (mkF m 11 #[.val (.long va), .second, .unset, .unset, .unset] []))
    refine own_Fin.go (fun t k => XS.bipush X0.here hx rfl (hb hby own_dbk_11) k) ?_
    show own_Fin _ _ _ _ _ _ _ (s₁.setTop (mkF m 13 #[.val (.long va), .second, .unset, .unset, .unset] [(.int (63 : Int32))]))
    refine own_Fin.go (fun t k => XS.lloadN X0.here hx rfl (hb hby own_dbk_13) rfl k) ?_
    show own_Fin _ _ _ _ _ _ _ (s₁.setTop (mkF m 14 #[.val (.long va), .second, .unset, .unset, .unset] [(.long va), (.int (63 : Int32))]))
    obtain ⟨_, _, ⟨T1, L1, k1, n1⟩, -, X1, ⟨Lc1, hQ1, l1, y1, z1⟩, st1⟩ := Jvm.LawKit.callS X0 hx (y := (⟨"java/lang/Long", "numberOfLeadingZeros", "(J)I"⟩ : MethodName)) hown (mvT hZ (hw _ (List.mem_of_getElem? (i := 76) rfl))) (mvT hZ (hw _ (List.mem_of_getElem? (i := 77) rfl))) (mvT hZ (hw _ (List.mem_of_getElem? (i := 78) rfl))) (mvT hZ (hw _ (List.mem_of_getElem? (i := 79) rfl))) (by decide) (backOf (W := 1) (own_rm_nlL l Z a0 hw [] va  h0 n0 Z0 ) hZ (hw _ (List.mem_of_getElem? (i := 79) rfl)) (hw _ (List.mem_of_getElem? (i := 78) rfl)) (by decide) (by decide)) (g := (mkF m 14 #[.val (.long va), .second, .unset, .unset, .unset] [(.long va), (.int (63 : Int32))])) rfl (by rw [hml]; rfl) (argsL := [(.long va)]) (rest := [(.int (63 : Int32))]) (lenOf own_pd1 rfl) rfl (by show 2 * 0 + _ ≤ _; exact Nat.le_of_eq rfl) (hb hby own_dbk_14) (fun _ _ => ⟨rfl, e0, (by decide : 0 + 0 ≤ _), (by decide : 0 + 0 ≤ _)⟩)
    dsimp only [Pt.U, Pt.locs, Pt.cells, Pt.slots] at X1 l1 y1 z1 st1 hQ1
    subst l1 y1 z1
    obtain ⟨rfl, N1q, e1⟩ := hQ1
    refine own_Fin.go (fun t k => st1 t k) ?_
    have N1 := Fr.app N0 N1q
    show own_Fin _ _ _ _ _ _ _ (T1.setTop (mkF m 17 #[.val (.long va), .second, .unset, .unset, .unset] [(.int (own_nlzL va)), (.int (63 : Int32))]))
    refine own_Fin.go (fun t k => XS.isub X1.here hx rfl (hb hby own_dbk_17) rfl k) ?_
    show own_Fin _ _ _ _ _ _ _ (T1.setTop (mkF m 18 #[.val (.long va), .second, .unset, .unset, .unset] [(.int ((63 : Int32) - (own_nlzL va)))]))
    refine own_Fin.go (fun t k => XS.istoreN X1.here hx rfl (hb hby own_dbk_18) rfl (l' := #[.val (.long va), .second, .val (.int ((63 : Int32) - (own_nlzL va))), .unset, .unset]) rfl k) ?_
    show own_Fin _ _ _ _ _ _ _ (T1.setTop (mkF m 19 #[.val (.long va), .second, .val (.int ((63 : Int32) - (own_nlzL va))), .unset, .unset] []))
    refine own_Fin.go (fun t k => XS.iloadN X1.here hx rfl (hb hby own_dbk_19) rfl k) ?_
    show own_Fin _ _ _ _ _ _ _ (T1.setTop (mkF m 20 #[.val (.long va), .second, .val (.int ((63 : Int32) - (own_nlzL va))), .unset, .unset] [(.int ((63 : Int32) - (own_nlzL va)))]))
    refine own_Fin.go (fun t k => XS.bipush X1.here hx rfl (hb hby own_dbk_20) k) ?_
    show own_Fin _ _ _ _ _ _ _ (T1.setTop (mkF m 22 #[.val (.long va), .second, .val (.int ((63 : Int32) - (own_nlzL va))), .unset, .unset] [(.int (6 : Int32)), (.int ((63 : Int32) - (own_nlzL va)))]))
    refine own_Fin.go (fun t k => XS.isub X1.here hx rfl (hb hby own_dbk_22) rfl k) ?_
    show own_Fin _ _ _ _ _ _ _ (T1.setTop (mkF m 23 #[.val (.long va), .second, .val (.int ((63 : Int32) - (own_nlzL va))), .unset, .unset] [(.int (((63 : Int32) - (own_nlzL va)) - (6 : Int32)))]))
    refine own_Fin.go (fun t k => XS.istoreN X1.here hx rfl (hb hby own_dbk_23) rfl (l' := #[.val (.long va), .second, .val (.int ((63 : Int32) - (own_nlzL va))), .val (.int (((63 : Int32) - (own_nlzL va)) - (6 : Int32))), .unset]) rfl k) ?_
    show own_Fin _ _ _ _ _ _ _ (T1.setTop (mkF m 24 #[.val (.long va), .second, .val (.int ((63 : Int32) - (own_nlzL va))), .val (.int (((63 : Int32) - (own_nlzL va)) - (6 : Int32))), .unset] []))
    refine own_Fin.go (fun t k => XS.lloadN X1.here hx rfl (hb hby own_dbk_24) rfl k) ?_
    show own_Fin _ _ _ _ _ _ _ (T1.setTop (mkF m 25 #[.val (.long va), .second, .val (.int ((63 : Int32) - (own_nlzL va))), .val (.int (((63 : Int32) - (own_nlzL va)) - (6 : Int32))), .unset] [(.long va)]))
    refine own_Fin.go (fun t k => XS.iloadN X1.here hx rfl (hb hby own_dbk_25) rfl k) ?_
    show own_Fin _ _ _ _ _ _ _ (T1.setTop (mkF m 26 #[.val (.long va), .second, .val (.int ((63 : Int32) - (own_nlzL va))), .val (.int (((63 : Int32) - (own_nlzL va)) - (6 : Int32))), .unset] [(.int (((63 : Int32) - (own_nlzL va)) - (6 : Int32))), (.long va)]))
    refine own_Fin.go (fun t k => XS.lushr X1.here hx rfl (hb hby own_dbk_26) rfl k) ?_
    show own_Fin _ _ _ _ _ _ _ (T1.setTop (mkF m 27 #[.val (.long va), .second, .val (.int ((63 : Int32) - (own_nlzL va))), .val (.int (((63 : Int32) - (own_nlzL va)) - (6 : Int32))), .unset] [(.long ((va.toUInt64 >>> ((((63 : Int32) - (own_nlzL va)) - (6 : Int32)) &&& 0x3f).toInt64.toUInt64).toInt64))]))
    refine own_Fin.go (fun t k => XS.l2i X1.here hx rfl (hb hby own_dbk_27) rfl k) ?_
    show own_Fin _ _ _ _ _ _ _ (T1.setTop (mkF m 28 #[.val (.long va), .second, .val (.int ((63 : Int32) - (own_nlzL va))), .val (.int (((63 : Int32) - (own_nlzL va)) - (6 : Int32))), .unset] [(.int (((va.toUInt64 >>> ((((63 : Int32) - (own_nlzL va)) - (6 : Int32)) &&& 0x3f).toInt64.toUInt64).toInt64).toInt32))]))
    refine own_Fin.go (fun t k => XS.bipush X1.here hx rfl (hb hby own_dbk_28) k) ?_
    show own_Fin _ _ _ _ _ _ _ (T1.setTop (mkF m 30 #[.val (.long va), .second, .val (.int ((63 : Int32) - (own_nlzL va))), .val (.int (((63 : Int32) - (own_nlzL va)) - (6 : Int32))), .unset] [(.int (64 : Int32)), (.int (((va.toUInt64 >>> ((((63 : Int32) - (own_nlzL va)) - (6 : Int32)) &&& 0x3f).toInt64.toUInt64).toInt64).toInt32))]))
    refine own_Fin.go (fun t k => XS.isub X1.here hx rfl (hb hby own_dbk_30) rfl k) ?_
    show own_Fin _ _ _ _ _ _ _ (T1.setTop (mkF m 31 #[.val (.long va), .second, .val (.int ((63 : Int32) - (own_nlzL va))), .val (.int (((63 : Int32) - (own_nlzL va)) - (6 : Int32))), .unset] [(.int ((((va.toUInt64 >>> ((((63 : Int32) - (own_nlzL va)) - (6 : Int32)) &&& 0x3f).toInt64.toUInt64).toInt64).toInt32) - (64 : Int32)))]))
    refine own_Fin.go (fun t k => XS.istore X1.here hx rfl (hb hby own_dbk_31) rfl (l' := #[.val (.long va), .second, .val (.int ((63 : Int32) - (own_nlzL va))), .val (.int (((63 : Int32) - (own_nlzL va)) - (6 : Int32))), .val (.int ((((va.toUInt64 >>> ((((63 : Int32) - (own_nlzL va)) - (6 : Int32)) &&& 0x3f).toInt64.toUInt64).toInt64).toInt32) - (64 : Int32)))]) rfl k) ?_
    show own_Fin _ _ _ _ _ _ _ (T1.setTop (mkF m 33 #[.val (.long va), .second, .val (.int ((63 : Int32) - (own_nlzL va))), .val (.int (((63 : Int32) - (own_nlzL va)) - (6 : Int32))), .val (.int ((((va.toUInt64 >>> ((((63 : Int32) - (own_nlzL va)) - (6 : Int32)) &&& 0x3f).toInt64.toUInt64).toInt64).toInt32) - (64 : Int32)))] []))
    refine own_Fin.go (fun t k => XS.sipush X1.here hx rfl (hb hby own_dbk_33) k) ?_
    show own_Fin _ _ _ _ _ _ _ (T1.setTop (mkF m 36 #[.val (.long va), .second, .val (.int ((63 : Int32) - (own_nlzL va))), .val (.int (((63 : Int32) - (own_nlzL va)) - (6 : Int32))), .val (.int ((((va.toUInt64 >>> ((((63 : Int32) - (own_nlzL va)) - (6 : Int32)) &&& 0x3f).toInt64.toUInt64).toInt64).toInt32) - (64 : Int32)))] [(.int (128 : Int32))]))
    refine own_Fin.go (fun t k => XS.iloadN X1.here hx rfl (hb hby own_dbk_36) rfl k) ?_
    show own_Fin _ _ _ _ _ _ _ (T1.setTop (mkF m 37 #[.val (.long va), .second, .val (.int ((63 : Int32) - (own_nlzL va))), .val (.int (((63 : Int32) - (own_nlzL va)) - (6 : Int32))), .val (.int ((((va.toUInt64 >>> ((((63 : Int32) - (own_nlzL va)) - (6 : Int32)) &&& 0x3f).toInt64.toUInt64).toInt64).toInt32) - (64 : Int32)))] [(.int ((63 : Int32) - (own_nlzL va))), (.int (128 : Int32))]))
    refine own_Fin.go (fun t k => XS.bipush X1.here hx rfl (hb hby own_dbk_37) k) ?_
    show own_Fin _ _ _ _ _ _ _ (T1.setTop (mkF m 39 #[.val (.long va), .second, .val (.int ((63 : Int32) - (own_nlzL va))), .val (.int (((63 : Int32) - (own_nlzL va)) - (6 : Int32))), .val (.int ((((va.toUInt64 >>> ((((63 : Int32) - (own_nlzL va)) - (6 : Int32)) &&& 0x3f).toInt64.toUInt64).toInt64).toInt32) - (64 : Int32)))] [(.int (7 : Int32)), (.int ((63 : Int32) - (own_nlzL va))), (.int (128 : Int32))]))
    refine own_Fin.go (fun t k => XS.isub X1.here hx rfl (hb hby own_dbk_39) rfl k) ?_
    show own_Fin _ _ _ _ _ _ _ (T1.setTop (mkF m 40 #[.val (.long va), .second, .val (.int ((63 : Int32) - (own_nlzL va))), .val (.int (((63 : Int32) - (own_nlzL va)) - (6 : Int32))), .val (.int ((((va.toUInt64 >>> ((((63 : Int32) - (own_nlzL va)) - (6 : Int32)) &&& 0x3f).toInt64.toUInt64).toInt64).toInt32) - (64 : Int32)))] [(.int (((63 : Int32) - (own_nlzL va)) - (7 : Int32))), (.int (128 : Int32))]))
    refine own_Fin.go (fun t k => XS.bipush X1.here hx rfl (hb hby own_dbk_40) k) ?_
    show own_Fin _ _ _ _ _ _ _ (T1.setTop (mkF m 42 #[.val (.long va), .second, .val (.int ((63 : Int32) - (own_nlzL va))), .val (.int (((63 : Int32) - (own_nlzL va)) - (6 : Int32))), .val (.int ((((va.toUInt64 >>> ((((63 : Int32) - (own_nlzL va)) - (6 : Int32)) &&& 0x3f).toInt64.toUInt64).toInt64).toInt32) - (64 : Int32)))] [(.int (64 : Int32)), (.int (((63 : Int32) - (own_nlzL va)) - (7 : Int32))), (.int (128 : Int32))]))
    refine own_Fin.go (fun t k => XS.imul X1.here hx rfl (hb hby own_dbk_42) rfl k) ?_
    show own_Fin _ _ _ _ _ _ _ (T1.setTop (mkF m 43 #[.val (.long va), .second, .val (.int ((63 : Int32) - (own_nlzL va))), .val (.int (((63 : Int32) - (own_nlzL va)) - (6 : Int32))), .val (.int ((((va.toUInt64 >>> ((((63 : Int32) - (own_nlzL va)) - (6 : Int32)) &&& 0x3f).toInt64.toUInt64).toInt64).toInt32) - (64 : Int32)))] [(.int ((((63 : Int32) - (own_nlzL va)) - (7 : Int32)) * (64 : Int32))), (.int (128 : Int32))]))
    refine own_Fin.go (fun t k => XS.iadd X1.here hx rfl (hb hby own_dbk_43) rfl k) ?_
    show own_Fin _ _ _ _ _ _ _ (T1.setTop (mkF m 44 #[.val (.long va), .second, .val (.int ((63 : Int32) - (own_nlzL va))), .val (.int (((63 : Int32) - (own_nlzL va)) - (6 : Int32))), .val (.int ((((va.toUInt64 >>> ((((63 : Int32) - (own_nlzL va)) - (6 : Int32)) &&& 0x3f).toInt64.toUInt64).toInt64).toInt32) - (64 : Int32)))] [(.int ((128 : Int32) + ((((63 : Int32) - (own_nlzL va)) - (7 : Int32)) * (64 : Int32))))]))
    refine own_Fin.go (fun t k => XS.iload X1.here hx rfl (hb hby own_dbk_44) rfl k) ?_
    show own_Fin _ _ _ _ _ _ _ (T1.setTop (mkF m 46 #[.val (.long va), .second, .val (.int ((63 : Int32) - (own_nlzL va))), .val (.int (((63 : Int32) - (own_nlzL va)) - (6 : Int32))), .val (.int ((((va.toUInt64 >>> ((((63 : Int32) - (own_nlzL va)) - (6 : Int32)) &&& 0x3f).toInt64.toUInt64).toInt64).toInt32) - (64 : Int32)))] [(.int ((((va.toUInt64 >>> ((((63 : Int32) - (own_nlzL va)) - (6 : Int32)) &&& 0x3f).toInt64.toUInt64).toInt64).toInt32) - (64 : Int32))), (.int ((128 : Int32) + ((((63 : Int32) - (own_nlzL va)) - (7 : Int32)) * (64 : Int32))))]))
    refine own_Fin.go (fun t k => XS.iadd X1.here hx rfl (hb hby own_dbk_46) rfl k) ?_
    show own_Fin _ _ _ _ _ _ _ (T1.setTop (mkF m 47 #[.val (.long va), .second, .val (.int ((63 : Int32) - (own_nlzL va))), .val (.int (((63 : Int32) - (own_nlzL va)) - (6 : Int32))), .val (.int ((((va.toUInt64 >>> ((((63 : Int32) - (own_nlzL va)) - (6 : Int32)) &&& 0x3f).toInt64.toUInt64).toInt64).toInt32) - (64 : Int32)))] [(.int (((128 : Int32) + ((((63 : Int32) - (own_nlzL va)) - (7 : Int32)) * (64 : Int32))) + ((((va.toUInt64 >>> ((((63 : Int32) - (own_nlzL va)) - (6 : Int32)) &&& 0x3f).toInt64.toUInt64).toInt64).toInt32) - (64 : Int32))))]))
    refine own_retI X1 hx Bd.returns (hb hby own_dbk_47) Bd.notSynchronized (by decide) (by decide) ?_
    rw [e1]
    exact ⟨by simp only [own_bkt, if_neg hc5], N1, rfl⟩
theorem own_dtp_0 : decode prog_3_method_8_code 0 = .ok (.iload_n 0, 1) := by decide +kernel
theorem own_dtp_1 : decode prog_3_method_8_code 1 = .ok (.sipush 128, 3) := by decide +kernel
theorem own_dtp_4 : decode prog_3_method_8_code 4 = .ok (.if_icmp .ge 6, 3) := by decide +kernel
theorem own_dtp_7 : decode prog_3_method_8_code 7 = .ok (.iload_n 0, 1) := by decide +kernel
theorem own_dtp_8 : decode prog_3_method_8_code 8 = .ok (.i2l, 1) := by decide +kernel
theorem own_dtp_9 : decode prog_3_method_8_code 9 = .ok (.lreturn, 1) := by decide +kernel
theorem own_dtp_10 : decode prog_3_method_8_code 10 = .ok (.bipush 7, 2) := by decide +kernel
theorem own_dtp_12 : decode prog_3_method_8_code 12 = .ok (.iload_n 0, 1) := by decide +kernel
theorem own_dtp_13 : decode prog_3_method_8_code 13 = .ok (.sipush 128, 3) := by decide +kernel
theorem own_dtp_16 : decode prog_3_method_8_code 16 = .ok (.isub, 1) := by decide +kernel
theorem own_dtp_17 : decode prog_3_method_8_code 17 = .ok (.bipush 64, 2) := by decide +kernel
theorem own_dtp_19 : decode prog_3_method_8_code 19 = .ok (.idiv, 1) := by decide +kernel
theorem own_dtp_20 : decode prog_3_method_8_code 20 = .ok (.iadd, 1) := by decide +kernel
theorem own_dtp_21 : decode prog_3_method_8_code 21 = .ok (.istore_n 1, 1) := by decide +kernel
theorem own_dtp_22 : decode prog_3_method_8_code 22 = .ok (.bipush 64, 2) := by decide +kernel
theorem own_dtp_24 : decode prog_3_method_8_code 24 = .ok (.iload_n 0, 1) := by decide +kernel
theorem own_dtp_25 : decode prog_3_method_8_code 25 = .ok (.sipush 128, 3) := by decide +kernel
theorem own_dtp_28 : decode prog_3_method_8_code 28 = .ok (.isub, 1) := by decide +kernel
theorem own_dtp_29 : decode prog_3_method_8_code 29 = .ok (.bipush 64, 2) := by decide +kernel
theorem own_dtp_31 : decode prog_3_method_8_code 31 = .ok (.irem, 1) := by decide +kernel
theorem own_dtp_32 : decode prog_3_method_8_code 32 = .ok (.iadd, 1) := by decide +kernel
theorem own_dtp_33 : decode prog_3_method_8_code 33 = .ok (.i2l, 1) := by decide +kernel
theorem own_dtp_34 : decode prog_3_method_8_code 34 = .ok (.lstore_n 2, 1) := by decide +kernel
theorem own_dtp_35 : decode prog_3_method_8_code 35 = .ok (.iload_n 1, 1) := by decide +kernel
theorem own_dtp_36 : decode prog_3_method_8_code 36 = .ok (.bipush 6, 2) := by decide +kernel
theorem own_dtp_38 : decode prog_3_method_8_code 38 = .ok (.isub, 1) := by decide +kernel
theorem own_dtp_39 : decode prog_3_method_8_code 39 = .ok (.istore 4, 2) := by decide +kernel
theorem own_dtp_41 : decode prog_3_method_8_code 41 = .ok (.lload_n 2, 1) := by decide +kernel
theorem own_dtp_42 : decode prog_3_method_8_code 42 = .ok (.lconst 1, 1) := by decide +kernel
theorem own_dtp_43 : decode prog_3_method_8_code 43 = .ok (.ladd, 1) := by decide +kernel
theorem own_dtp_44 : decode prog_3_method_8_code 44 = .ok (.iload 4, 2) := by decide +kernel
theorem own_dtp_46 : decode prog_3_method_8_code 46 = .ok (.lshl, 1) := by decide +kernel
theorem own_dtp_47 : decode prog_3_method_8_code 47 = .ok (.lconst 1, 1) := by decide +kernel
theorem own_dtp_48 : decode prog_3_method_8_code 48 = .ok (.lsub, 1) := by decide +kernel
theorem own_dtp_49 : decode prog_3_method_8_code 49 = .ok (.lreturn, 1) := by decide +kernel
theorem own_ef_tp (m : MethodId) (va : Int32) : entryFrame m #[(.int va)] 5 = mkF m 0 #[.val (.int va), .unset, .unset, .unset, .unset] [] := by first | (simp [entryFrame, mkF, argsToLocals, Value.category]; done) | rfl
def own_Q_tp (Z : State) (va : Int32) (h0 : Heap) (n0 : Nat) (v : Option Value) (h : Heap) (L : List Loc) : Prop := v = some (.long (own_top va)) ∧ Fr n0 L ∧ h = h0
set_option maxRecDepth 65536 in
set_option maxHeartbeats 40000000 in
theorem own_rm_tp (l : Launch) (Z : State) (a0 : Array Value) (hw : ∀ d ∈ tables_1, d.before a0 Z = true) (ws : List Jvm.Cond) (va : Int32) (h0 : Heap) (n0 : Nat) (Z0 : n0 ≤ h0.size) :
    MetFree l (⟨"com/example/canopy/canopy/bench/LatencyHistogram", "top", "(I)J"⟩ : MethodName) (head1 (Jvm.Cond.code (⟨"com/example/canopy/canopy/bench/LatencyHistogram", "top", "(I)J"⟩ : MethodName) prog_3_method_8_code 5 (some .long) :: ws) ({ frames := 0, cells := 0, slots := 0, locals := 0 } : Room)) (fun a U => a = #[(.int va)] ∧ Z.Warmed39 U.vm ∧ U.heap = h0) (fun _ _ _ _ _ => True) (fun _ U o U' => ∃ v L, o = .returned v ∧ own_Q_tp Z va h0 n0 v U'.heap L ∧ FrameEnd U o U' L ({ frames := 0, cells := 0, slots := 0, locals := 0 } : Room).cells ({ frames := 0, cells := 0, slots := 0, locals := 0 } : Room).slots) := by
  refine MetFree.of_bodySF (plainFor_of_name own_pn2) hisR ?_
  intro p e s m args below meth c s₁ Bd hml0 hP hK
  obtain ⟨rfl, hZ, hh⟩ := hP
  have hx := Bd.exec
  have hby := Bd.bytes
  have hml : c.maxLocals = 5 := hml0
  have hown : s.vm.findClass "com/example/canopy/canopy/bench/LatencyHistogram" = some m.cls := findClass_of_methodNamed Bd.named
  have hnm := (name_of_methodNamed Bd.named Bd.method).1
  have X0 : Stand p l e ({ frames := 0, cells := 0, slots := 0, locals := 0 } : Room) s m #[(.int va)] below meth c s₁ [] 0 0 := Stand.of_body Bd
  have e0 : s₁.heap = h0 := by rw [← hh, Bd.state]; rfl
  have N0 := Fr.nil n0
  show own_Fin p e below s (own_Q_tp Z va h0 n0) ({ frames := 0, cells := 0, slots := 0, locals := 0 } : Room).cells ({ frames := 0, cells := 0, slots := 0, locals := 0 } : Room).slots (s₁.setTop (entryFrame m #[(.int va)] 5))
  refine own_Fin.go (fun t k => castTop (own_ef_tp m va) k) ?_
  refine own_Fin.go (fun t k => XS.iloadN X0.here hx rfl (hb hby own_dtp_0) rfl k) ?_
  show own_Fin _ _ _ _ _ _ _ (s₁.setTop (mkF m 1 #[.val (.int va), .unset, .unset, .unset, .unset] [(.int va)]))
  refine own_Fin.go (fun t k => XS.sipush X0.here hx rfl (hb hby own_dtp_1) k) ?_
  show own_Fin _ _ _ _ _ _ _ (s₁.setTop (mkF m 4 #[.val (.int va), .unset, .unset, .unset, .unset] [(.int (128 : Int32)), (.int va)]))
  by_cases hc4 : va < (128 : Int32)
  · refine own_Fin.go (fun t k => XS.icmpNo X0.here hx rfl (hb hby own_dtp_4) rfl (Jvm.Free.XT.ii_ge_f hc4) k) ?_
    show own_Fin _ _ _ _ _ _ _ (s₁.setTop (mkF m 7 #[.val (.int va), .unset, .unset, .unset, .unset] []))
    refine own_Fin.go (fun t k => XS.iloadN X0.here hx rfl (hb hby own_dtp_7) rfl k) ?_
    show own_Fin _ _ _ _ _ _ _ (s₁.setTop (mkF m 8 #[.val (.int va), .unset, .unset, .unset, .unset] [(.int va)]))
    refine own_Fin.go (fun t k => XS.i2l X0.here hx rfl (hb hby own_dtp_8) rfl k) ?_
    show own_Fin _ _ _ _ _ _ _ (s₁.setTop (mkF m 9 #[.val (.int va), .unset, .unset, .unset, .unset] [(.long (va.toInt64))]))
    refine own_retJ X0 hx Bd.returns (hb hby own_dtp_9) Bd.notSynchronized (by decide) (by decide) ?_
    rw [e0]
    exact ⟨by simp only [own_top, if_pos hc4], N0, rfl⟩
  · refine own_Fin.go (fun t k => XS.icmpYes X0.here hx rfl (pc0 := 4) (pc' := 10) rfl (hb hby own_dtp_4) rfl (Jvm.Free.XT.ii_ge_t hc4) (by decide) (by decide) k) ?_
    show own_Fin _ _ _ _ _ _ _ (s₁.setTop (mkF m 10 #[.val (.int va), .unset, .unset, .unset, .unset] []))
    refine own_Fin.go (fun t k => XS.bipush X0.here hx rfl (hb hby own_dtp_10) k) ?_
    show own_Fin _ _ _ _ _ _ _ (s₁.setTop (mkF m 12 #[.val (.int va), .unset, .unset, .unset, .unset] [(.int (7 : Int32))]))
    refine own_Fin.go (fun t k => XS.iloadN X0.here hx rfl (hb hby own_dtp_12) rfl k) ?_
    show own_Fin _ _ _ _ _ _ _ (s₁.setTop (mkF m 13 #[.val (.int va), .unset, .unset, .unset, .unset] [(.int va), (.int (7 : Int32))]))
    refine own_Fin.go (fun t k => XS.sipush X0.here hx rfl (hb hby own_dtp_13) k) ?_
    show own_Fin _ _ _ _ _ _ _ (s₁.setTop (mkF m 16 #[.val (.int va), .unset, .unset, .unset, .unset] [(.int (128 : Int32)), (.int va), (.int (7 : Int32))]))
    refine own_Fin.go (fun t k => XS.isub X0.here hx rfl (hb hby own_dtp_16) rfl k) ?_
    show own_Fin _ _ _ _ _ _ _ (s₁.setTop (mkF m 17 #[.val (.int va), .unset, .unset, .unset, .unset] [(.int (va - (128 : Int32))), (.int (7 : Int32))]))
    refine own_Fin.go (fun t k => XS.bipush X0.here hx rfl (hb hby own_dtp_17) k) ?_
    show own_Fin _ _ _ _ _ _ _ (s₁.setTop (mkF m 19 #[.val (.int va), .unset, .unset, .unset, .unset] [(.int (64 : Int32)), (.int (va - (128 : Int32))), (.int (7 : Int32))]))
    refine own_Fin.go (fun t k => XS.idiv X0.here hx rfl (hb hby own_dtp_19) rfl (by decide) k) ?_
    show own_Fin _ _ _ _ _ _ _ (s₁.setTop (mkF m 20 #[.val (.int va), .unset, .unset, .unset, .unset] [(.int ((va - (128 : Int32)) / (64 : Int32))), (.int (7 : Int32))]))
    refine own_Fin.go (fun t k => XS.iadd X0.here hx rfl (hb hby own_dtp_20) rfl k) ?_
    show own_Fin _ _ _ _ _ _ _ (s₁.setTop (mkF m 21 #[.val (.int va), .unset, .unset, .unset, .unset] [(.int ((7 : Int32) + ((va - (128 : Int32)) / (64 : Int32))))]))
    refine own_Fin.go (fun t k => XS.istoreN X0.here hx rfl (hb hby own_dtp_21) rfl (l' := #[.val (.int va), .val (.int ((7 : Int32) + ((va - (128 : Int32)) / (64 : Int32)))), .unset, .unset, .unset]) rfl k) ?_
    show own_Fin _ _ _ _ _ _ _ (s₁.setTop (mkF m 22 #[.val (.int va), .val (.int ((7 : Int32) + ((va - (128 : Int32)) / (64 : Int32)))), .unset, .unset, .unset] []))
    refine own_Fin.go (fun t k => XS.bipush X0.here hx rfl (hb hby own_dtp_22) k) ?_
    show own_Fin _ _ _ _ _ _ _ (s₁.setTop (mkF m 24 #[.val (.int va), .val (.int ((7 : Int32) + ((va - (128 : Int32)) / (64 : Int32)))), .unset, .unset, .unset] [(.int (64 : Int32))]))
    refine own_Fin.go (fun t k => XS.iloadN X0.here hx rfl (hb hby own_dtp_24) rfl k) ?_
    show own_Fin _ _ _ _ _ _ _ (s₁.setTop (mkF m 25 #[.val (.int va), .val (.int ((7 : Int32) + ((va - (128 : Int32)) / (64 : Int32)))), .unset, .unset, .unset] [(.int va), (.int (64 : Int32))]))
    refine own_Fin.go (fun t k => XS.sipush X0.here hx rfl (hb hby own_dtp_25) k) ?_
    show own_Fin _ _ _ _ _ _ _ (s₁.setTop (mkF m 28 #[.val (.int va), .val (.int ((7 : Int32) + ((va - (128 : Int32)) / (64 : Int32)))), .unset, .unset, .unset] [(.int (128 : Int32)), (.int va), (.int (64 : Int32))]))
    refine own_Fin.go (fun t k => XS.isub X0.here hx rfl (hb hby own_dtp_28) rfl k) ?_
    show own_Fin _ _ _ _ _ _ _ (s₁.setTop (mkF m 29 #[.val (.int va), .val (.int ((7 : Int32) + ((va - (128 : Int32)) / (64 : Int32)))), .unset, .unset, .unset] [(.int (va - (128 : Int32))), (.int (64 : Int32))]))
    refine own_Fin.go (fun t k => XS.bipush X0.here hx rfl (hb hby own_dtp_29) k) ?_
    show own_Fin _ _ _ _ _ _ _ (s₁.setTop (mkF m 31 #[.val (.int va), .val (.int ((7 : Int32) + ((va - (128 : Int32)) / (64 : Int32)))), .unset, .unset, .unset] [(.int (64 : Int32)), (.int (va - (128 : Int32))), (.int (64 : Int32))]))
    refine own_Fin.go (fun t k => iremM X0 hx rfl (hb hby own_dtp_31) rfl (by decide) k) ?_
    show own_Fin _ _ _ _ _ _ _ (s₁.setTop (mkF m 32 #[.val (.int va), .val (.int ((7 : Int32) + ((va - (128 : Int32)) / (64 : Int32)))), .unset, .unset, .unset] [(.int ((va - (128 : Int32)) % (64 : Int32))), (.int (64 : Int32))]))
    refine own_Fin.go (fun t k => XS.iadd X0.here hx rfl (hb hby own_dtp_32) rfl k) ?_
    show own_Fin _ _ _ _ _ _ _ (s₁.setTop (mkF m 33 #[.val (.int va), .val (.int ((7 : Int32) + ((va - (128 : Int32)) / (64 : Int32)))), .unset, .unset, .unset] [(.int ((64 : Int32) + ((va - (128 : Int32)) % (64 : Int32))))]))
    refine own_Fin.go (fun t k => XS.i2l X0.here hx rfl (hb hby own_dtp_33) rfl k) ?_
    show own_Fin _ _ _ _ _ _ _ (s₁.setTop (mkF m 34 #[.val (.int va), .val (.int ((7 : Int32) + ((va - (128 : Int32)) / (64 : Int32)))), .unset, .unset, .unset] [(.long (((64 : Int32) + ((va - (128 : Int32)) % (64 : Int32))).toInt64))]))
    refine own_Fin.go (fun t k => XS.lstoreN X0.here hx rfl (hb hby own_dtp_34) rfl (l' := #[.val (.int va), .val (.int ((7 : Int32) + ((va - (128 : Int32)) / (64 : Int32)))), .val (.long (((64 : Int32) + ((va - (128 : Int32)) % (64 : Int32))).toInt64)), .second, .unset]) rfl k) ?_
    show own_Fin _ _ _ _ _ _ _ (s₁.setTop (mkF m 35 #[.val (.int va), .val (.int ((7 : Int32) + ((va - (128 : Int32)) / (64 : Int32)))), .val (.long (((64 : Int32) + ((va - (128 : Int32)) % (64 : Int32))).toInt64)), .second, .unset] []))
    refine own_Fin.go (fun t k => XS.iloadN X0.here hx rfl (hb hby own_dtp_35) rfl k) ?_
    show own_Fin _ _ _ _ _ _ _ (s₁.setTop (mkF m 36 #[.val (.int va), .val (.int ((7 : Int32) + ((va - (128 : Int32)) / (64 : Int32)))), .val (.long (((64 : Int32) + ((va - (128 : Int32)) % (64 : Int32))).toInt64)), .second, .unset] [(.int ((7 : Int32) + ((va - (128 : Int32)) / (64 : Int32))))]))
    refine own_Fin.go (fun t k => XS.bipush X0.here hx rfl (hb hby own_dtp_36) k) ?_
    show own_Fin _ _ _ _ _ _ _ (s₁.setTop (mkF m 38 #[.val (.int va), .val (.int ((7 : Int32) + ((va - (128 : Int32)) / (64 : Int32)))), .val (.long (((64 : Int32) + ((va - (128 : Int32)) % (64 : Int32))).toInt64)), .second, .unset] [(.int (6 : Int32)), (.int ((7 : Int32) + ((va - (128 : Int32)) / (64 : Int32))))]))
    refine own_Fin.go (fun t k => XS.isub X0.here hx rfl (hb hby own_dtp_38) rfl k) ?_
    show own_Fin _ _ _ _ _ _ _ (s₁.setTop (mkF m 39 #[.val (.int va), .val (.int ((7 : Int32) + ((va - (128 : Int32)) / (64 : Int32)))), .val (.long (((64 : Int32) + ((va - (128 : Int32)) % (64 : Int32))).toInt64)), .second, .unset] [(.int (((7 : Int32) + ((va - (128 : Int32)) / (64 : Int32))) - (6 : Int32)))]))
    refine own_Fin.go (fun t k => XS.istore X0.here hx rfl (hb hby own_dtp_39) rfl (l' := #[.val (.int va), .val (.int ((7 : Int32) + ((va - (128 : Int32)) / (64 : Int32)))), .val (.long (((64 : Int32) + ((va - (128 : Int32)) % (64 : Int32))).toInt64)), .second, .val (.int (((7 : Int32) + ((va - (128 : Int32)) / (64 : Int32))) - (6 : Int32)))]) rfl k) ?_
    show own_Fin _ _ _ _ _ _ _ (s₁.setTop (mkF m 41 #[.val (.int va), .val (.int ((7 : Int32) + ((va - (128 : Int32)) / (64 : Int32)))), .val (.long (((64 : Int32) + ((va - (128 : Int32)) % (64 : Int32))).toInt64)), .second, .val (.int (((7 : Int32) + ((va - (128 : Int32)) / (64 : Int32))) - (6 : Int32)))] []))
    refine own_Fin.go (fun t k => XS.lloadN X0.here hx rfl (hb hby own_dtp_41) rfl k) ?_
    show own_Fin _ _ _ _ _ _ _ (s₁.setTop (mkF m 42 #[.val (.int va), .val (.int ((7 : Int32) + ((va - (128 : Int32)) / (64 : Int32)))), .val (.long (((64 : Int32) + ((va - (128 : Int32)) % (64 : Int32))).toInt64)), .second, .val (.int (((7 : Int32) + ((va - (128 : Int32)) / (64 : Int32))) - (6 : Int32)))] [(.long (((64 : Int32) + ((va - (128 : Int32)) % (64 : Int32))).toInt64))]))
    refine own_Fin.go (fun t k => XS.lconst X0.here hx rfl (hb hby own_dtp_42) k) ?_
    show own_Fin _ _ _ _ _ _ _ (s₁.setTop (mkF m 43 #[.val (.int va), .val (.int ((7 : Int32) + ((va - (128 : Int32)) / (64 : Int32)))), .val (.long (((64 : Int32) + ((va - (128 : Int32)) % (64 : Int32))).toInt64)), .second, .val (.int (((7 : Int32) + ((va - (128 : Int32)) / (64 : Int32))) - (6 : Int32)))] [(.long (1 : Int64)), (.long (((64 : Int32) + ((va - (128 : Int32)) % (64 : Int32))).toInt64))]))
    refine own_Fin.go (fun t k => XS.ladd X0.here hx rfl (hb hby own_dtp_43) rfl k) ?_
    show own_Fin _ _ _ _ _ _ _ (s₁.setTop (mkF m 44 #[.val (.int va), .val (.int ((7 : Int32) + ((va - (128 : Int32)) / (64 : Int32)))), .val (.long (((64 : Int32) + ((va - (128 : Int32)) % (64 : Int32))).toInt64)), .second, .val (.int (((7 : Int32) + ((va - (128 : Int32)) / (64 : Int32))) - (6 : Int32)))] [(.long ((((64 : Int32) + ((va - (128 : Int32)) % (64 : Int32))).toInt64) + (1 : Int64)))]))
    refine own_Fin.go (fun t k => XS.iload X0.here hx rfl (hb hby own_dtp_44) rfl k) ?_
    show own_Fin _ _ _ _ _ _ _ (s₁.setTop (mkF m 46 #[.val (.int va), .val (.int ((7 : Int32) + ((va - (128 : Int32)) / (64 : Int32)))), .val (.long (((64 : Int32) + ((va - (128 : Int32)) % (64 : Int32))).toInt64)), .second, .val (.int (((7 : Int32) + ((va - (128 : Int32)) / (64 : Int32))) - (6 : Int32)))] [(.int (((7 : Int32) + ((va - (128 : Int32)) / (64 : Int32))) - (6 : Int32))), (.long ((((64 : Int32) + ((va - (128 : Int32)) % (64 : Int32))).toInt64) + (1 : Int64)))]))
    refine own_Fin.go (fun t k => XS.lshl X0.here hx rfl (hb hby own_dtp_46) rfl k) ?_
    show own_Fin _ _ _ _ _ _ _ (s₁.setTop (mkF m 47 #[.val (.int va), .val (.int ((7 : Int32) + ((va - (128 : Int32)) / (64 : Int32)))), .val (.long (((64 : Int32) + ((va - (128 : Int32)) % (64 : Int32))).toInt64)), .second, .val (.int (((7 : Int32) + ((va - (128 : Int32)) / (64 : Int32))) - (6 : Int32)))] [(.long (((((64 : Int32) + ((va - (128 : Int32)) % (64 : Int32))).toInt64) + (1 : Int64)) <<< ((((7 : Int32) + ((va - (128 : Int32)) / (64 : Int32))) - (6 : Int32)) &&& 0x3f).toInt64))]))
    refine own_Fin.go (fun t k => XS.lconst X0.here hx rfl (hb hby own_dtp_47) k) ?_
    show own_Fin _ _ _ _ _ _ _ (s₁.setTop (mkF m 48 #[.val (.int va), .val (.int ((7 : Int32) + ((va - (128 : Int32)) / (64 : Int32)))), .val (.long (((64 : Int32) + ((va - (128 : Int32)) % (64 : Int32))).toInt64)), .second, .val (.int (((7 : Int32) + ((va - (128 : Int32)) / (64 : Int32))) - (6 : Int32)))] [(.long (1 : Int64)), (.long (((((64 : Int32) + ((va - (128 : Int32)) % (64 : Int32))).toInt64) + (1 : Int64)) <<< ((((7 : Int32) + ((va - (128 : Int32)) / (64 : Int32))) - (6 : Int32)) &&& 0x3f).toInt64))]))
    refine own_Fin.go (fun t k => XS.lsub X0.here hx rfl (hb hby own_dtp_48) rfl k) ?_
    show own_Fin _ _ _ _ _ _ _ (s₁.setTop (mkF m 49 #[.val (.int va), .val (.int ((7 : Int32) + ((va - (128 : Int32)) / (64 : Int32)))), .val (.long (((64 : Int32) + ((va - (128 : Int32)) % (64 : Int32))).toInt64)), .second, .val (.int (((7 : Int32) + ((va - (128 : Int32)) / (64 : Int32))) - (6 : Int32)))] [(.long ((((((64 : Int32) + ((va - (128 : Int32)) % (64 : Int32))).toInt64) + (1 : Int64)) <<< ((((7 : Int32) + ((va - (128 : Int32)) / (64 : Int32))) - (6 : Int32)) &&& 0x3f).toInt64) - (1 : Int64)))]))
    refine own_retJ X0 hx Bd.returns (hb hby own_dtp_49) Bd.notSynchronized (by decide) (by decide) ?_
    rw [e0]
    exact ⟨by simp only [own_top, if_neg hc4], N0, rfl⟩
theorem own_dini_0 : decode prog_3_method_1_code 0 = .ok (.aload_n 0, 1) := by decide +kernel
theorem own_dini_1 : decode prog_3_method_1_code 1 = .ok (.invokespecial 1, 3) := by decide +kernel
theorem own_dini_4 : decode prog_3_method_1_code 4 = .ok (.aload_n 0, 1) := by decide +kernel
theorem own_dini_5 : decode prog_3_method_1_code 5 = .ok (.sipush 3776, 3) := by decide +kernel
theorem own_dini_8 : decode prog_3_method_1_code 8 = .ok (.newarray .long, 2) := by decide +kernel
theorem own_dini_10 : decode prog_3_method_1_code 10 = .ok (.putfield 11, 3) := by decide +kernel
theorem own_dini_13 : decode prog_3_method_1_code 13 = .ok (.return_, 1) := by decide +kernel
theorem own_ef_ini (m : MethodId) (oa : Addr) : entryFrame m #[(.ref oa)] 1 = mkF m 0 #[.val (.ref oa)] [] := by first | (simp [entryFrame, mkF, argsToLocals, Value.category]; done) | rfl
def own_Q_ini (Z : State) (oa : Addr) (h0 : Heap) (n0 : Nat) (v : Option Value) (h : Heap) (L : List Loc) : Prop := ∃ ob : Addr, ∃ kb : ClassId, v = none ∧ Fr n0 L ∧ Keep h0 h [oa] ∧ Exa Z h oa "com/example/canopy/canopy/bench/LatencyHistogram" ∧ Fld Z h oa "com/example/canopy/canopy/bench/LatencyHistogram" "counts" "[J" (.ref ob) ∧ Fld Z h oa "com/example/canopy/canopy/bench/LatencyHistogram" "count" "J" (.long (0 : Int64)) ∧ Fld Z h oa "com/example/canopy/canopy/bench/LatencyHistogram" "max" "J" (.long (0 : Int64)) ∧ Arv Z h ob kb .long (3776 : Int32) (own_vs own_zero) (.long (0 : Int64)) ∧ h0.size ≤ ob ∧ oa ≠ ob
set_option maxRecDepth 65536 in
set_option maxHeartbeats 40000000 in
theorem own_rm_ini (l : Launch) (Z : State) (a0 : Array Value) (hw : ∀ d ∈ tables_1, d.before a0 Z = true) (ws : List Jvm.Cond) (oa : Addr) (h0 : Heap) (n0 : Nat) (Z0 : n0 ≤ h0.size) (E_oa : Exa Z h0 oa "com/example/canopy/canopy/bench/LatencyHistogram") (F_oa_counts : Fld Z h0 oa "com/example/canopy/canopy/bench/LatencyHistogram" "counts" "[J" .null) (F_oa_count : Fld Z h0 oa "com/example/canopy/canopy/bench/LatencyHistogram" "count" "J" (.long (0 : Int64))) (F_oa_max : Fld Z h0 oa "com/example/canopy/canopy/bench/LatencyHistogram" "max" "J" (.long (0 : Int64))) (g_oa : n0 ≤ oa) :
    MetFree l (⟨"com/example/canopy/canopy/bench/LatencyHistogram", "<init>", "()V"⟩ : MethodName) (head1 (Jvm.Cond.code (⟨"com/example/canopy/canopy/bench/LatencyHistogram", "<init>", "()V"⟩ : MethodName) prog_3_method_1_code 1 none :: ws) ({ frames := 1, cells := 1, slots := 3776, locals := 12 } : Room)) (fun a U => a = #[(.ref oa)] ∧ Z.Warmed39 U.vm ∧ U.heap = h0) (fun _ _ _ _ _ => True) (fun _ U o U' => ∃ v L, o = .returned v ∧ own_Q_ini Z oa h0 n0 v U'.heap L ∧ FrameEnd U o U' L ({ frames := 1, cells := 1, slots := 3776, locals := 12 } : Room).cells ({ frames := 1, cells := 1, slots := 3776, locals := 12 } : Room).slots) := by
  refine MetFree.of_bodySF (plainFor_of_name own_pn2) hisR ?_
  intro p e s m args below meth c s₁ Bd hml0 hP hK
  obtain ⟨rfl, hZ, hh⟩ := hP
  have hx := Bd.exec
  have hby := Bd.bytes
  have hml : c.maxLocals = 1 := hml0
  have hown : s.vm.findClass "com/example/canopy/canopy/bench/LatencyHistogram" = some m.cls := findClass_of_methodNamed Bd.named
  have hnm := (name_of_methodNamed Bd.named Bd.method).1
  have X0 : Stand p l e ({ frames := 1, cells := 1, slots := 3776, locals := 12 } : Room) s m #[(.ref oa)] below meth c s₁ [] 0 0 := Stand.of_body Bd
  have e0 : s₁.heap = h0 := by rw [← hh, Bd.state]; rfl
  have N0 := Fr.nil n0
  have K0 := Keep.refl h0 [oa]
  show own_Fin p e below s (own_Q_ini Z oa h0 n0) ({ frames := 1, cells := 1, slots := 3776, locals := 12 } : Room).cells ({ frames := 1, cells := 1, slots := 3776, locals := 12 } : Room).slots (s₁.setTop (entryFrame m #[(.ref oa)] 1))
  refine own_Fin.go (fun t k => castTop (own_ef_ini m oa) k) ?_
  refine own_Fin.go (fun t k => XS.aloadN X0.here hx rfl (hb hby own_dini_0) rfl rfl k) ?_
  show own_Fin _ _ _ _ _ _ _ (s₁.setTop (mkF m 1 #[.val (.ref oa)] [(.ref oa)]))
  obtain ⟨T1, X1, e1, st1⟩ := initO X0 hx hZ hown (hw _ (List.mem_of_getElem? (i := 6) rfl)) (hw _ (List.mem_of_getElem? (i := 7) rfl)) (hw _ (List.mem_of_getElem? (i := 8) rfl)) e0 (g := (mkF m 1 #[.val (.ref oa)] [(.ref oa)])) rfl (by rw [hml]; rfl) rfl (hb hby own_dini_1) (by decide) (W := 0) (by show 2 * 0 + _ ≤ _; exact Nat.le_of_eq rfl) (by decide)
  refine own_Fin.go st1 ?_
  show own_Fin _ _ _ _ _ _ _ (T1.setTop (mkF m 4 #[.val (.ref oa)] []))
  refine own_Fin.go (fun t k => XS.aloadN X1.here hx rfl (hb hby own_dini_4) rfl rfl k) ?_
  show own_Fin _ _ _ _ _ _ _ (T1.setTop (mkF m 5 #[.val (.ref oa)] [(.ref oa)]))
  refine own_Fin.go (fun t k => XS.sipush X1.here hx rfl (hb hby own_dini_5) k) ?_
  show own_Fin _ _ _ _ _ _ _ (T1.setTop (mkF m 8 #[.val (.ref oa)] [(.int (3776 : Int32)), (.ref oa)]))
  obtain ⟨T2, h2, k2, X2, e2, E2, A2, st2⟩ := newP X1 hx hZ (hw _ (List.mem_of_getElem? (i := 9) rfl)) e1 (g := (mkF m 8 #[.val (.ref oa)] [(.int (3776 : Int32)), (.ref oa)])) rfl (hb hby own_dini_8) rfl (by decide) (cap := 3776) (by decide) (by decide) (by decide) (by decide)
  obtain ⟨b2, g2⟩ : ∃ z, z = h0.size := ⟨_, rfl⟩
  rw [← g2] at A2 st2
  refine own_Fin.go st2 ?_
  have g_b2 : n0 ≤ b2 := Nat.le_trans Z0 (Nat.le_of_eq g2.symm)
  have sz_b2 : h0.size ≤ b2 := Nat.le_trans K0.1 (Nat.le_of_eq g2.symm)
  have ne_oa_b2 : oa ≠ b2 := Nat.ne_of_lt (Nat.lt_of_lt_of_le F_oa_max.lt (Nat.le_of_eq g2.symm))
  have E_oa_2 := Exa.ext E2 E_oa
  have F_oa_counts_2 := Fld.ext E2 F_oa_counts
  have F_oa_count_2 := Fld.ext E2 F_oa_count
  have F_oa_max_2 := Fld.ext E2 F_oa_max
  have Z2 := Nat.le_trans Z0 E2.1
  have K2 := K0.ext E2
  have V_b2 : Arv Z h2 b2 k2 .long (3776 : Int32) (own_vs own_zero) (.long (0 : Int64)) := (Arv.new A2 (by decide)).pad own_pad0
  show own_Fin _ _ _ _ _ _ _ (T2.setTop (mkF m 10 #[.val (.ref oa)] [(.ref b2), (.ref oa)]))
  obtain ⟨T3, h3, X3, e3, W3, st3⟩ := putF X2 hx hZ hown (host := "") (Or.inl (hw _ (List.mem_of_getElem? (i := 10) rfl))) Via.refl e2 F_oa_counts_2 E_oa_2 (Or.inr ⟨(hw _ (List.mem_of_getElem? (i := 11) rfl)), rfl, hnm⟩) (hw _ (List.mem_of_getElem? (i := 1) rfl)) (ty := (.array .long)) (by decide) rfl rfl (g := (mkF m 10 #[.val (.ref oa)] [(.ref b2), (.ref oa)])) rfl rfl (hb hby own_dini_10)
  refine own_Fin.go st3 ?_
  have F_oa_counts_3 := Fld.same W3 F_oa_counts_2
  have E_oa_3 := Exa.wr W3 E_oa_2
  have F_oa_count_3 := Fld.other W3 F_oa_count_2 (Or.inr (slot_ne (Or.inl (hw _ (List.mem_of_getElem? (i := 18) rfl))) (Or.inr (hw _ (List.mem_of_getElem? (i := 11) rfl))) (by decide) (t := .long) (t' := (.array .long)) (by decide) (by decide)))
  have F_oa_max_3 := Fld.other W3 F_oa_max_2 (Or.inr (slot_ne (Or.inl (hw _ (List.mem_of_getElem? (i := 20) rfl))) (Or.inr (hw _ (List.mem_of_getElem? (i := 11) rfl))) (by decide) (t := .long) (t' := (.array .long)) (by decide) (by decide)))
  have V_b2_3 := Arv.other V_b2 W3 (Ne.symm ne_oa_b2)
  have Z3 := Nat.le_trans Z2 (Keep.of_wr W3).1
  have K3 := K2.wr W3 (Or.inl (List.mem_of_getElem? (i := 0) rfl))
  have N3 := Fr.snoc X3 N0 g_oa
  show own_Fin _ _ _ _ _ _ _ (T3.setTop (mkF m 13 #[.val (.ref oa)] []))
  refine own_ret0 X3 hx Bd.returns (hb hby own_dini_13) Bd.notSynchronized (by decide) (by decide) ?_
  rw [e3]
  exact ⟨b2, k2, rfl, N3, K3, E_oa_3, F_oa_counts_3, F_oa_count_3, F_oa_max_3, V_b2_3, sz_b2, ne_oa_b2⟩
theorem own_dcnt_0 : decode prog_3_method_4_code 0 = .ok (.aload_n 0, 1) := by decide +kernel
theorem own_dcnt_1 : decode prog_3_method_4_code 1 = .ok (.getfield 25, 3) := by decide +kernel
theorem own_dcnt_4 : decode prog_3_method_4_code 4 = .ok (.lreturn, 1) := by decide +kernel
theorem own_ef_cnt (m : MethodId) (oa : Addr) : entryFrame m #[(.ref oa)] 1 = mkF m 0 #[.val (.ref oa)] [] := by first | (simp [entryFrame, mkF, argsToLocals, Value.category]; done) | rfl
def own_Q_cnt (Z : State) (oa : Addr) (vn : Int64) (h0 : Heap) (n0 : Nat) (v : Option Value) (h : Heap) (L : List Loc) : Prop := v = some (.long vn) ∧ Fr n0 L ∧ h = h0
set_option maxRecDepth 65536 in
set_option maxHeartbeats 40000000 in
theorem own_rm_cnt (l : Launch) (Z : State) (a0 : Array Value) (hw : ∀ d ∈ tables_1, d.before a0 Z = true) (ws : List Jvm.Cond) (oa : Addr) (vn : Int64) (h0 : Heap) (n0 : Nat) (Z0 : n0 ≤ h0.size) (E_oa : Exa Z h0 oa "com/example/canopy/canopy/bench/LatencyHistogram") (F_oa_count : Fld Z h0 oa "com/example/canopy/canopy/bench/LatencyHistogram" "count" "J" (.long vn)) :
    MetFree l (⟨"com/example/canopy/canopy/bench/LatencyHistogram", "count", "()J"⟩ : MethodName) (head1 (Jvm.Cond.code (⟨"com/example/canopy/canopy/bench/LatencyHistogram", "count", "()J"⟩ : MethodName) prog_3_method_4_code 1 (some .long) :: ws) ({ frames := 0, cells := 0, slots := 0, locals := 0 } : Room)) (fun a U => a = #[(.ref oa)] ∧ Z.Warmed39 U.vm ∧ U.heap = h0) (fun _ _ _ _ _ => True) (fun _ U o U' => ∃ v L, o = .returned v ∧ own_Q_cnt Z oa vn h0 n0 v U'.heap L ∧ FrameEnd U o U' L ({ frames := 0, cells := 0, slots := 0, locals := 0 } : Room).cells ({ frames := 0, cells := 0, slots := 0, locals := 0 } : Room).slots) := by
  refine MetFree.of_bodySF (plainFor_of_name own_pn2) hisR ?_
  intro p e s m args below meth c s₁ Bd hml0 hP hK
  obtain ⟨rfl, hZ, hh⟩ := hP
  have hx := Bd.exec
  have hby := Bd.bytes
  have hml : c.maxLocals = 1 := hml0
  have hown : s.vm.findClass "com/example/canopy/canopy/bench/LatencyHistogram" = some m.cls := findClass_of_methodNamed Bd.named
  have hnm := (name_of_methodNamed Bd.named Bd.method).1
  have X0 : Stand p l e ({ frames := 0, cells := 0, slots := 0, locals := 0 } : Room) s m #[(.ref oa)] below meth c s₁ [] 0 0 := Stand.of_body Bd
  have e0 : s₁.heap = h0 := by rw [← hh, Bd.state]; rfl
  have N0 := Fr.nil n0
  show own_Fin p e below s (own_Q_cnt Z oa vn h0 n0) ({ frames := 0, cells := 0, slots := 0, locals := 0 } : Room).cells ({ frames := 0, cells := 0, slots := 0, locals := 0 } : Room).slots (s₁.setTop (entryFrame m #[(.ref oa)] 1))
  refine own_Fin.go (fun t k => castTop (own_ef_cnt m oa) k) ?_
  refine own_Fin.go (fun t k => XS.aloadN X0.here hx rfl (hb hby own_dcnt_0) rfl rfl k) ?_
  show own_Fin _ _ _ _ _ _ _ (s₁.setTop (mkF m 1 #[.val (.ref oa)] [(.ref oa)]))
  obtain ⟨T1, X1, e1, st1⟩ := getF X0 hx hZ hown (host := "") (Or.inl (hw _ (List.mem_of_getElem? (i := 17) rfl))) Via.refl e0 F_oa_count (g := (mkF m 1 #[.val (.ref oa)] [(.ref oa)])) rfl rfl (hb hby own_dcnt_1)
  refine own_Fin.go st1 ?_
  show own_Fin _ _ _ _ _ _ _ (T1.setTop (mkF m 4 #[.val (.ref oa)] [(.long vn)]))
  refine own_retJ X1 hx Bd.returns (hb hby own_dcnt_4) Bd.notSynchronized (by decide) (by decide) ?_
  rw [e1]
  exact ⟨rfl, N0, rfl⟩
theorem own_dmax_0 : decode prog_3_method_5_code 0 = .ok (.aload_n 0, 1) := by decide +kernel
theorem own_dmax_1 : decode prog_3_method_5_code 1 = .ok (.getfield 29, 3) := by decide +kernel
theorem own_dmax_4 : decode prog_3_method_5_code 4 = .ok (.lreturn, 1) := by decide +kernel
theorem own_ef_max (m : MethodId) (oa : Addr) : entryFrame m #[(.ref oa)] 1 = mkF m 0 #[.val (.ref oa)] [] := by first | (simp [entryFrame, mkF, argsToLocals, Value.category]; done) | rfl
def own_Q_max (Z : State) (oa : Addr) (vm : Int64) (h0 : Heap) (n0 : Nat) (v : Option Value) (h : Heap) (L : List Loc) : Prop := v = some (.long vm) ∧ Fr n0 L ∧ h = h0
set_option maxRecDepth 65536 in
set_option maxHeartbeats 40000000 in
theorem own_rm_max (l : Launch) (Z : State) (a0 : Array Value) (hw : ∀ d ∈ tables_1, d.before a0 Z = true) (ws : List Jvm.Cond) (oa : Addr) (vm : Int64) (h0 : Heap) (n0 : Nat) (Z0 : n0 ≤ h0.size) (E_oa : Exa Z h0 oa "com/example/canopy/canopy/bench/LatencyHistogram") (F_oa_max : Fld Z h0 oa "com/example/canopy/canopy/bench/LatencyHistogram" "max" "J" (.long vm)) :
    MetFree l (⟨"com/example/canopy/canopy/bench/LatencyHistogram", "max", "()J"⟩ : MethodName) (head1 (Jvm.Cond.code (⟨"com/example/canopy/canopy/bench/LatencyHistogram", "max", "()J"⟩ : MethodName) prog_3_method_5_code 1 (some .long) :: ws) ({ frames := 0, cells := 0, slots := 0, locals := 0 } : Room)) (fun a U => a = #[(.ref oa)] ∧ Z.Warmed39 U.vm ∧ U.heap = h0) (fun _ _ _ _ _ => True) (fun _ U o U' => ∃ v L, o = .returned v ∧ own_Q_max Z oa vm h0 n0 v U'.heap L ∧ FrameEnd U o U' L ({ frames := 0, cells := 0, slots := 0, locals := 0 } : Room).cells ({ frames := 0, cells := 0, slots := 0, locals := 0 } : Room).slots) := by
  refine MetFree.of_bodySF (plainFor_of_name own_pn2) hisR ?_
  intro p e s m args below meth c s₁ Bd hml0 hP hK
  obtain ⟨rfl, hZ, hh⟩ := hP
  have hx := Bd.exec
  have hby := Bd.bytes
  have hml : c.maxLocals = 1 := hml0
  have hown : s.vm.findClass "com/example/canopy/canopy/bench/LatencyHistogram" = some m.cls := findClass_of_methodNamed Bd.named
  have hnm := (name_of_methodNamed Bd.named Bd.method).1
  have X0 : Stand p l e ({ frames := 0, cells := 0, slots := 0, locals := 0 } : Room) s m #[(.ref oa)] below meth c s₁ [] 0 0 := Stand.of_body Bd
  have e0 : s₁.heap = h0 := by rw [← hh, Bd.state]; rfl
  have N0 := Fr.nil n0
  show own_Fin p e below s (own_Q_max Z oa vm h0 n0) ({ frames := 0, cells := 0, slots := 0, locals := 0 } : Room).cells ({ frames := 0, cells := 0, slots := 0, locals := 0 } : Room).slots (s₁.setTop (entryFrame m #[(.ref oa)] 1))
  refine own_Fin.go (fun t k => castTop (own_ef_max m oa) k) ?_
  refine own_Fin.go (fun t k => XS.aloadN X0.here hx rfl (hb hby own_dmax_0) rfl rfl k) ?_
  show own_Fin _ _ _ _ _ _ _ (s₁.setTop (mkF m 1 #[.val (.ref oa)] [(.ref oa)]))
  obtain ⟨T1, X1, e1, st1⟩ := getF X0 hx hZ hown (host := "") (Or.inl (hw _ (List.mem_of_getElem? (i := 19) rfl))) Via.refl e0 F_oa_max (g := (mkF m 1 #[.val (.ref oa)] [(.ref oa)])) rfl rfl (hb hby own_dmax_1)
  refine own_Fin.go st1 ?_
  show own_Fin _ _ _ _ _ _ _ (T1.setTop (mkF m 4 #[.val (.ref oa)] [(.long vm)]))
  refine own_retJ X1 hx Bd.returns (hb hby own_dmax_4) Bd.notSynchronized (by decide) (by decide) ?_
  rw [e1]
  exact ⟨rfl, N0, rfl⟩
theorem own_pd2 : parseMethodDescriptor "(JJ)J" = some ⟨[.long, .long], some .long⟩ := by decide +kernel
theorem own_drec_0 : decode prog_3_method_2_code 0 = .ok (.lconst 0, 1) := by decide +kernel
theorem own_drec_1 : decode prog_3_method_2_code 1 = .ok (.lload_n 1, 1) := by decide +kernel
theorem own_drec_2 : decode prog_3_method_2_code 2 = .ok (.invokestatic 15, 3) := by decide +kernel
theorem own_drec_5 : decode prog_3_method_2_code 5 = .ok (.lstore_n 3, 1) := by decide +kernel
theorem own_drec_6 : decode prog_3_method_2_code 6 = .ok (.aload_n 0, 1) := by decide +kernel
theorem own_drec_7 : decode prog_3_method_2_code 7 = .ok (.getfield 11, 3) := by decide +kernel
theorem own_drec_10 : decode prog_3_method_2_code 10 = .ok (.lload_n 3, 1) := by decide +kernel
theorem own_drec_11 : decode prog_3_method_2_code 11 = .ok (.invokestatic 21, 3) := by decide +kernel
theorem own_drec_14 : decode prog_3_method_2_code 14 = .ok (.dup2, 1) := by decide +kernel
theorem own_drec_15 : decode prog_3_method_2_code 15 = .ok (.laload, 1) := by decide +kernel
theorem own_drec_16 : decode prog_3_method_2_code 16 = .ok (.lconst 1, 1) := by decide +kernel
theorem own_drec_17 : decode prog_3_method_2_code 17 = .ok (.ladd, 1) := by decide +kernel
theorem own_drec_18 : decode prog_3_method_2_code 18 = .ok (.lastore, 1) := by decide +kernel
theorem own_drec_19 : decode prog_3_method_2_code 19 = .ok (.aload_n 0, 1) := by decide +kernel
theorem own_drec_20 : decode prog_3_method_2_code 20 = .ok (.dup, 1) := by decide +kernel
theorem own_drec_21 : decode prog_3_method_2_code 21 = .ok (.getfield 25, 3) := by decide +kernel
theorem own_drec_24 : decode prog_3_method_2_code 24 = .ok (.lconst 1, 1) := by decide +kernel
theorem own_drec_25 : decode prog_3_method_2_code 25 = .ok (.ladd, 1) := by decide +kernel
theorem own_drec_26 : decode prog_3_method_2_code 26 = .ok (.putfield 25, 3) := by decide +kernel
theorem own_drec_29 : decode prog_3_method_2_code 29 = .ok (.aload_n 0, 1) := by decide +kernel
theorem own_drec_30 : decode prog_3_method_2_code 30 = .ok (.aload_n 0, 1) := by decide +kernel
theorem own_drec_31 : decode prog_3_method_2_code 31 = .ok (.getfield 29, 3) := by decide +kernel
theorem own_drec_34 : decode prog_3_method_2_code 34 = .ok (.lload_n 3, 1) := by decide +kernel
theorem own_drec_35 : decode prog_3_method_2_code 35 = .ok (.invokestatic 15, 3) := by decide +kernel
theorem own_drec_38 : decode prog_3_method_2_code 38 = .ok (.putfield 29, 3) := by decide +kernel
theorem own_drec_41 : decode prog_3_method_2_code 41 = .ok (.return_, 1) := by decide +kernel
theorem own_ef_rec (m : MethodId) (oa : Addr) (va : Int64) : entryFrame m #[(.ref oa), (.long va)] 5 = mkF m 0 #[.val (.ref oa), .val (.long va), .second, .unset, .unset] [] := by first | (simp [entryFrame, mkF, argsToLocals, Value.category]; done) | rfl
def own_Q_rec (Z : State) (oa : Addr) (va : Int64) (ob : Addr) (kb : ClassId) (vn : Int64) (vm : Int64) (cf : Nat → Int64) (h0 : Heap) (n0 : Nat) (v : Option Value) (h : Heap) (L : List Loc) : Prop := v = none ∧ Fr n0 L ∧ Keep h0 h [oa, ob] ∧ Exa Z h oa "com/example/canopy/canopy/bench/LatencyHistogram" ∧ Fld Z h oa "com/example/canopy/canopy/bench/LatencyHistogram" "counts" "[J" (.ref ob) ∧ Fld Z h oa "com/example/canopy/canopy/bench/LatencyHistogram" "count" "J" (.long (vn + (1 : Int64))) ∧ Fld Z h oa "com/example/canopy/canopy/bench/LatencyHistogram" "max" "J" (.long (own_mx vm (own_mx (0 : Int64) va))) ∧ Arv Z h ob kb .long (3776 : Int32) (own_vs (own_up cf (own_bkt (own_mx (0 : Int64) va)).toNatClampNeg (cf (own_bkt (own_mx (0 : Int64) va)).toNatClampNeg + (1 : Int64)))) (.long (0 : Int64))
set_option maxRecDepth 65536 in
set_option maxHeartbeats 40000000 in
theorem own_rm_rec (l : Launch) (Z : State) (a0 : Array Value) (hw : ∀ d ∈ tables_1, d.before a0 Z = true) (ws : List Jvm.Cond) (oa : Addr) (va : Int64) (ob : Addr) (kb : ClassId) (vn : Int64) (vm : Int64) (cf : Nat → Int64) (h0 : Heap) (n0 : Nat) (Z0 : n0 ≤ h0.size) (E_oa : Exa Z h0 oa "com/example/canopy/canopy/bench/LatencyHistogram") (F_oa_counts : Fld Z h0 oa "com/example/canopy/canopy/bench/LatencyHistogram" "counts" "[J" (.ref ob)) (F_oa_count : Fld Z h0 oa "com/example/canopy/canopy/bench/LatencyHistogram" "count" "J" (.long vn)) (F_oa_max : Fld Z h0 oa "com/example/canopy/canopy/bench/LatencyHistogram" "max" "J" (.long vm)) (V_ob : Arv Z h0 ob kb .long (3776 : Int32) (own_vs cf) (.long (0 : Int64))) (g_oa : n0 ≤ oa) (g_ob : n0 ≤ ob) (ne_oa_ob : oa ≠ ob) :
    MetFree l (⟨"com/example/canopy/canopy/bench/LatencyHistogram", "record", "(J)V"⟩ : MethodName) (head1 (Jvm.Cond.code (⟨"com/example/canopy/canopy/bench/LatencyHistogram", "record", "(J)V"⟩ : MethodName) prog_3_method_2_code 5 none :: ws) ({ frames := 3, cells := 0, slots := 0, locals := 46 } : Room)) (fun a U => a = #[(.ref oa), (.long va)] ∧ Z.Warmed39 U.vm ∧ U.heap = h0) (fun _ _ _ _ _ => True) (fun _ U o U' => ∃ v L, o = .returned v ∧ own_Q_rec Z oa va ob kb vn vm cf h0 n0 v U'.heap L ∧ FrameEnd U o U' L ({ frames := 3, cells := 0, slots := 0, locals := 46 } : Room).cells ({ frames := 3, cells := 0, slots := 0, locals := 46 } : Room).slots) := by
  refine MetFree.of_bodySF (plainFor_of_name own_pn2) hisR ?_
  intro p e s m args below meth c s₁ Bd hml0 hP hK
  obtain ⟨rfl, hZ, hh⟩ := hP
  have hx := Bd.exec
  have hby := Bd.bytes
  have hml : c.maxLocals = 5 := hml0
  have hown : s.vm.findClass "com/example/canopy/canopy/bench/LatencyHistogram" = some m.cls := findClass_of_methodNamed Bd.named
  have hnm := (name_of_methodNamed Bd.named Bd.method).1
  have X0 : Stand p l e ({ frames := 3, cells := 0, slots := 0, locals := 46 } : Room) s m #[(.ref oa), (.long va)] below meth c s₁ [] 0 0 := Stand.of_body Bd
  have e0 : s₁.heap = h0 := by rw [← hh, Bd.state]; rfl
  have N0 := Fr.nil n0
  have K0 := Keep.refl h0 [oa, ob]
  show own_Fin p e below s (own_Q_rec Z oa va ob kb vn vm cf h0 n0) ({ frames := 3, cells := 0, slots := 0, locals := 46 } : Room).cells ({ frames := 3, cells := 0, slots := 0, locals := 46 } : Room).slots (s₁.setTop (entryFrame m #[(.ref oa), (.long va)] 5))
  refine own_Fin.go (fun t k => castTop (own_ef_rec m oa va) k) ?_
  refine own_Fin.go (fun t k => XS.lconst X0.here hx rfl (hb hby own_drec_0) k) ?_
  show own_Fin _ _ _ _ _ _ _ (s₁.setTop (mkF m 1 #[.val (.ref oa), .val (.long va), .second, .unset, .unset] [(.long (0 : Int64))]))
  refine own_Fin.go (fun t k => XS.lloadN X0.here hx rfl (hb hby own_drec_1) rfl k) ?_
  show own_Fin _ _ _ _ _ _ _ (s₁.setTop (mkF m 2 #[.val (.ref oa), .val (.long va), .second, .unset, .unset] [(.long va), (.long (0 : Int64))]))
  obtain ⟨_, _, ⟨T1, L1, k1, n1⟩, -, X1, ⟨Lc1, hQ1, l1, y1, z1⟩, st1⟩ := Jvm.LawKit.callS X0 hx (y := (⟨"java/lang/Math", "max", "(JJ)J"⟩ : MethodName)) hown (mvT hZ (hw _ (List.mem_of_getElem? (i := 21) rfl))) (mvT hZ (hw _ (List.mem_of_getElem? (i := 22) rfl))) (mvT hZ (hw _ (List.mem_of_getElem? (i := 23) rfl))) (mvT hZ (hw _ (List.mem_of_getElem? (i := 24) rfl))) (by decide) (backOf (W := 0) (own_rm_mx l Z a0 hw [] (0 : Int64) va  h0 n0 Z0 ) hZ (hw _ (List.mem_of_getElem? (i := 24) rfl)) (hw _ (List.mem_of_getElem? (i := 23) rfl)) (by decide) (by decide)) (g := (mkF m 2 #[.val (.ref oa), .val (.long va), .second, .unset, .unset] [(.long va), (.long (0 : Int64))])) rfl (by rw [hml]; rfl) (argsL := [(.long (0 : Int64)), (.long va)]) (rest := []) (lenOf own_pd2 rfl) rfl (by show 2 * 0 + _ ≤ _; exact Nat.le_of_eq rfl) (hb hby own_drec_2) (fun _ _ => ⟨rfl, e0, (by decide : 0 + 0 ≤ _), (by decide : 0 + 0 ≤ _)⟩)
  dsimp only [Pt.U, Pt.locs, Pt.cells, Pt.slots] at X1 l1 y1 z1 st1 hQ1
  subst l1 y1 z1
  obtain ⟨rfl, N1q, e1⟩ := hQ1
  refine own_Fin.go (fun t k => st1 t k) ?_
  have N1 := Fr.app N0 N1q
  show own_Fin _ _ _ _ _ _ _ (T1.setTop (mkF m 5 #[.val (.ref oa), .val (.long va), .second, .unset, .unset] [(.long (own_mx (0 : Int64) va))]))
  refine own_Fin.go (fun t k => XS.lstoreN X1.here hx rfl (hb hby own_drec_5) rfl (l' := #[.val (.ref oa), .val (.long va), .second, .val (.long (own_mx (0 : Int64) va)), .second]) rfl k) ?_
  show own_Fin _ _ _ _ _ _ _ (T1.setTop (mkF m 6 #[.val (.ref oa), .val (.long va), .second, .val (.long (own_mx (0 : Int64) va)), .second] []))
  refine own_Fin.go (fun t k => XS.aloadN X1.here hx rfl (hb hby own_drec_6) rfl rfl k) ?_
  show own_Fin _ _ _ _ _ _ _ (T1.setTop (mkF m 7 #[.val (.ref oa), .val (.long va), .second, .val (.long (own_mx (0 : Int64) va)), .second] [(.ref oa)]))
  obtain ⟨T2, X2, e2, st2⟩ := getF X1 hx hZ hown (host := "") (Or.inl (hw _ (List.mem_of_getElem? (i := 10) rfl))) Via.refl e1 F_oa_counts (g := (mkF m 7 #[.val (.ref oa), .val (.long va), .second, .val (.long (own_mx (0 : Int64) va)), .second] [(.ref oa)])) rfl rfl (hb hby own_drec_7)
  refine own_Fin.go st2 ?_
  show own_Fin _ _ _ _ _ _ _ (T2.setTop (mkF m 10 #[.val (.ref oa), .val (.long va), .second, .val (.long (own_mx (0 : Int64) va)), .second] [(.ref ob)]))
  refine own_Fin.go (fun t k => XS.lloadN X2.here hx rfl (hb hby own_drec_10) rfl k) ?_
  show own_Fin _ _ _ _ _ _ _ (T2.setTop (mkF m 11 #[.val (.ref oa), .val (.long va), .second, .val (.long (own_mx (0 : Int64) va)), .second] [(.long (own_mx (0 : Int64) va)), (.ref ob)]))
  obtain ⟨_, _, ⟨T3, L3, k3, n3⟩, -, X3, ⟨Lc3, hQ3, l3, y3, z3⟩, st3⟩ := Jvm.LawKit.callS X2 hx (y := (⟨"com/example/canopy/canopy/bench/LatencyHistogram", "bucket", "(J)I"⟩ : MethodName)) hown (mvT hZ (hw _ (List.mem_of_getElem? (i := 45) rfl))) (mvT hZ (hw _ (List.mem_of_getElem? (i := 46) rfl))) (mvT hZ (hw _ (List.mem_of_getElem? (i := 2) rfl))) (mvT hZ (hw _ (List.mem_of_getElem? (i := 47) rfl))) (by decide) (backOf (W := 1) (own_rm_bk l Z a0 hw [] (own_mx (0 : Int64) va)  h0 n0 Z0 ) hZ (hw _ (List.mem_of_getElem? (i := 47) rfl)) (hw _ (List.mem_of_getElem? (i := 2) rfl)) (by decide) (by decide)) (g := (mkF m 11 #[.val (.ref oa), .val (.long va), .second, .val (.long (own_mx (0 : Int64) va)), .second] [(.long (own_mx (0 : Int64) va)), (.ref ob)])) rfl (by rw [hml]; rfl) (argsL := [(.long (own_mx (0 : Int64) va))]) (rest := [(.ref ob)]) (lenOf own_pd1 rfl) rfl (by show 2 * 0 + _ ≤ _; exact Nat.le_of_eq rfl) (hb hby own_drec_11) (fun _ _ => ⟨rfl, e2, (by decide : 0 + 0 ≤ _), (by decide : 0 + 0 ≤ _)⟩)
  dsimp only [Pt.U, Pt.locs, Pt.cells, Pt.slots] at X3 l3 y3 z3 st3 hQ3
  subst l3 y3 z3
  obtain ⟨rfl, N3q, e3⟩ := hQ3
  refine own_Fin.go (fun t k => st3 t k) ?_
  have N3 := Fr.app N1 N3q
  show own_Fin _ _ _ _ _ _ _ (T3.setTop (mkF m 14 #[.val (.ref oa), .val (.long va), .second, .val (.long (own_mx (0 : Int64) va)), .second] [(.int (own_bkt (own_mx (0 : Int64) va))), (.ref ob)]))
  refine own_Fin.go (fun t k => Jvm.Free.XT.dup2 X3.here hx rfl (hb hby own_drec_14) rfl rfl rfl k) ?_
  show own_Fin _ _ _ _ _ _ _ (T3.setTop (mkF m 15 #[.val (.ref oa), .val (.long va), .second, .val (.long (own_mx (0 : Int64) va)), .second] [(.int (own_bkt (own_mx (0 : Int64) va))), (.ref ob), (.int (own_bkt (own_mx (0 : Int64) va))), (.ref ob)]))
  have hbk := own_bk (own_mx (0 : Int64) va) (own_mx0 va)
  obtain ⟨cl4, Ar4, q4, S4, N4l, H4, G4⟩ := (id V_ob)
  have hin4 : ¬ ((own_bkt (own_mx (0 : Int64) va)) < 0 ∨ cl4.slots.size ≤ ((own_bkt (own_mx (0 : Int64) va))).toNatClampNeg) := inb_of S4 hbk
  have hat4 : cl4.slots[((own_bkt (own_mx (0 : Int64) va))).toNatClampNeg]? = some (.long (cf (own_bkt (own_mx (0 : Int64) va)).toNatClampNeg)) := Has.at H4 hin4 (own_vsI cf _ hbk.1 hbk.2)
  refine own_Fin.go (fun t k => X3.laload hx (j := (own_bkt (own_mx (0 : Int64) va))) (v := (.long (cf (own_bkt (own_mx (0 : Int64) va)).toNatClampNeg))) (by rw [e3]; exact Ar4.1) (State.isArrayOf_alike hZ.alike Ar4.2.1) Ar4.2.2 hin4 hat4 (g := (mkF m 15 #[.val (.ref oa), .val (.long va), .second, .val (.long (own_mx (0 : Int64) va)), .second] [(.int (own_bkt (own_mx (0 : Int64) va))), (.ref ob), (.int (own_bkt (own_mx (0 : Int64) va))), (.ref ob)])) rfl rfl (hb hby own_drec_15) t k) ?_
  show own_Fin _ _ _ _ _ _ _ (T3.setTop (mkF m 16 #[.val (.ref oa), .val (.long va), .second, .val (.long (own_mx (0 : Int64) va)), .second] [(.long (cf (own_bkt (own_mx (0 : Int64) va)).toNatClampNeg)), (.int (own_bkt (own_mx (0 : Int64) va))), (.ref ob)]))
  refine own_Fin.go (fun t k => XS.lconst X3.here hx rfl (hb hby own_drec_16) k) ?_
  show own_Fin _ _ _ _ _ _ _ (T3.setTop (mkF m 17 #[.val (.ref oa), .val (.long va), .second, .val (.long (own_mx (0 : Int64) va)), .second] [(.long (1 : Int64)), (.long (cf (own_bkt (own_mx (0 : Int64) va)).toNatClampNeg)), (.int (own_bkt (own_mx (0 : Int64) va))), (.ref ob)]))
  refine own_Fin.go (fun t k => XS.ladd X3.here hx rfl (hb hby own_drec_17) rfl k) ?_
  show own_Fin _ _ _ _ _ _ _ (T3.setTop (mkF m 18 #[.val (.ref oa), .val (.long va), .second, .val (.long (own_mx (0 : Int64) va)), .second] [(.long ((cf (own_bkt (own_mx (0 : Int64) va)).toNatClampNeg) + (1 : Int64))), (.int (own_bkt (own_mx (0 : Int64) va))), (.ref ob)]))
  obtain ⟨cl5, Ar5, q5, S5, N5l, H5, G5⟩ := (id V_ob)
  have hin5 : ¬ ((own_bkt (own_mx (0 : Int64) va)) < 0 ∨ cl5.slots.size ≤ ((own_bkt (own_mx (0 : Int64) va))).toNatClampNeg) := inb_of S5 hbk
  obtain ⟨T5, h5, X5, e5, W5, st5⟩ := stJ X3 hx hZ e3 Ar5 (j := (own_bkt (own_mx (0 : Int64) va))) hin5 (g := (mkF m 18 #[.val (.ref oa), .val (.long va), .second, .val (.long (own_mx (0 : Int64) va)), .second] [(.long ((cf (own_bkt (own_mx (0 : Int64) va)).toNatClampNeg) + (1 : Int64))), (.int (own_bkt (own_mx (0 : Int64) va))), (.ref ob)])) rfl rfl (hb hby own_drec_18)
  refine own_Fin.go st5 ?_
  have V_ob_5 : Arv Z h5 ob kb .long (3776 : Int32) (own_vs (own_up cf (own_bkt (own_mx (0 : Int64) va)).toNatClampNeg ((cf (own_bkt (own_mx (0 : Int64) va)).toNatClampNeg) + (1 : Int64)))) (.long (0 : Int64)) := own_set V_ob W5 hbk
  have E_oa_5 := Exa.wr W5 E_oa
  have F_oa_counts_5 := Fld.other W5 F_oa_counts (Or.inl ne_oa_ob)
  have F_oa_count_5 := Fld.other W5 F_oa_count (Or.inl ne_oa_ob)
  have F_oa_max_5 := Fld.other W5 F_oa_max (Or.inl ne_oa_ob)
  have Z5 := Nat.le_trans Z0 (Keep.of_wr W5).1
  have K5 := K0.wr W5 (Or.inl (List.mem_of_getElem? (i := 1) rfl))
  have N5 := Fr.snoc X5 N3 g_ob
  show own_Fin _ _ _ _ _ _ _ (T5.setTop (mkF m 19 #[.val (.ref oa), .val (.long va), .second, .val (.long (own_mx (0 : Int64) va)), .second] []))
  refine own_Fin.go (fun t k => XS.aloadN X5.here hx rfl (hb hby own_drec_19) rfl rfl k) ?_
  show own_Fin _ _ _ _ _ _ _ (T5.setTop (mkF m 20 #[.val (.ref oa), .val (.long va), .second, .val (.long (own_mx (0 : Int64) va)), .second] [(.ref oa)]))
  refine own_Fin.go (fun t k => XS.dup X5.here hx rfl (hb hby own_drec_20) rfl rfl k) ?_
  show own_Fin _ _ _ _ _ _ _ (T5.setTop (mkF m 21 #[.val (.ref oa), .val (.long va), .second, .val (.long (own_mx (0 : Int64) va)), .second] [(.ref oa), (.ref oa)]))
  obtain ⟨T6, X6, e6, st6⟩ := getF X5 hx hZ hown (host := "") (Or.inl (hw _ (List.mem_of_getElem? (i := 17) rfl))) Via.refl e5 F_oa_count_5 (g := (mkF m 21 #[.val (.ref oa), .val (.long va), .second, .val (.long (own_mx (0 : Int64) va)), .second] [(.ref oa), (.ref oa)])) rfl rfl (hb hby own_drec_21)
  refine own_Fin.go st6 ?_
  show own_Fin _ _ _ _ _ _ _ (T6.setTop (mkF m 24 #[.val (.ref oa), .val (.long va), .second, .val (.long (own_mx (0 : Int64) va)), .second] [(.long vn), (.ref oa)]))
  refine own_Fin.go (fun t k => XS.lconst X6.here hx rfl (hb hby own_drec_24) k) ?_
  show own_Fin _ _ _ _ _ _ _ (T6.setTop (mkF m 25 #[.val (.ref oa), .val (.long va), .second, .val (.long (own_mx (0 : Int64) va)), .second] [(.long (1 : Int64)), (.long vn), (.ref oa)]))
  refine own_Fin.go (fun t k => XS.ladd X6.here hx rfl (hb hby own_drec_25) rfl k) ?_
  show own_Fin _ _ _ _ _ _ _ (T6.setTop (mkF m 26 #[.val (.ref oa), .val (.long va), .second, .val (.long (own_mx (0 : Int64) va)), .second] [(.long (vn + (1 : Int64))), (.ref oa)]))
  obtain ⟨T7, h7, X7, e7, W7, st7⟩ := putF X6 hx hZ hown (host := "") (Or.inl (hw _ (List.mem_of_getElem? (i := 17) rfl))) Via.refl e6 F_oa_count_5 E_oa_5 (Or.inl (hw _ (List.mem_of_getElem? (i := 18) rfl))) (hw _ (List.mem_of_getElem? (i := 1) rfl)) (ty := .long) (by decide) rfl rfl (g := (mkF m 26 #[.val (.ref oa), .val (.long va), .second, .val (.long (own_mx (0 : Int64) va)), .second] [(.long (vn + (1 : Int64))), (.ref oa)])) rfl rfl (hb hby own_drec_26)
  refine own_Fin.go st7 ?_
  have F_oa_count_7 := Fld.same W7 F_oa_count_5
  have E_oa_7 := Exa.wr W7 E_oa_5
  have F_oa_counts_7 := Fld.other W7 F_oa_counts_5 (Or.inr (slot_ne (Or.inr (hw _ (List.mem_of_getElem? (i := 11) rfl))) (Or.inl (hw _ (List.mem_of_getElem? (i := 18) rfl))) (by decide) (t := (.array .long)) (t' := .long) (by decide) (by decide)))
  have F_oa_max_7 := Fld.other W7 F_oa_max_5 (Or.inr (slot_ne (Or.inl (hw _ (List.mem_of_getElem? (i := 20) rfl))) (Or.inl (hw _ (List.mem_of_getElem? (i := 18) rfl))) (by decide) (t := .long) (t' := .long) (by decide) (by decide)))
  have V_ob_7 := Arv.other V_ob_5 W7 (Ne.symm ne_oa_ob)
  have Z7 := Nat.le_trans Z5 (Keep.of_wr W7).1
  have K7 := K5.wr W7 (Or.inl (List.mem_of_getElem? (i := 0) rfl))
  have N7 := Fr.snoc X7 N5 g_oa
  show own_Fin _ _ _ _ _ _ _ (T7.setTop (mkF m 29 #[.val (.ref oa), .val (.long va), .second, .val (.long (own_mx (0 : Int64) va)), .second] []))
  refine own_Fin.go (fun t k => XS.aloadN X7.here hx rfl (hb hby own_drec_29) rfl rfl k) ?_
  show own_Fin _ _ _ _ _ _ _ (T7.setTop (mkF m 30 #[.val (.ref oa), .val (.long va), .second, .val (.long (own_mx (0 : Int64) va)), .second] [(.ref oa)]))
  refine own_Fin.go (fun t k => XS.aloadN X7.here hx rfl (hb hby own_drec_30) rfl rfl k) ?_
  show own_Fin _ _ _ _ _ _ _ (T7.setTop (mkF m 31 #[.val (.ref oa), .val (.long va), .second, .val (.long (own_mx (0 : Int64) va)), .second] [(.ref oa), (.ref oa)]))
  obtain ⟨T8, X8, e8, st8⟩ := getF X7 hx hZ hown (host := "") (Or.inl (hw _ (List.mem_of_getElem? (i := 19) rfl))) Via.refl e7 F_oa_max_7 (g := (mkF m 31 #[.val (.ref oa), .val (.long va), .second, .val (.long (own_mx (0 : Int64) va)), .second] [(.ref oa), (.ref oa)])) rfl rfl (hb hby own_drec_31)
  refine own_Fin.go st8 ?_
  show own_Fin _ _ _ _ _ _ _ (T8.setTop (mkF m 34 #[.val (.ref oa), .val (.long va), .second, .val (.long (own_mx (0 : Int64) va)), .second] [(.long vm), (.ref oa)]))
  refine own_Fin.go (fun t k => XS.lloadN X8.here hx rfl (hb hby own_drec_34) rfl k) ?_
  show own_Fin _ _ _ _ _ _ _ (T8.setTop (mkF m 35 #[.val (.ref oa), .val (.long va), .second, .val (.long (own_mx (0 : Int64) va)), .second] [(.long (own_mx (0 : Int64) va)), (.long vm), (.ref oa)]))
  obtain ⟨_, _, ⟨T9, L9, k9, n9⟩, -, X9, ⟨Lc9, hQ9, l9, y9, z9⟩, st9⟩ := Jvm.LawKit.callS X8 hx (y := (⟨"java/lang/Math", "max", "(JJ)J"⟩ : MethodName)) hown (mvT hZ (hw _ (List.mem_of_getElem? (i := 21) rfl))) (mvT hZ (hw _ (List.mem_of_getElem? (i := 22) rfl))) (mvT hZ (hw _ (List.mem_of_getElem? (i := 23) rfl))) (mvT hZ (hw _ (List.mem_of_getElem? (i := 24) rfl))) (by decide) (backOf (W := 1) (own_rm_mx l Z a0 hw [] vm (own_mx (0 : Int64) va)  h7 n0 Z7 ) hZ (hw _ (List.mem_of_getElem? (i := 24) rfl)) (hw _ (List.mem_of_getElem? (i := 23) rfl)) (by decide) (by decide)) (g := (mkF m 35 #[.val (.ref oa), .val (.long va), .second, .val (.long (own_mx (0 : Int64) va)), .second] [(.long (own_mx (0 : Int64) va)), (.long vm), (.ref oa)])) rfl (by rw [hml]; rfl) (argsL := [(.long vm), (.long (own_mx (0 : Int64) va))]) (rest := [(.ref oa)]) (lenOf own_pd2 rfl) rfl (by show 2 * 0 + _ ≤ _; exact Nat.le_of_eq rfl) (hb hby own_drec_35) (fun _ _ => ⟨rfl, e8, (by decide : 0 + 0 ≤ _), (by decide : 0 + 0 ≤ _)⟩)
  dsimp only [Pt.U, Pt.locs, Pt.cells, Pt.slots] at X9 l9 y9 z9 st9 hQ9
  subst l9 y9 z9
  obtain ⟨rfl, N9q, e9⟩ := hQ9
  refine own_Fin.go (fun t k => st9 t k) ?_
  have N9 := Fr.app N7 N9q
  show own_Fin _ _ _ _ _ _ _ (T9.setTop (mkF m 38 #[.val (.ref oa), .val (.long va), .second, .val (.long (own_mx (0 : Int64) va)), .second] [(.long (own_mx vm (own_mx (0 : Int64) va))), (.ref oa)]))
  obtain ⟨T10, h10, X10, e10, W10, st10⟩ := putF X9 hx hZ hown (host := "") (Or.inl (hw _ (List.mem_of_getElem? (i := 19) rfl))) Via.refl e9 F_oa_max_7 E_oa_7 (Or.inl (hw _ (List.mem_of_getElem? (i := 20) rfl))) (hw _ (List.mem_of_getElem? (i := 1) rfl)) (ty := .long) (by decide) rfl rfl (g := (mkF m 38 #[.val (.ref oa), .val (.long va), .second, .val (.long (own_mx (0 : Int64) va)), .second] [(.long (own_mx vm (own_mx (0 : Int64) va))), (.ref oa)])) rfl rfl (hb hby own_drec_38)
  refine own_Fin.go st10 ?_
  have F_oa_max_10 := Fld.same W10 F_oa_max_7
  have E_oa_10 := Exa.wr W10 E_oa_7
  have F_oa_counts_10 := Fld.other W10 F_oa_counts_7 (Or.inr (slot_ne (Or.inr (hw _ (List.mem_of_getElem? (i := 11) rfl))) (Or.inl (hw _ (List.mem_of_getElem? (i := 20) rfl))) (by decide) (t := (.array .long)) (t' := .long) (by decide) (by decide)))
  have F_oa_count_10 := Fld.other W10 F_oa_count_7 (Or.inr (slot_ne (Or.inl (hw _ (List.mem_of_getElem? (i := 18) rfl))) (Or.inl (hw _ (List.mem_of_getElem? (i := 20) rfl))) (by decide) (t := .long) (t' := .long) (by decide) (by decide)))
  have V_ob_10 := Arv.other V_ob_7 W10 (Ne.symm ne_oa_ob)
  have Z10 := Nat.le_trans Z7 (Keep.of_wr W10).1
  have K10 := K7.wr W10 (Or.inl (List.mem_of_getElem? (i := 0) rfl))
  have N10 := Fr.snoc X10 N9 g_oa
  show own_Fin _ _ _ _ _ _ _ (T10.setTop (mkF m 41 #[.val (.ref oa), .val (.long va), .second, .val (.long (own_mx (0 : Int64) va)), .second] []))
  refine own_ret0 X10 hx Bd.returns (hb hby own_drec_41) Bd.notSynchronized (by decide) (by decide) ?_
  rw [e10]
  exact ⟨rfl, N10, K10, E_oa_10, F_oa_counts_10, F_oa_count_10, F_oa_max_10, V_ob_10⟩
theorem own_dadd_0 : decode prog_3_method_3_code 0 = .ok (.iconst 0, 1) := by decide +kernel
theorem own_dadd_1 : decode prog_3_method_3_code 1 = .ok (.istore_n 2, 1) := by decide +kernel
theorem own_dadd_2 : decode prog_3_method_3_code 2 = .ok (.iload_n 2, 1) := by decide +kernel
theorem own_dadd_3 : decode prog_3_method_3_code 3 = .ok (.aload_n 0, 1) := by decide +kernel
theorem own_dadd_4 : decode prog_3_method_3_code 4 = .ok (.getfield 11, 3) := by decide +kernel
theorem own_dadd_7 : decode prog_3_method_3_code 7 = .ok (.arraylength, 1) := by decide +kernel
theorem own_dadd_8 : decode prog_3_method_3_code 8 = .ok (.if_icmp .ge 24, 3) := by decide +kernel
theorem own_dadd_11 : decode prog_3_method_3_code 11 = .ok (.aload_n 0, 1) := by decide +kernel
theorem own_dadd_12 : decode prog_3_method_3_code 12 = .ok (.getfield 11, 3) := by decide +kernel
theorem own_dadd_15 : decode prog_3_method_3_code 15 = .ok (.iload_n 2, 1) := by decide +kernel
theorem own_dadd_16 : decode prog_3_method_3_code 16 = .ok (.dup2, 1) := by decide +kernel
theorem own_dadd_17 : decode prog_3_method_3_code 17 = .ok (.laload, 1) := by decide +kernel
theorem own_dadd_18 : decode prog_3_method_3_code 18 = .ok (.aload_n 1, 1) := by decide +kernel
theorem own_dadd_19 : decode prog_3_method_3_code 19 = .ok (.getfield 11, 3) := by decide +kernel
theorem own_dadd_22 : decode prog_3_method_3_code 22 = .ok (.iload_n 2, 1) := by decide +kernel
theorem own_dadd_23 : decode prog_3_method_3_code 23 = .ok (.laload, 1) := by decide +kernel
theorem own_dadd_24 : decode prog_3_method_3_code 24 = .ok (.ladd, 1) := by decide +kernel
theorem own_dadd_25 : decode prog_3_method_3_code 25 = .ok (.lastore, 1) := by decide +kernel
theorem own_dadd_26 : decode prog_3_method_3_code 26 = .ok (.iinc 2 1, 3) := by decide +kernel
theorem own_dadd_29 : decode prog_3_method_3_code 29 = .ok (.goto (-27), 3) := by decide +kernel
theorem own_dadd_32 : decode prog_3_method_3_code 32 = .ok (.aload_n 0, 1) := by decide +kernel
theorem own_dadd_33 : decode prog_3_method_3_code 33 = .ok (.dup, 1) := by decide +kernel
theorem own_dadd_34 : decode prog_3_method_3_code 34 = .ok (.getfield 25, 3) := by decide +kernel
theorem own_dadd_37 : decode prog_3_method_3_code 37 = .ok (.aload_n 1, 1) := by decide +kernel
theorem own_dadd_38 : decode prog_3_method_3_code 38 = .ok (.getfield 25, 3) := by decide +kernel
theorem own_dadd_41 : decode prog_3_method_3_code 41 = .ok (.ladd, 1) := by decide +kernel
theorem own_dadd_42 : decode prog_3_method_3_code 42 = .ok (.putfield 25, 3) := by decide +kernel
theorem own_dadd_45 : decode prog_3_method_3_code 45 = .ok (.aload_n 0, 1) := by decide +kernel
theorem own_dadd_46 : decode prog_3_method_3_code 46 = .ok (.aload_n 0, 1) := by decide +kernel
theorem own_dadd_47 : decode prog_3_method_3_code 47 = .ok (.getfield 29, 3) := by decide +kernel
theorem own_dadd_50 : decode prog_3_method_3_code 50 = .ok (.aload_n 1, 1) := by decide +kernel
theorem own_dadd_51 : decode prog_3_method_3_code 51 = .ok (.getfield 29, 3) := by decide +kernel
theorem own_dadd_54 : decode prog_3_method_3_code 54 = .ok (.invokestatic 15, 3) := by decide +kernel
theorem own_dadd_57 : decode prog_3_method_3_code 57 = .ok (.putfield 29, 3) := by decide +kernel
theorem own_dadd_60 : decode prog_3_method_3_code 60 = .ok (.return_, 1) := by decide +kernel
theorem own_ef_add (m : MethodId) (oa : Addr) (ox : Addr) : entryFrame m #[(.ref oa), (.ref ox)] 3 = mkF m 0 #[.val (.ref oa), .val (.ref ox), .unset] [] := by first | (simp [entryFrame, mkF, argsToLocals, Value.category]; done) | rfl
def own_Q_add (Z : State) (oa : Addr) (ox : Addr) (ob : Addr) (kb : ClassId) (vn : Int64) (vm : Int64) (cf : Nat → Int64) (oy : Addr) (ky : ClassId) (vo : Int64) (vp : Int64) (cg : Nat → Int64) (h0 : Heap) (n0 : Nat) (v : Option Value) (h : Heap) (L : List Loc) : Prop := v = none ∧ Fr n0 L ∧ Keep h0 h [oa, ob] ∧ Exa Z h oa "com/example/canopy/canopy/bench/LatencyHistogram" ∧ Fld Z h oa "com/example/canopy/canopy/bench/LatencyHistogram" "counts" "[J" (.ref ob) ∧ Fld Z h oa "com/example/canopy/canopy/bench/LatencyHistogram" "count" "J" (.long (vn + vo)) ∧ Fld Z h oa "com/example/canopy/canopy/bench/LatencyHistogram" "max" "J" (.long (own_mx vm vp)) ∧ Arv Z h ob kb .long (3776 : Int32) (own_vs (own_mix cf cg 3776)) (.long (0 : Int64))
set_option maxRecDepth 65536 in
set_option maxHeartbeats 40000000 in
theorem own_rm_add (l : Launch) (Z : State) (a0 : Array Value) (hw : ∀ d ∈ tables_1, d.before a0 Z = true) (ws : List Jvm.Cond) (oa : Addr) (ox : Addr) (ob : Addr) (kb : ClassId) (vn : Int64) (vm : Int64) (cf : Nat → Int64) (oy : Addr) (ky : ClassId) (vo : Int64) (vp : Int64) (cg : Nat → Int64) (h0 : Heap) (n0 : Nat) (Z0 : n0 ≤ h0.size) (E_oa : Exa Z h0 oa "com/example/canopy/canopy/bench/LatencyHistogram") (F_oa_counts : Fld Z h0 oa "com/example/canopy/canopy/bench/LatencyHistogram" "counts" "[J" (.ref ob)) (F_oa_count : Fld Z h0 oa "com/example/canopy/canopy/bench/LatencyHistogram" "count" "J" (.long vn)) (F_oa_max : Fld Z h0 oa "com/example/canopy/canopy/bench/LatencyHistogram" "max" "J" (.long vm)) (V_ob : Arv Z h0 ob kb .long (3776 : Int32) (own_vs cf) (.long (0 : Int64))) (g_oa : n0 ≤ oa) (g_ob : n0 ≤ ob) (ne_oa_ob : oa ≠ ob) (E_ox : Exa Z h0 ox "com/example/canopy/canopy/bench/LatencyHistogram") (F_ox_counts : Fld Z h0 ox "com/example/canopy/canopy/bench/LatencyHistogram" "counts" "[J" (.ref oy)) (F_ox_count : Fld Z h0 ox "com/example/canopy/canopy/bench/LatencyHistogram" "count" "J" (.long vo)) (F_ox_max : Fld Z h0 ox "com/example/canopy/canopy/bench/LatencyHistogram" "max" "J" (.long vp)) (V_oy : Arv Z h0 oy ky .long (3776 : Int32) (own_vs cg) (.long (0 : Int64))) (ne_oa_ox : oa ≠ ox) (ne_ox_ob : ox ≠ ob) (ne_oa_oy : oa ≠ oy) (ne_oy_ob : oy ≠ ob) :
    MetFree l (⟨"com/example/canopy/canopy/bench/LatencyHistogram", "add", "(Lcom/example/canopy/canopy/bench/LatencyHistogram;)V"⟩ : MethodName) (head1 (Jvm.Cond.code (⟨"com/example/canopy/canopy/bench/LatencyHistogram", "add", "(Lcom/example/canopy/canopy/bench/LatencyHistogram;)V"⟩ : MethodName) prog_3_method_3_code 3 none :: ws) ({ frames := 1, cells := 0, slots := 0, locals := 16 } : Room)) (fun a U => a = #[(.ref oa), (.ref ox)] ∧ Z.Warmed39 U.vm ∧ U.heap = h0) (fun _ _ _ _ _ => True) (fun _ U o U' => ∃ v L, o = .returned v ∧ own_Q_add Z oa ox ob kb vn vm cf oy ky vo vp cg h0 n0 v U'.heap L ∧ FrameEnd U o U' L ({ frames := 1, cells := 0, slots := 0, locals := 16 } : Room).cells ({ frames := 1, cells := 0, slots := 0, locals := 16 } : Room).slots) := by
  refine MetFree.of_bodySF (plainFor_of_name own_pn2) hisR ?_
  intro p e s m args below meth c s₁ Bd hml0 hP hK
  obtain ⟨rfl, hZ, hh⟩ := hP
  have hx := Bd.exec
  have hby := Bd.bytes
  have hml : c.maxLocals = 3 := hml0
  have hown : s.vm.findClass "com/example/canopy/canopy/bench/LatencyHistogram" = some m.cls := findClass_of_methodNamed Bd.named
  have hnm := (name_of_methodNamed Bd.named Bd.method).1
  have X0 : Stand p l e ({ frames := 1, cells := 0, slots := 0, locals := 16 } : Room) s m #[(.ref oa), (.ref ox)] below meth c s₁ [] 0 0 := Stand.of_body Bd
  have e0 : s₁.heap = h0 := by rw [← hh, Bd.state]; rfl
  have N0 := Fr.nil n0
  have K0 := Keep.refl h0 [oa, ob]
  show own_Fin p e below s (own_Q_add Z oa ox ob kb vn vm cf oy ky vo vp cg h0 n0) ({ frames := 1, cells := 0, slots := 0, locals := 16 } : Room).cells ({ frames := 1, cells := 0, slots := 0, locals := 16 } : Room).slots (s₁.setTop (entryFrame m #[(.ref oa), (.ref ox)] 3))
  refine own_Fin.go (fun t k => castTop (own_ef_add m oa ox) k) ?_
  refine own_Fin.go (fun t k => XS.iconst X0.here hx rfl (hb hby own_dadd_0) k) ?_
  show own_Fin _ _ _ _ _ _ _ (s₁.setTop (mkF m 1 #[.val (.ref oa), .val (.ref ox), .unset] [(.int (0 : Int32))]))
  refine own_Fin.go (fun t k => XS.istoreN X0.here hx rfl (hb hby own_dadd_1) rfl (l' := #[.val (.ref oa), .val (.ref ox), .val (.int (0 : Int32))]) rfl k) ?_
  show own_Fin _ _ _ _ _ _ _ (s₁.setTop (mkF m 2 #[.val (.ref oa), .val (.ref ox), .val (.int (0 : Int32))] []))
  have JL : ∀ (kJ : Nat) (TJ : State) (LJ : List Loc) (hJ : Heap) (jJ : Nat), jJ + kJ = 3776 → Stand p l e ({ frames := 1, cells := 0, slots := 0, locals := 16 } : Room) s m #[(.ref oa), (.ref ox)] below meth c TJ LJ 0 0 → Fr n0 LJ → TJ.heap = hJ → n0 ≤ hJ.size → Keep h0 hJ [oa, ob] → Exa Z hJ oa "com/example/canopy/canopy/bench/LatencyHistogram" → Fld Z hJ oa "com/example/canopy/canopy/bench/LatencyHistogram" "counts" "[J" (.ref ob) → Fld Z hJ oa "com/example/canopy/canopy/bench/LatencyHistogram" "count" "J" (.long vn) → Fld Z hJ oa "com/example/canopy/canopy/bench/LatencyHistogram" "max" "J" (.long vm) → Arv Z hJ ob kb .long (3776 : Int32) (own_vs (own_mix cf cg jJ)) (.long (0 : Int64)) → Exa Z hJ ox "com/example/canopy/canopy/bench/LatencyHistogram" → Fld Z hJ ox "com/example/canopy/canopy/bench/LatencyHistogram" "counts" "[J" (.ref oy) → Fld Z hJ ox "com/example/canopy/canopy/bench/LatencyHistogram" "count" "J" (.long vo) → Fld Z hJ ox "com/example/canopy/canopy/bench/LatencyHistogram" "max" "J" (.long vp) → Arv Z hJ oy ky .long (3776 : Int32) (own_vs cg) (.long (0 : Int64)) → own_Fin p e below s (own_Q_add Z oa ox ob kb vn vm cf oy ky vo vp cg h0 n0) ({ frames := 1, cells := 0, slots := 0, locals := 16 } : Room).cells ({ frames := 1, cells := 0, slots := 0, locals := 16 } : Room).slots (TJ.setTop (mkF m 2 #[.val (.ref oa), .val (.ref ox), .val (.int (jJ).toInt32)] [])) := by
    intro kJ
    induction kJ with
    | zero =>
      intro TJ LJ hJ jJ hjk XJ NJ eJ ZJ KJ E_oa_J F_oa_counts_J F_oa_count_J F_oa_max_J V_ob_J E_ox_J F_ox_counts_J F_ox_count_J F_ox_max_J V_oy_J
      obtain rfl : jJ = 3776 := hjk
      refine own_Fin.go (fun t k => XS.iloadN XJ.here hx rfl (hb hby own_dadd_2) rfl k) ?_
      show own_Fin _ _ _ _ _ _ _ (TJ.setTop (mkF m 3 #[.val (.ref oa), .val (.ref ox), .val (.int (3776 : Nat).toInt32)] [(.int (3776 : Nat).toInt32)]))
      refine own_Fin.go (fun t k => XS.aloadN XJ.here hx rfl (hb hby own_dadd_3) rfl rfl k) ?_
      show own_Fin _ _ _ _ _ _ _ (TJ.setTop (mkF m 4 #[.val (.ref oa), .val (.ref ox), .val (.int (3776 : Nat).toInt32)] [(.ref oa), (.int (3776 : Nat).toInt32)]))
      obtain ⟨T1, X1, e1, st1⟩ := getF XJ hx hZ hown (host := "") (Or.inl (hw _ (List.mem_of_getElem? (i := 10) rfl))) Via.refl eJ F_oa_counts_J (g := (mkF m 4 #[.val (.ref oa), .val (.ref ox), .val (.int (3776 : Nat).toInt32)] [(.ref oa), (.int (3776 : Nat).toInt32)])) rfl rfl (hb hby own_dadd_4)
      refine own_Fin.go st1 ?_
      show own_Fin _ _ _ _ _ _ _ (T1.setTop (mkF m 7 #[.val (.ref oa), .val (.ref ox), .val (.int (3776 : Nat).toInt32)] [(.ref ob), (.int (3776 : Nat).toInt32)]))
      obtain ⟨cl2, Ar2, -, S2, N2l, -, -⟩ := (id V_ob_J)
      refine own_Fin.go (fun t k => X1.arraylength hx (by rw [e1]; exact Ar2.1) (State.isArrayOf_alike hZ.alike Ar2.2.1) (g := (mkF m 7 #[.val (.ref oa), .val (.ref ox), .val (.int (3776 : Nat).toInt32)] [(.ref ob), (.int (3776 : Nat).toInt32)])) rfl rfl (hb hby own_dadd_7) t k) ?_
      rw [len_of S2 N2l]
      show own_Fin _ _ _ _ _ _ _ (T1.setTop (mkF m 8 #[.val (.ref oa), .val (.ref ox), .val (.int (3776 : Nat).toInt32)] [(.int (3776 : Int32)), (.int (3776 : Nat).toInt32)]))
      have hc8 : ¬ ((3776 : Nat).toInt32 < (3776 : Int32)) := (by decide)
      refine own_Fin.go (fun t k => XS.icmpYes X1.here hx rfl (pc0 := 8) (pc' := 32) rfl (hb hby own_dadd_8) rfl (Jvm.Free.XT.ii_ge_t hc8) (by decide) (by decide) k) ?_
      show own_Fin _ _ _ _ _ _ _ (T1.setTop (mkF m 32 #[.val (.ref oa), .val (.ref ox), .val (.int (3776 : Nat).toInt32)] []))
      refine own_Fin.go (fun t k => XS.aloadN X1.here hx rfl (hb hby own_dadd_32) rfl rfl k) ?_
      show own_Fin _ _ _ _ _ _ _ (T1.setTop (mkF m 33 #[.val (.ref oa), .val (.ref ox), .val (.int (3776 : Nat).toInt32)] [(.ref oa)]))
      refine own_Fin.go (fun t k => XS.dup X1.here hx rfl (hb hby own_dadd_33) rfl rfl k) ?_
      show own_Fin _ _ _ _ _ _ _ (T1.setTop (mkF m 34 #[.val (.ref oa), .val (.ref ox), .val (.int (3776 : Nat).toInt32)] [(.ref oa), (.ref oa)]))
      obtain ⟨T3, X3, e3, st3⟩ := getF X1 hx hZ hown (host := "") (Or.inl (hw _ (List.mem_of_getElem? (i := 17) rfl))) Via.refl e1 F_oa_count_J (g := (mkF m 34 #[.val (.ref oa), .val (.ref ox), .val (.int (3776 : Nat).toInt32)] [(.ref oa), (.ref oa)])) rfl rfl (hb hby own_dadd_34)
      refine own_Fin.go st3 ?_
      show own_Fin _ _ _ _ _ _ _ (T3.setTop (mkF m 37 #[.val (.ref oa), .val (.ref ox), .val (.int (3776 : Nat).toInt32)] [(.long vn), (.ref oa)]))
      refine own_Fin.go (fun t k => XS.aloadN X3.here hx rfl (hb hby own_dadd_37) rfl rfl k) ?_
      show own_Fin _ _ _ _ _ _ _ (T3.setTop (mkF m 38 #[.val (.ref oa), .val (.ref ox), .val (.int (3776 : Nat).toInt32)] [(.ref ox), (.long vn), (.ref oa)]))
      obtain ⟨T4, X4, e4, st4⟩ := getF X3 hx hZ hown (host := "") (Or.inl (hw _ (List.mem_of_getElem? (i := 17) rfl))) Via.refl e3 F_ox_count_J (g := (mkF m 38 #[.val (.ref oa), .val (.ref ox), .val (.int (3776 : Nat).toInt32)] [(.ref ox), (.long vn), (.ref oa)])) rfl rfl (hb hby own_dadd_38)
      refine own_Fin.go st4 ?_
      show own_Fin _ _ _ _ _ _ _ (T4.setTop (mkF m 41 #[.val (.ref oa), .val (.ref ox), .val (.int (3776 : Nat).toInt32)] [(.long vo), (.long vn), (.ref oa)]))
      refine own_Fin.go (fun t k => XS.ladd X4.here hx rfl (hb hby own_dadd_41) rfl k) ?_
      show own_Fin _ _ _ _ _ _ _ (T4.setTop (mkF m 42 #[.val (.ref oa), .val (.ref ox), .val (.int (3776 : Nat).toInt32)] [(.long (vn + vo)), (.ref oa)]))
      obtain ⟨T5, h5, X5, e5, W5, st5⟩ := putF X4 hx hZ hown (host := "") (Or.inl (hw _ (List.mem_of_getElem? (i := 17) rfl))) Via.refl e4 F_oa_count_J E_oa_J (Or.inl (hw _ (List.mem_of_getElem? (i := 18) rfl))) (hw _ (List.mem_of_getElem? (i := 1) rfl)) (ty := .long) (by decide) rfl rfl (g := (mkF m 42 #[.val (.ref oa), .val (.ref ox), .val (.int (3776 : Nat).toInt32)] [(.long (vn + vo)), (.ref oa)])) rfl rfl (hb hby own_dadd_42)
      refine own_Fin.go st5 ?_
      have F_oa_count_5 := Fld.same W5 F_oa_count_J
      have E_oa_5 := Exa.wr W5 E_oa_J
      have F_oa_counts_5 := Fld.other W5 F_oa_counts_J (Or.inr (slot_ne (Or.inr (hw _ (List.mem_of_getElem? (i := 11) rfl))) (Or.inl (hw _ (List.mem_of_getElem? (i := 18) rfl))) (by decide) (t := (.array .long)) (t' := .long) (by decide) (by decide)))
      have F_oa_max_5 := Fld.other W5 F_oa_max_J (Or.inr (slot_ne (Or.inl (hw _ (List.mem_of_getElem? (i := 20) rfl))) (Or.inl (hw _ (List.mem_of_getElem? (i := 18) rfl))) (by decide) (t := .long) (t' := .long) (by decide) (by decide)))
      have V_ob_5 := Arv.other V_ob_J W5 (Ne.symm ne_oa_ob)
      have E_ox_5 := Exa.wr W5 E_ox_J
      have F_ox_counts_5 := Fld.other W5 F_ox_counts_J (Or.inl (Ne.symm ne_oa_ox))
      have F_ox_count_5 := Fld.other W5 F_ox_count_J (Or.inl (Ne.symm ne_oa_ox))
      have F_ox_max_5 := Fld.other W5 F_ox_max_J (Or.inl (Ne.symm ne_oa_ox))
      have V_oy_5 := Arv.other V_oy_J W5 (Ne.symm ne_oa_oy)
      have Z5 := Nat.le_trans ZJ (Keep.of_wr W5).1
      have K5 := KJ.wr W5 (Or.inl (List.mem_of_getElem? (i := 0) rfl))
      have N5 := Fr.snoc X5 NJ g_oa
      show own_Fin _ _ _ _ _ _ _ (T5.setTop (mkF m 45 #[.val (.ref oa), .val (.ref ox), .val (.int (3776 : Nat).toInt32)] []))
      refine own_Fin.go (fun t k => XS.aloadN X5.here hx rfl (hb hby own_dadd_45) rfl rfl k) ?_
      show own_Fin _ _ _ _ _ _ _ (T5.setTop (mkF m 46 #[.val (.ref oa), .val (.ref ox), .val (.int (3776 : Nat).toInt32)] [(.ref oa)]))
      refine own_Fin.go (fun t k => XS.aloadN X5.here hx rfl (hb hby own_dadd_46) rfl rfl k) ?_
      show own_Fin _ _ _ _ _ _ _ (T5.setTop (mkF m 47 #[.val (.ref oa), .val (.ref ox), .val (.int (3776 : Nat).toInt32)] [(.ref oa), (.ref oa)]))
      obtain ⟨T6, X6, e6, st6⟩ := getF X5 hx hZ hown (host := "") (Or.inl (hw _ (List.mem_of_getElem? (i := 19) rfl))) Via.refl e5 F_oa_max_5 (g := (mkF m 47 #[.val (.ref oa), .val (.ref ox), .val (.int (3776 : Nat).toInt32)] [(.ref oa), (.ref oa)])) rfl rfl (hb hby own_dadd_47)
      refine own_Fin.go st6 ?_
      show own_Fin _ _ _ _ _ _ _ (T6.setTop (mkF m 50 #[.val (.ref oa), .val (.ref ox), .val (.int (3776 : Nat).toInt32)] [(.long vm), (.ref oa)]))
      refine own_Fin.go (fun t k => XS.aloadN X6.here hx rfl (hb hby own_dadd_50) rfl rfl k) ?_
      show own_Fin _ _ _ _ _ _ _ (T6.setTop (mkF m 51 #[.val (.ref oa), .val (.ref ox), .val (.int (3776 : Nat).toInt32)] [(.ref ox), (.long vm), (.ref oa)]))
      obtain ⟨T7, X7, e7, st7⟩ := getF X6 hx hZ hown (host := "") (Or.inl (hw _ (List.mem_of_getElem? (i := 19) rfl))) Via.refl e6 F_ox_max_5 (g := (mkF m 51 #[.val (.ref oa), .val (.ref ox), .val (.int (3776 : Nat).toInt32)] [(.ref ox), (.long vm), (.ref oa)])) rfl rfl (hb hby own_dadd_51)
      refine own_Fin.go st7 ?_
      show own_Fin _ _ _ _ _ _ _ (T7.setTop (mkF m 54 #[.val (.ref oa), .val (.ref ox), .val (.int (3776 : Nat).toInt32)] [(.long vp), (.long vm), (.ref oa)]))
      obtain ⟨_, _, ⟨T8, L8, k8, n8⟩, -, X8, ⟨Lc8, hQ8, l8, y8, z8⟩, st8⟩ := Jvm.LawKit.callS X7 hx (y := (⟨"java/lang/Math", "max", "(JJ)J"⟩ : MethodName)) hown (mvT hZ (hw _ (List.mem_of_getElem? (i := 21) rfl))) (mvT hZ (hw _ (List.mem_of_getElem? (i := 22) rfl))) (mvT hZ (hw _ (List.mem_of_getElem? (i := 23) rfl))) (mvT hZ (hw _ (List.mem_of_getElem? (i := 24) rfl))) (by decide) (backOf (W := 1) (own_rm_mx l Z a0 hw [] vm vp  h5 n0 Z5 ) hZ (hw _ (List.mem_of_getElem? (i := 24) rfl)) (hw _ (List.mem_of_getElem? (i := 23) rfl)) (by decide) (by decide)) (g := (mkF m 54 #[.val (.ref oa), .val (.ref ox), .val (.int (3776 : Nat).toInt32)] [(.long vp), (.long vm), (.ref oa)])) rfl (by rw [hml]; rfl) (argsL := [(.long vm), (.long vp)]) (rest := [(.ref oa)]) (lenOf own_pd2 rfl) rfl (by show 2 * 0 + _ ≤ _; exact Nat.le_of_eq rfl) (hb hby own_dadd_54) (fun _ _ => ⟨rfl, e7, (by decide : 0 + 0 ≤ _), (by decide : 0 + 0 ≤ _)⟩)
      dsimp only [Pt.U, Pt.locs, Pt.cells, Pt.slots] at X8 l8 y8 z8 st8 hQ8
      subst l8 y8 z8
      obtain ⟨rfl, N8q, e8⟩ := hQ8
      refine own_Fin.go (fun t k => st8 t k) ?_
      have N8 := Fr.app N5 N8q
      show own_Fin _ _ _ _ _ _ _ (T8.setTop (mkF m 57 #[.val (.ref oa), .val (.ref ox), .val (.int (3776 : Nat).toInt32)] [(.long (own_mx vm vp)), (.ref oa)]))
      obtain ⟨T9, h9, X9, e9, W9, st9⟩ := putF X8 hx hZ hown (host := "") (Or.inl (hw _ (List.mem_of_getElem? (i := 19) rfl))) Via.refl e8 F_oa_max_5 E_oa_5 (Or.inl (hw _ (List.mem_of_getElem? (i := 20) rfl))) (hw _ (List.mem_of_getElem? (i := 1) rfl)) (ty := .long) (by decide) rfl rfl (g := (mkF m 57 #[.val (.ref oa), .val (.ref ox), .val (.int (3776 : Nat).toInt32)] [(.long (own_mx vm vp)), (.ref oa)])) rfl rfl (hb hby own_dadd_57)
      refine own_Fin.go st9 ?_
      have F_oa_max_9 := Fld.same W9 F_oa_max_5
      have E_oa_9 := Exa.wr W9 E_oa_5
      have F_oa_counts_9 := Fld.other W9 F_oa_counts_5 (Or.inr (slot_ne (Or.inr (hw _ (List.mem_of_getElem? (i := 11) rfl))) (Or.inl (hw _ (List.mem_of_getElem? (i := 20) rfl))) (by decide) (t := (.array .long)) (t' := .long) (by decide) (by decide)))
      have F_oa_count_9 := Fld.other W9 F_oa_count_5 (Or.inr (slot_ne (Or.inl (hw _ (List.mem_of_getElem? (i := 18) rfl))) (Or.inl (hw _ (List.mem_of_getElem? (i := 20) rfl))) (by decide) (t := .long) (t' := .long) (by decide) (by decide)))
      have V_ob_9 := Arv.other V_ob_5 W9 (Ne.symm ne_oa_ob)
      have E_ox_9 := Exa.wr W9 E_ox_5
      have F_ox_counts_9 := Fld.other W9 F_ox_counts_5 (Or.inl (Ne.symm ne_oa_ox))
      have F_ox_count_9 := Fld.other W9 F_ox_count_5 (Or.inl (Ne.symm ne_oa_ox))
      have F_ox_max_9 := Fld.other W9 F_ox_max_5 (Or.inl (Ne.symm ne_oa_ox))
      have V_oy_9 := Arv.other V_oy_5 W9 (Ne.symm ne_oa_oy)
      have Z9 := Nat.le_trans Z5 (Keep.of_wr W9).1
      have K9 := K5.wr W9 (Or.inl (List.mem_of_getElem? (i := 0) rfl))
      have N9 := Fr.snoc X9 N8 g_oa
      show own_Fin _ _ _ _ _ _ _ (T9.setTop (mkF m 60 #[.val (.ref oa), .val (.ref ox), .val (.int (3776 : Nat).toInt32)] []))
      refine own_ret0 X9 hx Bd.returns (hb hby own_dadd_60) Bd.notSynchronized (by decide) (by decide) ?_
      rw [e9]
      exact ⟨rfl, N9, K9, E_oa_9, F_oa_counts_9, F_oa_count_9, F_oa_max_9, V_ob_9⟩
    | succ kJ ih =>
      intro TJ LJ hJ jJ hjk XJ NJ eJ ZJ KJ E_oa_J F_oa_counts_J F_oa_count_J F_oa_max_J V_ob_J E_ox_J F_ox_counts_J F_ox_count_J F_ox_max_J V_oy_J
      refine own_Fin.go (fun t k => XS.iloadN XJ.here hx rfl (hb hby own_dadd_2) rfl k) ?_
      show own_Fin _ _ _ _ _ _ _ (TJ.setTop (mkF m 3 #[.val (.ref oa), .val (.ref ox), .val (.int (jJ).toInt32)] [(.int (jJ).toInt32)]))
      refine own_Fin.go (fun t k => XS.aloadN XJ.here hx rfl (hb hby own_dadd_3) rfl rfl k) ?_
      show own_Fin _ _ _ _ _ _ _ (TJ.setTop (mkF m 4 #[.val (.ref oa), .val (.ref ox), .val (.int (jJ).toInt32)] [(.ref oa), (.int (jJ).toInt32)]))
      obtain ⟨T10, X10, e10, st10⟩ := getF XJ hx hZ hown (host := "") (Or.inl (hw _ (List.mem_of_getElem? (i := 10) rfl))) Via.refl eJ F_oa_counts_J (g := (mkF m 4 #[.val (.ref oa), .val (.ref ox), .val (.int (jJ).toInt32)] [(.ref oa), (.int (jJ).toInt32)])) rfl rfl (hb hby own_dadd_4)
      refine own_Fin.go st10 ?_
      show own_Fin _ _ _ _ _ _ _ (T10.setTop (mkF m 7 #[.val (.ref oa), .val (.ref ox), .val (.int (jJ).toInt32)] [(.ref ob), (.int (jJ).toInt32)]))
      obtain ⟨cl11, Ar11, -, S11, N11l, -, -⟩ := (id V_ob_J)
      refine own_Fin.go (fun t k => X10.arraylength hx (by rw [e10]; exact Ar11.1) (State.isArrayOf_alike hZ.alike Ar11.2.1) (g := (mkF m 7 #[.val (.ref oa), .val (.ref ox), .val (.int (jJ).toInt32)] [(.ref ob), (.int (jJ).toInt32)])) rfl rfl (hb hby own_dadd_7) t k) ?_
      rw [len_of S11 N11l]
      show own_Fin _ _ _ _ _ _ _ (T10.setTop (mkF m 8 #[.val (.ref oa), .val (.ref ox), .val (.int (jJ).toInt32)] [(.int (3776 : Int32)), (.int (jJ).toInt32)]))
      have hc8 : (jJ).toInt32 < (3776 : Int32) := own_jlt hjk
      refine own_Fin.go (fun t k => XS.icmpNo X10.here hx rfl (hb hby own_dadd_8) rfl (Jvm.Free.XT.ii_ge_f hc8) k) ?_
      show own_Fin _ _ _ _ _ _ _ (T10.setTop (mkF m 11 #[.val (.ref oa), .val (.ref ox), .val (.int (jJ).toInt32)] []))
      refine own_Fin.go (fun t k => XS.aloadN X10.here hx rfl (hb hby own_dadd_11) rfl rfl k) ?_
      show own_Fin _ _ _ _ _ _ _ (T10.setTop (mkF m 12 #[.val (.ref oa), .val (.ref ox), .val (.int (jJ).toInt32)] [(.ref oa)]))
      obtain ⟨T12, X12, e12, st12⟩ := getF X10 hx hZ hown (host := "") (Or.inl (hw _ (List.mem_of_getElem? (i := 10) rfl))) Via.refl e10 F_oa_counts_J (g := (mkF m 12 #[.val (.ref oa), .val (.ref ox), .val (.int (jJ).toInt32)] [(.ref oa)])) rfl rfl (hb hby own_dadd_12)
      refine own_Fin.go st12 ?_
      show own_Fin _ _ _ _ _ _ _ (T12.setTop (mkF m 15 #[.val (.ref oa), .val (.ref ox), .val (.int (jJ).toInt32)] [(.ref ob)]))
      refine own_Fin.go (fun t k => XS.iloadN X12.here hx rfl (hb hby own_dadd_15) rfl k) ?_
      show own_Fin _ _ _ _ _ _ _ (T12.setTop (mkF m 16 #[.val (.ref oa), .val (.ref ox), .val (.int (jJ).toInt32)] [(.int (jJ).toInt32), (.ref ob)]))
      refine own_Fin.go (fun t k => Jvm.Free.XT.dup2 X12.here hx rfl (hb hby own_dadd_16) rfl rfl rfl k) ?_
      show own_Fin _ _ _ _ _ _ _ (T12.setTop (mkF m 17 #[.val (.ref oa), .val (.ref ox), .val (.int (jJ).toInt32)] [(.int (jJ).toInt32), (.ref ob), (.int (jJ).toInt32), (.ref ob)]))
      obtain ⟨cl13, Ar13, q13, S13, N13l, H13, G13⟩ := (id V_ob_J)
      have hin13 : ¬ ((jJ).toInt32 < 0 ∨ cl13.slots.size ≤ ((jJ).toInt32).toNatClampNeg) := inb_of S13 (own_jq hjk)
      have hat13 : cl13.slots[((jJ).toInt32).toNatClampNeg]? = some (.long (own_mix cf cg jJ jJ)) := Has.at H13 hin13 (own_vsJ _ _ hjk)
      refine own_Fin.go (fun t k => X12.laload hx (j := (jJ).toInt32) (v := (.long (own_mix cf cg jJ jJ))) (by rw [e12]; exact Ar13.1) (State.isArrayOf_alike hZ.alike Ar13.2.1) Ar13.2.2 hin13 hat13 (g := (mkF m 17 #[.val (.ref oa), .val (.ref ox), .val (.int (jJ).toInt32)] [(.int (jJ).toInt32), (.ref ob), (.int (jJ).toInt32), (.ref ob)])) rfl rfl (hb hby own_dadd_17) t k) ?_
      show own_Fin _ _ _ _ _ _ _ (T12.setTop (mkF m 18 #[.val (.ref oa), .val (.ref ox), .val (.int (jJ).toInt32)] [(.long (own_mix cf cg jJ jJ)), (.int (jJ).toInt32), (.ref ob)]))
      refine own_Fin.go (fun t k => XS.aloadN X12.here hx rfl (hb hby own_dadd_18) rfl rfl k) ?_
      show own_Fin _ _ _ _ _ _ _ (T12.setTop (mkF m 19 #[.val (.ref oa), .val (.ref ox), .val (.int (jJ).toInt32)] [(.ref ox), (.long (own_mix cf cg jJ jJ)), (.int (jJ).toInt32), (.ref ob)]))
      obtain ⟨T14, X14, e14, st14⟩ := getF X12 hx hZ hown (host := "") (Or.inl (hw _ (List.mem_of_getElem? (i := 10) rfl))) Via.refl e12 F_ox_counts_J (g := (mkF m 19 #[.val (.ref oa), .val (.ref ox), .val (.int (jJ).toInt32)] [(.ref ox), (.long (own_mix cf cg jJ jJ)), (.int (jJ).toInt32), (.ref ob)])) rfl rfl (hb hby own_dadd_19)
      refine own_Fin.go st14 ?_
      show own_Fin _ _ _ _ _ _ _ (T14.setTop (mkF m 22 #[.val (.ref oa), .val (.ref ox), .val (.int (jJ).toInt32)] [(.ref oy), (.long (own_mix cf cg jJ jJ)), (.int (jJ).toInt32), (.ref ob)]))
      refine own_Fin.go (fun t k => XS.iloadN X14.here hx rfl (hb hby own_dadd_22) rfl k) ?_
      show own_Fin _ _ _ _ _ _ _ (T14.setTop (mkF m 23 #[.val (.ref oa), .val (.ref ox), .val (.int (jJ).toInt32)] [(.int (jJ).toInt32), (.ref oy), (.long (own_mix cf cg jJ jJ)), (.int (jJ).toInt32), (.ref ob)]))
      obtain ⟨cl15, Ar15, q15, S15, N15l, H15, G15⟩ := (id V_oy_J)
      have hin15 : ¬ ((jJ).toInt32 < 0 ∨ cl15.slots.size ≤ ((jJ).toInt32).toNatClampNeg) := inb_of S15 (own_jq hjk)
      have hat15 : cl15.slots[((jJ).toInt32).toNatClampNeg]? = some (.long (cg jJ)) := Has.at H15 hin15 (own_vsJ _ _ hjk)
      refine own_Fin.go (fun t k => X14.laload hx (j := (jJ).toInt32) (v := (.long (cg jJ))) (by rw [e14]; exact Ar15.1) (State.isArrayOf_alike hZ.alike Ar15.2.1) Ar15.2.2 hin15 hat15 (g := (mkF m 23 #[.val (.ref oa), .val (.ref ox), .val (.int (jJ).toInt32)] [(.int (jJ).toInt32), (.ref oy), (.long (own_mix cf cg jJ jJ)), (.int (jJ).toInt32), (.ref ob)])) rfl rfl (hb hby own_dadd_23) t k) ?_
      show own_Fin _ _ _ _ _ _ _ (T14.setTop (mkF m 24 #[.val (.ref oa), .val (.ref ox), .val (.int (jJ).toInt32)] [(.long (cg jJ)), (.long (own_mix cf cg jJ jJ)), (.int (jJ).toInt32), (.ref ob)]))
      refine own_Fin.go (fun t k => XS.ladd X14.here hx rfl (hb hby own_dadd_24) rfl k) ?_
      show own_Fin _ _ _ _ _ _ _ (T14.setTop (mkF m 25 #[.val (.ref oa), .val (.ref ox), .val (.int (jJ).toInt32)] [(.long ((own_mix cf cg jJ jJ) + (cg jJ))), (.int (jJ).toInt32), (.ref ob)]))
      obtain ⟨cl16, Ar16, q16, S16, N16l, H16, G16⟩ := (id V_ob_J)
      have hin16 : ¬ ((jJ).toInt32 < 0 ∨ cl16.slots.size ≤ ((jJ).toInt32).toNatClampNeg) := inb_of S16 (own_jq hjk)
      obtain ⟨T16, h16, X16, e16, W16, st16⟩ := stJ X14 hx hZ e14 Ar16 (j := (jJ).toInt32) hin16 (g := (mkF m 25 #[.val (.ref oa), .val (.ref ox), .val (.int (jJ).toInt32)] [(.long ((own_mix cf cg jJ jJ) + (cg jJ))), (.int (jJ).toInt32), (.ref ob)])) rfl rfl (hb hby own_dadd_25)
      refine own_Fin.go st16 ?_
      have V_ob_16 : Arv Z h16 ob kb .long (3776 : Int32) (own_vs (own_mix cf cg (jJ + 1))) (.long (0 : Int64)) := own_setJ V_ob_J W16 hjk
      have E_oa_16 := Exa.wr W16 E_oa_J
      have F_oa_counts_16 := Fld.other W16 F_oa_counts_J (Or.inl ne_oa_ob)
      have F_oa_count_16 := Fld.other W16 F_oa_count_J (Or.inl ne_oa_ob)
      have F_oa_max_16 := Fld.other W16 F_oa_max_J (Or.inl ne_oa_ob)
      have E_ox_16 := Exa.wr W16 E_ox_J
      have F_ox_counts_16 := Fld.other W16 F_ox_counts_J (Or.inl ne_ox_ob)
      have F_ox_count_16 := Fld.other W16 F_ox_count_J (Or.inl ne_ox_ob)
      have F_ox_max_16 := Fld.other W16 F_ox_max_J (Or.inl ne_ox_ob)
      have V_oy_16 := Arv.other V_oy_J W16 ne_oy_ob
      have Z16 := Nat.le_trans ZJ (Keep.of_wr W16).1
      have K16 := KJ.wr W16 (Or.inl (List.mem_of_getElem? (i := 1) rfl))
      have N16 := Fr.snoc X16 NJ g_ob
      show own_Fin _ _ _ _ _ _ _ (T16.setTop (mkF m 26 #[.val (.ref oa), .val (.ref ox), .val (.int (jJ).toInt32)] []))
      refine own_Fin.go (fun t k => XS.iinc X16.here hx rfl (hb hby own_dadd_26) rfl (l' := #[.val (.ref oa), .val (.ref ox), .val (.int ((jJ).toInt32 + (1 : Int32)))]) rfl k) ?_
      show own_Fin _ _ _ _ _ _ _ (T16.setTop (mkF m 29 #[.val (.ref oa), .val (.ref ox), .val (.int ((jJ).toInt32 + (1 : Int32)))] []))
      refine own_Fin.go (fun t k => XS.goto X16.here hx rfl (pc0 := 29) (pc' := 2) rfl (hb hby own_dadd_29) (by decide) (by decide) k) ?_
      show own_Fin _ _ _ _ _ _ _ (T16.setTop (mkF m 2 #[.val (.ref oa), .val (.ref ox), .val (.int ((jJ).toInt32 + (1 : Int32)))] []))
      rw [own_inc hjk]
      exact ih T16 _ h16 (jJ + 1) (by omega) X16 N16 e16 Z16 K16 E_oa_16 F_oa_counts_16 F_oa_count_16 F_oa_max_16 V_ob_16 E_ox_16 F_ox_counts_16 F_ox_count_16 F_ox_max_16 V_oy_16
  exact JL 3776 s₁ _ h0 0 rfl X0 N0 e0 Z0 K0 E_oa F_oa_counts F_oa_count F_oa_max (by rw [own_mix0]; exact V_ob) E_ox F_ox_counts F_ox_count F_ox_max V_oy
theorem own_pd3 : parseMethodDescriptor "(I)J" = some ⟨[.int], some .long⟩ := by decide +kernel
theorem own_dpct_0 : decode prog_3_method_6_code 0 = .ok (.aload_n 0, 1) := by decide +kernel
theorem own_dpct_1 : decode prog_3_method_6_code 1 = .ok (.getfield 25, 3) := by decide +kernel
theorem own_dpct_4 : decode prog_3_method_6_code 4 = .ok (.lconst 0, 1) := by decide +kernel
theorem own_dpct_5 : decode prog_3_method_6_code 5 = .ok (.lcmp, 1) := by decide +kernel
theorem own_dpct_6 : decode prog_3_method_6_code 6 = .ok (.ifCond .ne 5, 3) := by decide +kernel
theorem own_dpct_9 : decode prog_3_method_6_code 9 = .ok (.lconst 0, 1) := by decide +kernel
theorem own_dpct_10 : decode prog_3_method_6_code 10 = .ok (.lreturn, 1) := by decide +kernel
theorem own_dpct_11 : decode prog_3_method_6_code 11 = .ok (.lconst 1, 1) := by decide +kernel
theorem own_dpct_12 : decode prog_3_method_6_code 12 = .ok (.dload_n 1, 1) := by decide +kernel
theorem own_dpct_13 : decode prog_3_method_6_code 13 = .ok (.aload_n 0, 1) := by decide +kernel
theorem own_dpct_14 : decode prog_3_method_6_code 14 = .ok (.getfield 25, 3) := by decide +kernel
theorem own_dpct_17 : decode prog_3_method_6_code 17 = .ok (.l2d, 1) := by decide +kernel
theorem own_dpct_18 : decode prog_3_method_6_code 18 = .ok (.dmul, 1) := by decide +kernel
theorem own_dpct_19 : decode prog_3_method_6_code 19 = .ok (.invokestatic 31, 3) := by decide +kernel
theorem own_dpct_22 : decode prog_3_method_6_code 22 = .ok (.d2l, 1) := by decide +kernel
theorem own_dpct_23 : decode prog_3_method_6_code 23 = .ok (.invokestatic 15, 3) := by decide +kernel
theorem own_dpct_26 : decode prog_3_method_6_code 26 = .ok (.lstore_n 3, 1) := by decide +kernel
theorem own_dpct_27 : decode prog_3_method_6_code 27 = .ok (.lconst 0, 1) := by decide +kernel
theorem own_dpct_28 : decode prog_3_method_6_code 28 = .ok (.lstore 5, 2) := by decide +kernel
theorem own_dpct_30 : decode prog_3_method_6_code 30 = .ok (.iconst 0, 1) := by decide +kernel
theorem own_dpct_31 : decode prog_3_method_6_code 31 = .ok (.istore 7, 2) := by decide +kernel
theorem own_dpct_33 : decode prog_3_method_6_code 33 = .ok (.iload 7, 2) := by decide +kernel
theorem own_dpct_35 : decode prog_3_method_6_code 35 = .ok (.aload_n 0, 1) := by decide +kernel
theorem own_dpct_36 : decode prog_3_method_6_code 36 = .ok (.getfield 11, 3) := by decide +kernel
theorem own_dpct_39 : decode prog_3_method_6_code 39 = .ok (.arraylength, 1) := by decide +kernel
theorem own_dpct_40 : decode prog_3_method_6_code 40 = .ok (.if_icmp .ge 41, 3) := by decide +kernel
theorem own_dpct_43 : decode prog_3_method_6_code 43 = .ok (.lload 5, 2) := by decide +kernel
theorem own_dpct_45 : decode prog_3_method_6_code 45 = .ok (.aload_n 0, 1) := by decide +kernel
theorem own_dpct_46 : decode prog_3_method_6_code 46 = .ok (.getfield 11, 3) := by decide +kernel
theorem own_dpct_49 : decode prog_3_method_6_code 49 = .ok (.iload 7, 2) := by decide +kernel
theorem own_dpct_51 : decode prog_3_method_6_code 51 = .ok (.laload, 1) := by decide +kernel
theorem own_dpct_52 : decode prog_3_method_6_code 52 = .ok (.ladd, 1) := by decide +kernel
theorem own_dpct_53 : decode prog_3_method_6_code 53 = .ok (.lstore 5, 2) := by decide +kernel
theorem own_dpct_55 : decode prog_3_method_6_code 55 = .ok (.lload 5, 2) := by decide +kernel
theorem own_dpct_57 : decode prog_3_method_6_code 57 = .ok (.lload_n 3, 1) := by decide +kernel
theorem own_dpct_58 : decode prog_3_method_6_code 58 = .ok (.lcmp, 1) := by decide +kernel
theorem own_dpct_59 : decode prog_3_method_6_code 59 = .ok (.ifCond .lt 16, 3) := by decide +kernel
theorem own_dpct_62 : decode prog_3_method_6_code 62 = .ok (.iload 7, 2) := by decide +kernel
theorem own_dpct_64 : decode prog_3_method_6_code 64 = .ok (.invokestatic 35, 3) := by decide +kernel
theorem own_dpct_67 : decode prog_3_method_6_code 67 = .ok (.aload_n 0, 1) := by decide +kernel
theorem own_dpct_68 : decode prog_3_method_6_code 68 = .ok (.getfield 29, 3) := by decide +kernel
theorem own_dpct_71 : decode prog_3_method_6_code 71 = .ok (.invokestatic 39, 3) := by decide +kernel
theorem own_dpct_74 : decode prog_3_method_6_code 74 = .ok (.lreturn, 1) := by decide +kernel
theorem own_dpct_75 : decode prog_3_method_6_code 75 = .ok (.iinc 7 1, 3) := by decide +kernel
theorem own_dpct_78 : decode prog_3_method_6_code 78 = .ok (.goto (-45), 3) := by decide +kernel
theorem own_dpct_81 : decode prog_3_method_6_code 81 = .ok (.aload_n 0, 1) := by decide +kernel
theorem own_dpct_82 : decode prog_3_method_6_code 82 = .ok (.getfield 29, 3) := by decide +kernel
theorem own_dpct_85 : decode prog_3_method_6_code 85 = .ok (.lreturn, 1) := by decide +kernel
theorem own_ef_pct (m : MethodId) (oa : Addr) : entryFrame m #[(.ref oa), (.double Jvm.FP.dconst0)] 8 = mkF m 0 #[.val (.ref oa), .val (.double Jvm.FP.dconst0), .second, .unset, .unset, .unset, .unset, .unset] [] := by first | (simp [entryFrame, mkF, argsToLocals, Value.category]; done) | rfl
def own_Q_pct (Z : State) (oa : Addr) (ob : Addr) (kb : ClassId) (vn : Int64) (vm : Int64) (cf : Nat → Int64) (h0 : Heap) (n0 : Nat) (v : Option Value) (h : Heap) (L : List Loc) : Prop := v = some (.long (own_pct cf vn vm)) ∧ Fr n0 L ∧ h = h0
set_option maxRecDepth 65536 in
set_option maxHeartbeats 40000000 in
theorem own_rm_pct (l : Launch) (Z : State) (a0 : Array Value) (hw : ∀ d ∈ tables_1, d.before a0 Z = true) (ws : List Jvm.Cond) (oa : Addr) (ob : Addr) (kb : ClassId) (vn : Int64) (vm : Int64) (cf : Nat → Int64) (h0 : Heap) (n0 : Nat) (Z0 : n0 ≤ h0.size) (E_oa : Exa Z h0 oa "com/example/canopy/canopy/bench/LatencyHistogram") (F_oa_counts : Fld Z h0 oa "com/example/canopy/canopy/bench/LatencyHistogram" "counts" "[J" (.ref ob)) (F_oa_count : Fld Z h0 oa "com/example/canopy/canopy/bench/LatencyHistogram" "count" "J" (.long vn)) (F_oa_max : Fld Z h0 oa "com/example/canopy/canopy/bench/LatencyHistogram" "max" "J" (.long vm)) (V_ob : Arv Z h0 ob kb .long (3776 : Int32) (own_vs cf) (.long (0 : Int64))) (hn : vn = 0 ∨ vn = 1 ∨ vn = 2) :
    MetFree l (⟨"com/example/canopy/canopy/bench/LatencyHistogram", "percentile", "(D)J"⟩ : MethodName) (head1 (Jvm.Cond.code (⟨"com/example/canopy/canopy/bench/LatencyHistogram", "percentile", "(D)J"⟩ : MethodName) prog_3_method_6_code 8 (some .long) :: ws) ({ frames := 5, cells := 0, slots := 0, locals := 69 } : Room)) (fun a U => a = #[(.ref oa), (.double Jvm.FP.dconst0)] ∧ Z.Warmed39 U.vm ∧ U.heap = h0) (fun _ _ _ _ _ => True) (fun _ U o U' => ∃ v L, o = .returned v ∧ own_Q_pct Z oa ob kb vn vm cf h0 n0 v U'.heap L ∧ FrameEnd U o U' L ({ frames := 5, cells := 0, slots := 0, locals := 69 } : Room).cells ({ frames := 5, cells := 0, slots := 0, locals := 69 } : Room).slots) := by
  refine MetFree.of_bodySF (plainFor_of_name own_pn2) hisR ?_
  intro p e s m args below meth c s₁ Bd hml0 hP hK
  obtain ⟨rfl, hZ, hh⟩ := hP
  have hx := Bd.exec
  have hby := Bd.bytes
  have hml : c.maxLocals = 8 := hml0
  have hown : s.vm.findClass "com/example/canopy/canopy/bench/LatencyHistogram" = some m.cls := findClass_of_methodNamed Bd.named
  have hnm := (name_of_methodNamed Bd.named Bd.method).1
  have X0 : Stand p l e ({ frames := 5, cells := 0, slots := 0, locals := 69 } : Room) s m #[(.ref oa), (.double Jvm.FP.dconst0)] below meth c s₁ [] 0 0 := Stand.of_body Bd
  have e0 : s₁.heap = h0 := by rw [← hh, Bd.state]; rfl
  have N0 := Fr.nil n0
  show own_Fin p e below s (own_Q_pct Z oa ob kb vn vm cf h0 n0) ({ frames := 5, cells := 0, slots := 0, locals := 69 } : Room).cells ({ frames := 5, cells := 0, slots := 0, locals := 69 } : Room).slots (s₁.setTop (entryFrame m #[(.ref oa), (.double Jvm.FP.dconst0)] 8))
  refine own_Fin.go (fun t k => castTop (own_ef_pct m oa) k) ?_
  refine own_Fin.go (fun t k => XS.aloadN X0.here hx rfl (hb hby own_dpct_0) rfl rfl k) ?_
  show own_Fin _ _ _ _ _ _ _ (s₁.setTop (mkF m 1 #[.val (.ref oa), .val (.double Jvm.FP.dconst0), .second, .unset, .unset, .unset, .unset, .unset] [(.ref oa)]))
  obtain ⟨T1, X1, e1, st1⟩ := getF X0 hx hZ hown (host := "") (Or.inl (hw _ (List.mem_of_getElem? (i := 17) rfl))) Via.refl e0 F_oa_count (g := (mkF m 1 #[.val (.ref oa), .val (.double Jvm.FP.dconst0), .second, .unset, .unset, .unset, .unset, .unset] [(.ref oa)])) rfl rfl (hb hby own_dpct_1)
  refine own_Fin.go st1 ?_
  show own_Fin _ _ _ _ _ _ _ (T1.setTop (mkF m 4 #[.val (.ref oa), .val (.double Jvm.FP.dconst0), .second, .unset, .unset, .unset, .unset, .unset] [(.long vn)]))
  refine own_Fin.go (fun t k => XS.lconst X1.here hx rfl (hb hby own_dpct_4) k) ?_
  show own_Fin _ _ _ _ _ _ _ (T1.setTop (mkF m 5 #[.val (.ref oa), .val (.double Jvm.FP.dconst0), .second, .unset, .unset, .unset, .unset, .unset] [(.long (0 : Int64)), (.long vn)]))
  refine own_Fin.go (fun t k => XS.lcmp X1.here hx rfl (hb hby own_dpct_5) rfl k) ?_
  show own_Fin _ _ _ _ _ _ _ (T1.setTop (mkF m 6 #[.val (.ref oa), .val (.double Jvm.FP.dconst0), .second, .unset, .unset, .unset, .unset, .unset] [(.int (lcmpW vn (0 : Int64)))]))
  by_cases hc6 : vn = (0 : Int64)
  · refine own_Fin.go (fun t k => XS.ifNo X1.here hx rfl (hb hby own_dpct_6) rfl (Jvm.Free.XT.ll_ne_f hc6) k) ?_
    show own_Fin _ _ _ _ _ _ _ (T1.setTop (mkF m 9 #[.val (.ref oa), .val (.double Jvm.FP.dconst0), .second, .unset, .unset, .unset, .unset, .unset] []))
    refine own_Fin.go (fun t k => XS.lconst X1.here hx rfl (hb hby own_dpct_9) k) ?_
    show own_Fin _ _ _ _ _ _ _ (T1.setTop (mkF m 10 #[.val (.ref oa), .val (.double Jvm.FP.dconst0), .second, .unset, .unset, .unset, .unset, .unset] [(.long (0 : Int64))]))
    refine own_retJ X1 hx Bd.returns (hb hby own_dpct_10) Bd.notSynchronized (by decide) (by decide) ?_
    rw [e1]
    exact ⟨by simp only [own_pct, if_pos hc6], N0, rfl⟩
  · refine own_Fin.go (fun t k => XS.ifYes X1.here hx rfl (pc0 := 6) (pc' := 11) rfl (hb hby own_dpct_6) rfl (Jvm.Free.XT.ll_ne_t hc6) (by decide) (by decide) k) ?_
    show own_Fin _ _ _ _ _ _ _ (T1.setTop (mkF m 11 #[.val (.ref oa), .val (.double Jvm.FP.dconst0), .second, .unset, .unset, .unset, .unset, .unset] []))
    refine own_Fin.go (fun t k => XS.lconst X1.here hx rfl (hb hby own_dpct_11) k) ?_
    show own_Fin _ _ _ _ _ _ _ (T1.setTop (mkF m 12 #[.val (.ref oa), .val (.double Jvm.FP.dconst0), .second, .unset, .unset, .unset, .unset, .unset] [(.long (1 : Int64))]))
    refine own_Fin.go (fun t k => XS.dloadN X1.here hx rfl (hb hby own_dpct_12) rfl k) ?_
    show own_Fin _ _ _ _ _ _ _ (T1.setTop (mkF m 13 #[.val (.ref oa), .val (.double Jvm.FP.dconst0), .second, .unset, .unset, .unset, .unset, .unset] [(.double Jvm.FP.dconst0), (.long (1 : Int64))]))
    refine own_Fin.go (fun t k => XS.aloadN X1.here hx rfl (hb hby own_dpct_13) rfl rfl k) ?_
    show own_Fin _ _ _ _ _ _ _ (T1.setTop (mkF m 14 #[.val (.ref oa), .val (.double Jvm.FP.dconst0), .second, .unset, .unset, .unset, .unset, .unset] [(.ref oa), (.double Jvm.FP.dconst0), (.long (1 : Int64))]))
    obtain ⟨T2, X2, e2, st2⟩ := getF X1 hx hZ hown (host := "") (Or.inl (hw _ (List.mem_of_getElem? (i := 17) rfl))) Via.refl e1 F_oa_count (g := (mkF m 14 #[.val (.ref oa), .val (.double Jvm.FP.dconst0), .second, .unset, .unset, .unset, .unset, .unset] [(.ref oa), (.double Jvm.FP.dconst0), (.long (1 : Int64))])) rfl rfl (hb hby own_dpct_14)
    refine own_Fin.go st2 ?_
    show own_Fin _ _ _ _ _ _ _ (T2.setTop (mkF m 17 #[.val (.ref oa), .val (.double Jvm.FP.dconst0), .second, .unset, .unset, .unset, .unset, .unset] [(.long vn), (.double Jvm.FP.dconst0), (.long (1 : Int64))]))
    refine own_Fin.go (fun t k => XS.l2dS X2.here hx rfl (hb hby own_dpct_17) rfl rfl k) ?_
    show own_Fin _ _ _ _ _ _ _ (T2.setTop (mkF m 18 #[.val (.ref oa), .val (.double Jvm.FP.dconst0), .second, .unset, .unset, .unset, .unset, .unset] [(.double (Jvm.FP.l2d vn)), (.double Jvm.FP.dconst0), (.long (1 : Int64))]))
    refine own_Fin.go (fun t k => XS.dmulS X2.here hx rfl (hb hby own_dpct_18) rfl (by rw [own_dz hn]; unfold Jvm.Free.Fl.NoNaN64; decide) (own_dz hn) k) ?_
    show own_Fin _ _ _ _ _ _ _ (T2.setTop (mkF m 19 #[.val (.ref oa), .val (.double Jvm.FP.dconst0), .second, .unset, .unset, .unset, .unset, .unset] [(.double (0 : UInt64)), (.long (1 : Int64))]))
    obtain ⟨_, va3, _, -, X3, ⟨rfl, vb3, rfl⟩, st3⟩ := Jvm.LawKit.callS X2 hx (y := own_yM) hown (mvT hZ (hw _ (List.mem_of_getElem? (i := 50) rfl))) (mvT hZ (hw _ (List.mem_of_getElem? (i := 51) rfl))) (mvT hZ (hw _ (List.mem_of_getElem? (i := 23) rfl))) (mvT hZ (hw _ (List.mem_of_getElem? (i := 52) rfl))) (by decide) (own_ceilBack (W := 2) hZ hw hx (by decide) (by decide)) (g := (mkF m 19 #[.val (.ref oa), .val (.double Jvm.FP.dconst0), .second, .unset, .unset, .unset, .unset, .unset] [(.double (0 : UInt64)), (.long (1 : Int64))])) rfl (by rw [hml]; rfl) (argsL := [(.double (0 : UInt64))]) (rest := [(.long (1 : Int64))]) (lenOf own_sgM rfl) rfl (by show 2 * 0 + _ ≤ _; exact Nat.le_of_eq rfl) (hb hby own_dpct_19) (fun _ _ => rfl)
    dsimp only [Pt.U, Pt.locs, Pt.cells, Pt.slots] at X3 st3
    have e3 : ((T2.setVm va3).setVm vb3).heap = h0 := e2
    obtain ⟨T3, hT3⟩ : ∃ z, z = (T2.setVm va3).setVm vb3 := ⟨_, rfl⟩
    rw [← hT3] at X3 st3 e3
    refine own_Fin.go st3 ?_
    show own_Fin _ _ _ _ _ _ _ (T3.setTop (mkF m 22 #[.val (.ref oa), .val (.double Jvm.FP.dconst0), .second, .unset, .unset, .unset, .unset, .unset] [(.double (0 : UInt64)), (.long (1 : Int64))]))
    refine own_Fin.go (fun t k => XS.d2lS X3.here hx rfl (hb hby own_dpct_22) rfl rfl k) ?_
    show own_Fin _ _ _ _ _ _ _ (T3.setTop (mkF m 23 #[.val (.ref oa), .val (.double Jvm.FP.dconst0), .second, .unset, .unset, .unset, .unset, .unset] [(.long (Jvm.FP.d2l (0 : UInt64))), (.long (1 : Int64))]))
    rw [show Jvm.FP.d2l (0 : UInt64) = (0 : Int64) from by decide +kernel]
    show own_Fin _ _ _ _ _ _ _ (T3.setTop (mkF m 23 #[.val (.ref oa), .val (.double Jvm.FP.dconst0), .second, .unset, .unset, .unset, .unset, .unset] [(.long (0 : Int64)), (.long (1 : Int64))]))
    obtain ⟨_, _, ⟨T4, L4, k4, n4⟩, -, X4, ⟨Lc4, hQ4, l4, y4, z4⟩, st4⟩ := Jvm.LawKit.callS X3 hx (y := (⟨"java/lang/Math", "max", "(JJ)J"⟩ : MethodName)) hown (mvT hZ (hw _ (List.mem_of_getElem? (i := 21) rfl))) (mvT hZ (hw _ (List.mem_of_getElem? (i := 22) rfl))) (mvT hZ (hw _ (List.mem_of_getElem? (i := 23) rfl))) (mvT hZ (hw _ (List.mem_of_getElem? (i := 24) rfl))) (by decide) (backOf (W := 0) (own_rm_mx l Z a0 hw [] (1 : Int64) (0 : Int64)  h0 n0 Z0 ) hZ (hw _ (List.mem_of_getElem? (i := 24) rfl)) (hw _ (List.mem_of_getElem? (i := 23) rfl)) (by decide) (by decide)) (g := (mkF m 23 #[.val (.ref oa), .val (.double Jvm.FP.dconst0), .second, .unset, .unset, .unset, .unset, .unset] [(.long (0 : Int64)), (.long (1 : Int64))])) rfl (by rw [hml]; rfl) (argsL := [(.long (1 : Int64)), (.long (0 : Int64))]) (rest := []) (lenOf own_pd2 rfl) rfl (by show 2 * 0 + _ ≤ _; exact Nat.le_of_eq rfl) (hb hby own_dpct_23) (fun _ _ => ⟨rfl, e3, (by decide : 0 + 0 ≤ _), (by decide : 0 + 0 ≤ _)⟩)
    dsimp only [Pt.U, Pt.locs, Pt.cells, Pt.slots] at X4 l4 y4 z4 st4 hQ4
    subst l4 y4 z4
    obtain ⟨rfl, N4q, e4⟩ := hQ4
    refine own_Fin.go (fun t k => st4 t k) ?_
    have N4 := Fr.app N0 N4q
    show own_Fin _ _ _ _ _ _ _ (T4.setTop (mkF m 26 #[.val (.ref oa), .val (.double Jvm.FP.dconst0), .second, .unset, .unset, .unset, .unset, .unset] [(.long (own_mx (1 : Int64) (0 : Int64)))]))
    rw [show (own_mx (1 : Int64) (0 : Int64)) = (1 : Int64) from by decide +kernel]
    show own_Fin _ _ _ _ _ _ _ (T4.setTop (mkF m 26 #[.val (.ref oa), .val (.double Jvm.FP.dconst0), .second, .unset, .unset, .unset, .unset, .unset] [(.long (1 : Int64))]))
    refine own_Fin.go (fun t k => XS.lstoreN X4.here hx rfl (hb hby own_dpct_26) rfl (l' := #[.val (.ref oa), .val (.double Jvm.FP.dconst0), .second, .val (.long (1 : Int64)), .second, .unset, .unset, .unset]) rfl k) ?_
    show own_Fin _ _ _ _ _ _ _ (T4.setTop (mkF m 27 #[.val (.ref oa), .val (.double Jvm.FP.dconst0), .second, .val (.long (1 : Int64)), .second, .unset, .unset, .unset] []))
    refine own_Fin.go (fun t k => XS.lconst X4.here hx rfl (hb hby own_dpct_27) k) ?_
    show own_Fin _ _ _ _ _ _ _ (T4.setTop (mkF m 28 #[.val (.ref oa), .val (.double Jvm.FP.dconst0), .second, .val (.long (1 : Int64)), .second, .unset, .unset, .unset] [(.long (0 : Int64))]))
    refine own_Fin.go (fun t k => XS.lstore X4.here hx rfl (hb hby own_dpct_28) rfl (l' := #[.val (.ref oa), .val (.double Jvm.FP.dconst0), .second, .val (.long (1 : Int64)), .second, .val (.long (0 : Int64)), .second, .unset]) rfl k) ?_
    show own_Fin _ _ _ _ _ _ _ (T4.setTop (mkF m 30 #[.val (.ref oa), .val (.double Jvm.FP.dconst0), .second, .val (.long (1 : Int64)), .second, .val (.long (0 : Int64)), .second, .unset] []))
    refine own_Fin.go (fun t k => XS.iconst X4.here hx rfl (hb hby own_dpct_30) k) ?_
    show own_Fin _ _ _ _ _ _ _ (T4.setTop (mkF m 31 #[.val (.ref oa), .val (.double Jvm.FP.dconst0), .second, .val (.long (1 : Int64)), .second, .val (.long (0 : Int64)), .second, .unset] [(.int (0 : Int32))]))
    refine own_Fin.go (fun t k => XS.istore X4.here hx rfl (hb hby own_dpct_31) rfl (l' := #[.val (.ref oa), .val (.double Jvm.FP.dconst0), .second, .val (.long (1 : Int64)), .second, .val (.long (0 : Int64)), .second, .val (.int (0 : Int32))]) rfl k) ?_
    show own_Fin _ _ _ _ _ _ _ (T4.setTop (mkF m 33 #[.val (.ref oa), .val (.double Jvm.FP.dconst0), .second, .val (.long (1 : Int64)), .second, .val (.long (0 : Int64)), .second, .val (.int (0 : Int32))] []))
    have JL : ∀ (kJ : Nat) (TJ : State) (LJ : List Loc) (jJ : Nat) (sJ : Int64), jJ + kJ = 3776 → own_pct cf vn vm = own_fp cf vm kJ jJ sJ → Stand p l e ({ frames := 5, cells := 0, slots := 0, locals := 69 } : Room) s m #[(.ref oa), (.double Jvm.FP.dconst0)] below meth c TJ LJ 0 0 → Fr n0 LJ → TJ.heap = h0 → own_Fin p e below s (own_Q_pct Z oa ob kb vn vm cf h0 n0) ({ frames := 5, cells := 0, slots := 0, locals := 69 } : Room).cells ({ frames := 5, cells := 0, slots := 0, locals := 69 } : Room).slots (TJ.setTop (mkF m 33 #[.val (.ref oa), .val (.double Jvm.FP.dconst0), .second, .val (.long (1 : Int64)), .second, .val (.long sJ), .second, .val (.int (jJ).toInt32)] [])) := by
      intro kJ
      induction kJ with
      | zero =>
        intro TJ LJ jJ sJ hjk hpj XJ NJ eJ
        obtain rfl : jJ = 3776 := hjk
        refine own_Fin.go (fun t k => XS.iload XJ.here hx rfl (hb hby own_dpct_33) rfl k) ?_
        show own_Fin _ _ _ _ _ _ _ (TJ.setTop (mkF m 35 #[.val (.ref oa), .val (.double Jvm.FP.dconst0), .second, .val (.long (1 : Int64)), .second, .val (.long sJ), .second, .val (.int (3776 : Nat).toInt32)] [(.int (3776 : Nat).toInt32)]))
        refine own_Fin.go (fun t k => XS.aloadN XJ.here hx rfl (hb hby own_dpct_35) rfl rfl k) ?_
        show own_Fin _ _ _ _ _ _ _ (TJ.setTop (mkF m 36 #[.val (.ref oa), .val (.double Jvm.FP.dconst0), .second, .val (.long (1 : Int64)), .second, .val (.long sJ), .second, .val (.int (3776 : Nat).toInt32)] [(.ref oa), (.int (3776 : Nat).toInt32)]))
        obtain ⟨T5, X5, e5, st5⟩ := getF XJ hx hZ hown (host := "") (Or.inl (hw _ (List.mem_of_getElem? (i := 10) rfl))) Via.refl eJ F_oa_counts (g := (mkF m 36 #[.val (.ref oa), .val (.double Jvm.FP.dconst0), .second, .val (.long (1 : Int64)), .second, .val (.long sJ), .second, .val (.int (3776 : Nat).toInt32)] [(.ref oa), (.int (3776 : Nat).toInt32)])) rfl rfl (hb hby own_dpct_36)
        refine own_Fin.go st5 ?_
        show own_Fin _ _ _ _ _ _ _ (T5.setTop (mkF m 39 #[.val (.ref oa), .val (.double Jvm.FP.dconst0), .second, .val (.long (1 : Int64)), .second, .val (.long sJ), .second, .val (.int (3776 : Nat).toInt32)] [(.ref ob), (.int (3776 : Nat).toInt32)]))
        obtain ⟨cl6, Ar6, -, S6, N6l, -, -⟩ := (id V_ob)
        refine own_Fin.go (fun t k => X5.arraylength hx (by rw [e5]; exact Ar6.1) (State.isArrayOf_alike hZ.alike Ar6.2.1) (g := (mkF m 39 #[.val (.ref oa), .val (.double Jvm.FP.dconst0), .second, .val (.long (1 : Int64)), .second, .val (.long sJ), .second, .val (.int (3776 : Nat).toInt32)] [(.ref ob), (.int (3776 : Nat).toInt32)])) rfl rfl (hb hby own_dpct_39) t k) ?_
        rw [len_of S6 N6l]
        show own_Fin _ _ _ _ _ _ _ (T5.setTop (mkF m 40 #[.val (.ref oa), .val (.double Jvm.FP.dconst0), .second, .val (.long (1 : Int64)), .second, .val (.long sJ), .second, .val (.int (3776 : Nat).toInt32)] [(.int (3776 : Int32)), (.int (3776 : Nat).toInt32)]))
        have hc40 : ¬ ((3776 : Nat).toInt32 < (3776 : Int32)) := (by decide)
        refine own_Fin.go (fun t k => XS.icmpYes X5.here hx rfl (pc0 := 40) (pc' := 81) rfl (hb hby own_dpct_40) rfl (Jvm.Free.XT.ii_ge_t hc40) (by decide) (by decide) k) ?_
        show own_Fin _ _ _ _ _ _ _ (T5.setTop (mkF m 81 #[.val (.ref oa), .val (.double Jvm.FP.dconst0), .second, .val (.long (1 : Int64)), .second, .val (.long sJ), .second, .val (.int (3776 : Nat).toInt32)] []))
        refine own_Fin.go (fun t k => XS.aloadN X5.here hx rfl (hb hby own_dpct_81) rfl rfl k) ?_
        show own_Fin _ _ _ _ _ _ _ (T5.setTop (mkF m 82 #[.val (.ref oa), .val (.double Jvm.FP.dconst0), .second, .val (.long (1 : Int64)), .second, .val (.long sJ), .second, .val (.int (3776 : Nat).toInt32)] [(.ref oa)]))
        obtain ⟨T7, X7, e7, st7⟩ := getF X5 hx hZ hown (host := "") (Or.inl (hw _ (List.mem_of_getElem? (i := 19) rfl))) Via.refl e5 F_oa_max (g := (mkF m 82 #[.val (.ref oa), .val (.double Jvm.FP.dconst0), .second, .val (.long (1 : Int64)), .second, .val (.long sJ), .second, .val (.int (3776 : Nat).toInt32)] [(.ref oa)])) rfl rfl (hb hby own_dpct_82)
        refine own_Fin.go st7 ?_
        show own_Fin _ _ _ _ _ _ _ (T7.setTop (mkF m 85 #[.val (.ref oa), .val (.double Jvm.FP.dconst0), .second, .val (.long (1 : Int64)), .second, .val (.long sJ), .second, .val (.int (3776 : Nat).toInt32)] [(.long vm)]))
        refine own_retJ X7 hx Bd.returns (hb hby own_dpct_85) Bd.notSynchronized (by decide) (by decide) ?_
        rw [e7]
        exact ⟨by rw [hpj]; rfl, NJ, rfl⟩
      | succ kJ ih =>
        intro TJ LJ jJ sJ hjk hpj XJ NJ eJ
        refine own_Fin.go (fun t k => XS.iload XJ.here hx rfl (hb hby own_dpct_33) rfl k) ?_
        show own_Fin _ _ _ _ _ _ _ (TJ.setTop (mkF m 35 #[.val (.ref oa), .val (.double Jvm.FP.dconst0), .second, .val (.long (1 : Int64)), .second, .val (.long sJ), .second, .val (.int (jJ).toInt32)] [(.int (jJ).toInt32)]))
        refine own_Fin.go (fun t k => XS.aloadN XJ.here hx rfl (hb hby own_dpct_35) rfl rfl k) ?_
        show own_Fin _ _ _ _ _ _ _ (TJ.setTop (mkF m 36 #[.val (.ref oa), .val (.double Jvm.FP.dconst0), .second, .val (.long (1 : Int64)), .second, .val (.long sJ), .second, .val (.int (jJ).toInt32)] [(.ref oa), (.int (jJ).toInt32)]))
        obtain ⟨T8, X8, e8, st8⟩ := getF XJ hx hZ hown (host := "") (Or.inl (hw _ (List.mem_of_getElem? (i := 10) rfl))) Via.refl eJ F_oa_counts (g := (mkF m 36 #[.val (.ref oa), .val (.double Jvm.FP.dconst0), .second, .val (.long (1 : Int64)), .second, .val (.long sJ), .second, .val (.int (jJ).toInt32)] [(.ref oa), (.int (jJ).toInt32)])) rfl rfl (hb hby own_dpct_36)
        refine own_Fin.go st8 ?_
        show own_Fin _ _ _ _ _ _ _ (T8.setTop (mkF m 39 #[.val (.ref oa), .val (.double Jvm.FP.dconst0), .second, .val (.long (1 : Int64)), .second, .val (.long sJ), .second, .val (.int (jJ).toInt32)] [(.ref ob), (.int (jJ).toInt32)]))
        obtain ⟨cl9, Ar9, -, S9, N9l, -, -⟩ := (id V_ob)
        refine own_Fin.go (fun t k => X8.arraylength hx (by rw [e8]; exact Ar9.1) (State.isArrayOf_alike hZ.alike Ar9.2.1) (g := (mkF m 39 #[.val (.ref oa), .val (.double Jvm.FP.dconst0), .second, .val (.long (1 : Int64)), .second, .val (.long sJ), .second, .val (.int (jJ).toInt32)] [(.ref ob), (.int (jJ).toInt32)])) rfl rfl (hb hby own_dpct_39) t k) ?_
        rw [len_of S9 N9l]
        show own_Fin _ _ _ _ _ _ _ (T8.setTop (mkF m 40 #[.val (.ref oa), .val (.double Jvm.FP.dconst0), .second, .val (.long (1 : Int64)), .second, .val (.long sJ), .second, .val (.int (jJ).toInt32)] [(.int (3776 : Int32)), (.int (jJ).toInt32)]))
        have hc40 : (jJ).toInt32 < (3776 : Int32) := own_jlt hjk
        refine own_Fin.go (fun t k => XS.icmpNo X8.here hx rfl (hb hby own_dpct_40) rfl (Jvm.Free.XT.ii_ge_f hc40) k) ?_
        show own_Fin _ _ _ _ _ _ _ (T8.setTop (mkF m 43 #[.val (.ref oa), .val (.double Jvm.FP.dconst0), .second, .val (.long (1 : Int64)), .second, .val (.long sJ), .second, .val (.int (jJ).toInt32)] []))
        refine own_Fin.go (fun t k => XS.lload X8.here hx rfl (hb hby own_dpct_43) rfl k) ?_
        show own_Fin _ _ _ _ _ _ _ (T8.setTop (mkF m 45 #[.val (.ref oa), .val (.double Jvm.FP.dconst0), .second, .val (.long (1 : Int64)), .second, .val (.long sJ), .second, .val (.int (jJ).toInt32)] [(.long sJ)]))
        refine own_Fin.go (fun t k => XS.aloadN X8.here hx rfl (hb hby own_dpct_45) rfl rfl k) ?_
        show own_Fin _ _ _ _ _ _ _ (T8.setTop (mkF m 46 #[.val (.ref oa), .val (.double Jvm.FP.dconst0), .second, .val (.long (1 : Int64)), .second, .val (.long sJ), .second, .val (.int (jJ).toInt32)] [(.ref oa), (.long sJ)]))
        obtain ⟨T10, X10, e10, st10⟩ := getF X8 hx hZ hown (host := "") (Or.inl (hw _ (List.mem_of_getElem? (i := 10) rfl))) Via.refl e8 F_oa_counts (g := (mkF m 46 #[.val (.ref oa), .val (.double Jvm.FP.dconst0), .second, .val (.long (1 : Int64)), .second, .val (.long sJ), .second, .val (.int (jJ).toInt32)] [(.ref oa), (.long sJ)])) rfl rfl (hb hby own_dpct_46)
        refine own_Fin.go st10 ?_
        show own_Fin _ _ _ _ _ _ _ (T10.setTop (mkF m 49 #[.val (.ref oa), .val (.double Jvm.FP.dconst0), .second, .val (.long (1 : Int64)), .second, .val (.long sJ), .second, .val (.int (jJ).toInt32)] [(.ref ob), (.long sJ)]))
        refine own_Fin.go (fun t k => XS.iload X10.here hx rfl (hb hby own_dpct_49) rfl k) ?_
        show own_Fin _ _ _ _ _ _ _ (T10.setTop (mkF m 51 #[.val (.ref oa), .val (.double Jvm.FP.dconst0), .second, .val (.long (1 : Int64)), .second, .val (.long sJ), .second, .val (.int (jJ).toInt32)] [(.int (jJ).toInt32), (.ref ob), (.long sJ)]))
        obtain ⟨cl11, Ar11, q11, S11, N11l, H11, G11⟩ := (id V_ob)
        have hin11 : ¬ ((jJ).toInt32 < 0 ∨ cl11.slots.size ≤ ((jJ).toInt32).toNatClampNeg) := inb_of S11 (own_jq hjk)
        have hat11 : cl11.slots[((jJ).toInt32).toNatClampNeg]? = some (.long (cf jJ)) := Has.at H11 hin11 (own_vsJ _ _ hjk)
        refine own_Fin.go (fun t k => X10.laload hx (j := (jJ).toInt32) (v := (.long (cf jJ))) (by rw [e10]; exact Ar11.1) (State.isArrayOf_alike hZ.alike Ar11.2.1) Ar11.2.2 hin11 hat11 (g := (mkF m 51 #[.val (.ref oa), .val (.double Jvm.FP.dconst0), .second, .val (.long (1 : Int64)), .second, .val (.long sJ), .second, .val (.int (jJ).toInt32)] [(.int (jJ).toInt32), (.ref ob), (.long sJ)])) rfl rfl (hb hby own_dpct_51) t k) ?_
        show own_Fin _ _ _ _ _ _ _ (T10.setTop (mkF m 52 #[.val (.ref oa), .val (.double Jvm.FP.dconst0), .second, .val (.long (1 : Int64)), .second, .val (.long sJ), .second, .val (.int (jJ).toInt32)] [(.long (cf jJ)), (.long sJ)]))
        refine own_Fin.go (fun t k => XS.ladd X10.here hx rfl (hb hby own_dpct_52) rfl k) ?_
        show own_Fin _ _ _ _ _ _ _ (T10.setTop (mkF m 53 #[.val (.ref oa), .val (.double Jvm.FP.dconst0), .second, .val (.long (1 : Int64)), .second, .val (.long sJ), .second, .val (.int (jJ).toInt32)] [(.long (sJ + (cf jJ)))]))
        refine own_Fin.go (fun t k => XS.lstore X10.here hx rfl (hb hby own_dpct_53) rfl (l' := #[.val (.ref oa), .val (.double Jvm.FP.dconst0), .second, .val (.long (1 : Int64)), .second, .val (.long (sJ + (cf jJ))), .second, .val (.int (jJ).toInt32)]) rfl k) ?_
        show own_Fin _ _ _ _ _ _ _ (T10.setTop (mkF m 55 #[.val (.ref oa), .val (.double Jvm.FP.dconst0), .second, .val (.long (1 : Int64)), .second, .val (.long (sJ + (cf jJ))), .second, .val (.int (jJ).toInt32)] []))
        refine own_Fin.go (fun t k => XS.lload X10.here hx rfl (hb hby own_dpct_55) rfl k) ?_
        show own_Fin _ _ _ _ _ _ _ (T10.setTop (mkF m 57 #[.val (.ref oa), .val (.double Jvm.FP.dconst0), .second, .val (.long (1 : Int64)), .second, .val (.long (sJ + (cf jJ))), .second, .val (.int (jJ).toInt32)] [(.long (sJ + (cf jJ)))]))
        refine own_Fin.go (fun t k => XS.lloadN X10.here hx rfl (hb hby own_dpct_57) rfl k) ?_
        show own_Fin _ _ _ _ _ _ _ (T10.setTop (mkF m 58 #[.val (.ref oa), .val (.double Jvm.FP.dconst0), .second, .val (.long (1 : Int64)), .second, .val (.long (sJ + (cf jJ))), .second, .val (.int (jJ).toInt32)] [(.long (1 : Int64)), (.long (sJ + (cf jJ)))]))
        refine own_Fin.go (fun t k => XS.lcmp X10.here hx rfl (hb hby own_dpct_58) rfl k) ?_
        show own_Fin _ _ _ _ _ _ _ (T10.setTop (mkF m 59 #[.val (.ref oa), .val (.double Jvm.FP.dconst0), .second, .val (.long (1 : Int64)), .second, .val (.long (sJ + (cf jJ))), .second, .val (.int (jJ).toInt32)] [(.int (lcmpW (sJ + (cf jJ)) (1 : Int64)))]))
        by_cases hc59 : (sJ + (cf jJ)) < (1 : Int64)
        · refine own_Fin.go (fun t k => XS.ifYes X10.here hx rfl (pc0 := 59) (pc' := 75) rfl (hb hby own_dpct_59) rfl (Jvm.Free.XT.ll_lt_t hc59) (by decide) (by decide) k) ?_
          show own_Fin _ _ _ _ _ _ _ (T10.setTop (mkF m 75 #[.val (.ref oa), .val (.double Jvm.FP.dconst0), .second, .val (.long (1 : Int64)), .second, .val (.long (sJ + (cf jJ))), .second, .val (.int (jJ).toInt32)] []))
          refine own_Fin.go (fun t k => XS.iinc X10.here hx rfl (hb hby own_dpct_75) rfl (l' := #[.val (.ref oa), .val (.double Jvm.FP.dconst0), .second, .val (.long (1 : Int64)), .second, .val (.long (sJ + (cf jJ))), .second, .val (.int ((jJ).toInt32 + (1 : Int32)))]) rfl k) ?_
          show own_Fin _ _ _ _ _ _ _ (T10.setTop (mkF m 78 #[.val (.ref oa), .val (.double Jvm.FP.dconst0), .second, .val (.long (1 : Int64)), .second, .val (.long (sJ + (cf jJ))), .second, .val (.int ((jJ).toInt32 + (1 : Int32)))] []))
          refine own_Fin.go (fun t k => XS.goto X10.here hx rfl (pc0 := 78) (pc' := 33) rfl (hb hby own_dpct_78) (by decide) (by decide) k) ?_
          show own_Fin _ _ _ _ _ _ _ (T10.setTop (mkF m 33 #[.val (.ref oa), .val (.double Jvm.FP.dconst0), .second, .val (.long (1 : Int64)), .second, .val (.long (sJ + (cf jJ))), .second, .val (.int ((jJ).toInt32 + (1 : Int32)))] []))
          rw [own_inc hjk]
          exact ih T10 _ (jJ + 1) (sJ + cf jJ) (by omega) (by rw [hpj]; simp only [own_fp, if_pos hc59]) X10 NJ e10
        · refine own_Fin.go (fun t k => XS.ifNo X10.here hx rfl (hb hby own_dpct_59) rfl (Jvm.Free.XT.ll_lt_f hc59) k) ?_
          show own_Fin _ _ _ _ _ _ _ (T10.setTop (mkF m 62 #[.val (.ref oa), .val (.double Jvm.FP.dconst0), .second, .val (.long (1 : Int64)), .second, .val (.long (sJ + (cf jJ))), .second, .val (.int (jJ).toInt32)] []))
          refine own_Fin.go (fun t k => XS.iload X10.here hx rfl (hb hby own_dpct_62) rfl k) ?_
          show own_Fin _ _ _ _ _ _ _ (T10.setTop (mkF m 64 #[.val (.ref oa), .val (.double Jvm.FP.dconst0), .second, .val (.long (1 : Int64)), .second, .val (.long (sJ + (cf jJ))), .second, .val (.int (jJ).toInt32)] [(.int (jJ).toInt32)]))
          obtain ⟨_, _, ⟨T12, L12, k12, n12⟩, -, X12, ⟨Lc12, hQ12, l12, y12, z12⟩, st12⟩ := Jvm.LawKit.callS X10 hx (y := (⟨"com/example/canopy/canopy/bench/LatencyHistogram", "top", "(I)J"⟩ : MethodName)) hown (mvT hZ (hw _ (List.mem_of_getElem? (i := 70) rfl))) (mvT hZ (hw _ (List.mem_of_getElem? (i := 71) rfl))) (mvT hZ (hw _ (List.mem_of_getElem? (i := 2) rfl))) (mvT hZ (hw _ (List.mem_of_getElem? (i := 72) rfl))) (by decide) (backOf (W := 0) (own_rm_tp l Z a0 hw [] ((jJ).toInt32)  h0 n0 Z0 ) hZ (hw _ (List.mem_of_getElem? (i := 72) rfl)) (hw _ (List.mem_of_getElem? (i := 2) rfl)) (by decide) (by decide)) (g := (mkF m 64 #[.val (.ref oa), .val (.double Jvm.FP.dconst0), .second, .val (.long (1 : Int64)), .second, .val (.long (sJ + (cf jJ))), .second, .val (.int (jJ).toInt32)] [(.int (jJ).toInt32)])) rfl (by rw [hml]; rfl) (argsL := [(.int (jJ).toInt32)]) (rest := []) (lenOf own_pd3 rfl) rfl (by show 2 * 0 + _ ≤ _; exact Nat.le_of_eq rfl) (hb hby own_dpct_64) (fun _ _ => ⟨rfl, e10, (by decide : 0 + 0 ≤ _), (by decide : 0 + 0 ≤ _)⟩)
          dsimp only [Pt.U, Pt.locs, Pt.cells, Pt.slots] at X12 l12 y12 z12 st12 hQ12
          subst l12 y12 z12
          obtain ⟨rfl, N12q, e12⟩ := hQ12
          refine own_Fin.go (fun t k => st12 t k) ?_
          have N12 := Fr.app NJ N12q
          show own_Fin _ _ _ _ _ _ _ (T12.setTop (mkF m 67 #[.val (.ref oa), .val (.double Jvm.FP.dconst0), .second, .val (.long (1 : Int64)), .second, .val (.long (sJ + (cf jJ))), .second, .val (.int (jJ).toInt32)] [(.long (own_top ((jJ).toInt32)))]))
          refine own_Fin.go (fun t k => XS.aloadN X12.here hx rfl (hb hby own_dpct_67) rfl rfl k) ?_
          show own_Fin _ _ _ _ _ _ _ (T12.setTop (mkF m 68 #[.val (.ref oa), .val (.double Jvm.FP.dconst0), .second, .val (.long (1 : Int64)), .second, .val (.long (sJ + (cf jJ))), .second, .val (.int (jJ).toInt32)] [(.ref oa), (.long (own_top ((jJ).toInt32)))]))
          obtain ⟨T13, X13, e13, st13⟩ := getF X12 hx hZ hown (host := "") (Or.inl (hw _ (List.mem_of_getElem? (i := 19) rfl))) Via.refl e12 F_oa_max (g := (mkF m 68 #[.val (.ref oa), .val (.double Jvm.FP.dconst0), .second, .val (.long (1 : Int64)), .second, .val (.long (sJ + (cf jJ))), .second, .val (.int (jJ).toInt32)] [(.ref oa), (.long (own_top ((jJ).toInt32)))])) rfl rfl (hb hby own_dpct_68)
          refine own_Fin.go st13 ?_
          show own_Fin _ _ _ _ _ _ _ (T13.setTop (mkF m 71 #[.val (.ref oa), .val (.double Jvm.FP.dconst0), .second, .val (.long (1 : Int64)), .second, .val (.long (sJ + (cf jJ))), .second, .val (.int (jJ).toInt32)] [(.long vm), (.long (own_top ((jJ).toInt32)))]))
          obtain ⟨_, _, ⟨T14, L14, k14, n14⟩, -, X14, ⟨Lc14, hQ14, l14, y14, z14⟩, st14⟩ := Jvm.LawKit.callS X13 hx (y := (⟨"java/lang/Math", "min", "(JJ)J"⟩ : MethodName)) hown (mvT hZ (hw _ (List.mem_of_getElem? (i := 73) rfl))) (mvT hZ (hw _ (List.mem_of_getElem? (i := 74) rfl))) (mvT hZ (hw _ (List.mem_of_getElem? (i := 23) rfl))) (mvT hZ (hw _ (List.mem_of_getElem? (i := 75) rfl))) (by decide) (backOf (W := 0) (own_rm_mn l Z a0 hw [] (own_top ((jJ).toInt32)) vm  h0 n0 Z0 ) hZ (hw _ (List.mem_of_getElem? (i := 75) rfl)) (hw _ (List.mem_of_getElem? (i := 23) rfl)) (by decide) (by decide)) (g := (mkF m 71 #[.val (.ref oa), .val (.double Jvm.FP.dconst0), .second, .val (.long (1 : Int64)), .second, .val (.long (sJ + (cf jJ))), .second, .val (.int (jJ).toInt32)] [(.long vm), (.long (own_top ((jJ).toInt32)))])) rfl (by rw [hml]; rfl) (argsL := [(.long (own_top ((jJ).toInt32))), (.long vm)]) (rest := []) (lenOf own_pd2 rfl) rfl (by show 2 * 0 + _ ≤ _; exact Nat.le_of_eq rfl) (hb hby own_dpct_71) (fun _ _ => ⟨rfl, e13, (by decide : 0 + 0 ≤ _), (by decide : 0 + 0 ≤ _)⟩)
          dsimp only [Pt.U, Pt.locs, Pt.cells, Pt.slots] at X14 l14 y14 z14 st14 hQ14
          subst l14 y14 z14
          obtain ⟨rfl, N14q, e14⟩ := hQ14
          refine own_Fin.go (fun t k => st14 t k) ?_
          have N14 := Fr.app N12 N14q
          show own_Fin _ _ _ _ _ _ _ (T14.setTop (mkF m 74 #[.val (.ref oa), .val (.double Jvm.FP.dconst0), .second, .val (.long (1 : Int64)), .second, .val (.long (sJ + (cf jJ))), .second, .val (.int (jJ).toInt32)] [(.long (own_mn (own_top ((jJ).toInt32)) vm))]))
          refine own_retJ X14 hx Bd.returns (hb hby own_dpct_74) Bd.notSynchronized (by decide) (by decide) ?_
          rw [e14]
          exact ⟨by rw [hpj]; simp only [own_fp, if_neg hc59], N14, rfl⟩
    exact JL 3776 T4 _ 0 0 rfl (by simp only [own_pct, if_neg hc6]) X4 N4 e4
theorem own_pd4 : parseMethodDescriptor "()V" = some ⟨[], none⟩ := by decide +kernel
theorem own_pd5 : parseMethodDescriptor "(Lcom/example/canopy/canopy/bench/LatencyHistogram;)V" = some ⟨[(.object "com/example/canopy/canopy/bench/LatencyHistogram")], none⟩ := by decide +kernel
theorem own_pd6 : parseMethodDescriptor "()J" = some ⟨[], some .long⟩ := by decide +kernel
theorem own_pd7 : parseMethodDescriptor "(D)J" = some ⟨[.double], some .long⟩ := by decide +kernel
theorem own_pd8 : parseMethodDescriptor "(J)V" = some ⟨[.long], none⟩ := by decide +kernel
theorem own_pn3 : plainName "com/example/canopy/canopy/bench/LatencyHistogramAddPinLaw" = true := by first | (simp [plainName, overriddenIn]; done) | decide +kernel
theorem own_ef_law (m : MethodId) (va : Int64) (vb : Int64) (vc : Int32) : entryFrame m #[(.long va), (.long vb), (.int vc)] maxLocals = mkF m 0 #[.val (.long va), .second, .val (.long vb), .second, .val (.int vc), .unset, .unset, .unset, .unset, .unset, .unset, .unset, .unset, .unset] [] := by first | (simp [entryFrame, mkF, argsToLocals, Value.category, maxLocals]; done) | rfl
def own_Q_law (Z : State) (va : Int64) (vb : Int64) (vc : Int32) (h0 : Heap) (n0 : Nat) (v : Option Value) (h : Heap) (L : List Loc) : Prop := v = some (.int (1 : Int32)) ∧ Fr n0 L
set_option maxRecDepth 65536 in
set_option maxHeartbeats 40000000 in
theorem own_rm_law (l : Launch) (Z : State) (a0 : Array Value) (hw : ∀ d ∈ tables_1, d.before a0 Z = true) (ws : List Jvm.Cond) (va : Int64) (vb : Int64) (vc : Int32) (h0 : Heap) (n0 : Nat) (Z0 : n0 ≤ h0.size) :
    MetFree l x (head1 (Jvm.Cond.code x code maxLocals ret :: ws) room_1) (fun a U => a = #[(.long va), (.long vb), (.int vc)] ∧ Z.Warmed39 U.vm ∧ U.heap = h0) (fun _ _ _ _ _ => True) (fun _ U o U' => ∃ v L, o = .returned v ∧ own_Q_law Z va vb vc h0 n0 v U'.heap L ∧ FrameEnd U o U' L room_1.cells room_1.slots) := by
  refine MetFree.of_bodySF (plainFor_of_name own_pn3) hisR ?_
  intro p e s m args below meth c s₁ Bd hml0 hP hK
  obtain ⟨rfl, hZ, hh⟩ := hP
  have hx := Bd.exec
  have hby := Bd.bytes
  have hml : c.maxLocals = 14 := hml0
  have hown : s.vm.findClass "com/example/canopy/canopy/bench/LatencyHistogramAddPinLaw" = some m.cls := findClass_of_methodNamed Bd.named
  have hnm := (name_of_methodNamed Bd.named Bd.method).1
  have X0 : Stand p l e room_1 s m #[(.long va), (.long vb), (.int vc)] below meth c s₁ [] 0 0 := Stand.of_body Bd
  have e0 : s₁.heap = h0 := by rw [← hh, Bd.state]; rfl
  have N0 := Fr.nil n0
  show own_Fin p e below s (own_Q_law Z va vb vc h0 n0) room_1.cells room_1.slots (s₁.setTop (entryFrame m #[(.long va), (.long vb), (.int vc)] maxLocals))
  refine own_Fin.go (fun t k => castTop (own_ef_law m va vb vc) k) ?_
  refine own_Fin.go (fun t k => XS.iload X0.here hx rfl (hb hby at_0) rfl k) ?_
  show own_Fin _ _ _ _ _ _ _ (s₁.setTop (mkF m 2 #[.val (.long va), .second, .val (.long vb), .second, .val (.int vc), .unset, .unset, .unset, .unset, .unset, .unset, .unset, .unset, .unset] [(.int vc)]))
  refine own_Fin.go (fun t k => XS.iconst X0.here hx rfl (hb hby at_2) k) ?_
  show own_Fin _ _ _ _ _ _ _ (s₁.setTop (mkF m 3 #[.val (.long va), .second, .val (.long vb), .second, .val (.int vc), .unset, .unset, .unset, .unset, .unset, .unset, .unset, .unset, .unset] [(.int (1 : Int32)), (.int vc)]))
  refine own_Fin.go (fun t k => XS.iand X0.here hx rfl (hb hby at_3) rfl k) ?_
  show own_Fin _ _ _ _ _ _ _ (s₁.setTop (mkF m 4 #[.val (.long va), .second, .val (.long vb), .second, .val (.int vc), .unset, .unset, .unset, .unset, .unset, .unset, .unset, .unset, .unset] [(.int (vc &&& (1 : Int32)))]))
  by_cases hc4 : (vc &&& (1 : Int32)) = (0 : Int32)
  · refine own_Fin.go (fun t k => XS.ifYes X0.here hx rfl (pc0 := 4) (pc' := 11) rfl (hb hby at_4) rfl (Jvm.Free.XT.i0_eq_t hc4) (by decide) (by decide) k) ?_
    show own_Fin _ _ _ _ _ _ _ (s₁.setTop (mkF m 11 #[.val (.long va), .second, .val (.long vb), .second, .val (.int vc), .unset, .unset, .unset, .unset, .unset, .unset, .unset, .unset, .unset] []))
    refine own_Fin.go (fun t k => XS.iconst X0.here hx rfl (hb hby at_11) k) ?_
    show own_Fin _ _ _ _ _ _ _ (s₁.setTop (mkF m 12 #[.val (.long va), .second, .val (.long vb), .second, .val (.int vc), .unset, .unset, .unset, .unset, .unset, .unset, .unset, .unset, .unset] [(.int (0 : Int32))]))
    refine own_Fin.go (fun t k => XS.istore X0.here hx rfl (hb hby at_12) rfl (l' := #[.val (.long va), .second, .val (.long vb), .second, .val (.int vc), .val (.int (0 : Int32)), .unset, .unset, .unset, .unset, .unset, .unset, .unset, .unset]) rfl k) ?_
    show own_Fin _ _ _ _ _ _ _ (s₁.setTop (mkF m 14 #[.val (.long va), .second, .val (.long vb), .second, .val (.int vc), .val (.int (0 : Int32)), .unset, .unset, .unset, .unset, .unset, .unset, .unset, .unset] []))
    refine own_Fin.go (fun t k => XS.iload X0.here hx rfl (hb hby at_14) rfl k) ?_
    show own_Fin _ _ _ _ _ _ _ (s₁.setTop (mkF m 16 #[.val (.long va), .second, .val (.long vb), .second, .val (.int vc), .val (.int (0 : Int32)), .unset, .unset, .unset, .unset, .unset, .unset, .unset, .unset] [(.int vc)]))
    refine own_Fin.go (fun t k => XS.iconst X0.here hx rfl (hb hby at_16) k) ?_
    show own_Fin _ _ _ _ _ _ _ (s₁.setTop (mkF m 17 #[.val (.long va), .second, .val (.long vb), .second, .val (.int vc), .val (.int (0 : Int32)), .unset, .unset, .unset, .unset, .unset, .unset, .unset, .unset] [(.int (2 : Int32)), (.int vc)]))
    refine own_Fin.go (fun t k => XS.iand X0.here hx rfl (hb hby at_17) rfl k) ?_
    show own_Fin _ _ _ _ _ _ _ (s₁.setTop (mkF m 18 #[.val (.long va), .second, .val (.long vb), .second, .val (.int vc), .val (.int (0 : Int32)), .unset, .unset, .unset, .unset, .unset, .unset, .unset, .unset] [(.int (vc &&& (2 : Int32)))]))
    by_cases hc18 : (vc &&& (2 : Int32)) = (0 : Int32)
    · refine own_Fin.go (fun t k => XS.ifYes X0.here hx rfl (pc0 := 18) (pc' := 25) rfl (hb hby at_18) rfl (Jvm.Free.XT.i0_eq_t hc18) (by decide) (by decide) k) ?_
      show own_Fin _ _ _ _ _ _ _ (s₁.setTop (mkF m 25 #[.val (.long va), .second, .val (.long vb), .second, .val (.int vc), .val (.int (0 : Int32)), .unset, .unset, .unset, .unset, .unset, .unset, .unset, .unset] []))
      refine own_Fin.go (fun t k => XS.iconst X0.here hx rfl (hb hby at_25) k) ?_
      show own_Fin _ _ _ _ _ _ _ (s₁.setTop (mkF m 26 #[.val (.long va), .second, .val (.long vb), .second, .val (.int vc), .val (.int (0 : Int32)), .unset, .unset, .unset, .unset, .unset, .unset, .unset, .unset] [(.int (0 : Int32))]))
      refine own_Fin.go (fun t k => XS.istore X0.here hx rfl (hb hby at_26) rfl (l' := #[.val (.long va), .second, .val (.long vb), .second, .val (.int vc), .val (.int (0 : Int32)), .val (.int (0 : Int32)), .unset, .unset, .unset, .unset, .unset, .unset, .unset]) rfl k) ?_
      show own_Fin _ _ _ _ _ _ _ (s₁.setTop (mkF m 28 #[.val (.long va), .second, .val (.long vb), .second, .val (.int vc), .val (.int (0 : Int32)), .val (.int (0 : Int32)), .unset, .unset, .unset, .unset, .unset, .unset, .unset] []))
      obtain ⟨T1, h1, X1, e1, E1, A1, D1, -, st1⟩ := newO X0 hx hZ hown (hw _ (List.mem_of_getElem? (i := 0) rfl)) (hw _ (List.mem_of_getElem? (i := 1) rfl)) (hw _ (List.mem_of_getElem? (i := 2) rfl)) e0 (g := (mkF m 28 #[.val (.long va), .second, .val (.long vb), .second, .val (.int vc), .val (.int (0 : Int32)), .val (.int (0 : Int32)), .unset, .unset, .unset, .unset, .unset, .unset, .unset] [])) rfl (hb hby at_28) (by decide) (by decide)
      obtain ⟨b1, g1⟩ : ∃ z, z = h0.size := ⟨_, rfl⟩
      rw [← g1] at A1 D1 st1
      refine own_Fin.go st1 ?_
      have g_b1 : n0 ≤ b1 := Nat.le_trans Z0 (Nat.le_of_eq g1.symm)
      have Z1 := Nat.le_trans Z0 E1.1
      have F_b1_counts : Fld Z h1 b1 "com/example/canopy/canopy/bench/LatencyHistogram" "counts" "[J" .null := D1 (Or.inr (hw _ (List.mem_of_getElem? (i := 11) rfl))) (ty := (.array .long)) (by decide)
      have F_b1_count : Fld Z h1 b1 "com/example/canopy/canopy/bench/LatencyHistogram" "count" "J" (.long (0 : Int64)) := D1 (Or.inl (hw _ (List.mem_of_getElem? (i := 18) rfl))) (ty := .long) (by decide)
      have F_b1_max : Fld Z h1 b1 "com/example/canopy/canopy/bench/LatencyHistogram" "max" "J" (.long (0 : Int64)) := D1 (Or.inl (hw _ (List.mem_of_getElem? (i := 20) rfl))) (ty := .long) (by decide)
      show own_Fin _ _ _ _ _ _ _ (T1.setTop (mkF m 31 #[.val (.long va), .second, .val (.long vb), .second, .val (.int vc), .val (.int (0 : Int32)), .val (.int (0 : Int32)), .unset, .unset, .unset, .unset, .unset, .unset, .unset] [(.ref b1)]))
      refine own_Fin.go (fun t k => XS.dup X1.here hx rfl (hb hby at_31) rfl rfl k) ?_
      show own_Fin _ _ _ _ _ _ _ (T1.setTop (mkF m 32 #[.val (.long va), .second, .val (.long vb), .second, .val (.int vc), .val (.int (0 : Int32)), .val (.int (0 : Int32)), .unset, .unset, .unset, .unset, .unset, .unset, .unset] [(.ref b1), (.ref b1)]))
      obtain ⟨_, _, ⟨T2, L2, k2, n2⟩, -, X2, ⟨Lc2, hQ2, l2, y2, z2⟩, st2⟩ := X1.specialBack hx (y := (⟨"com/example/canopy/canopy/bench/LatencyHistogram", "<init>", "()V"⟩ : MethodName)) rfl hown (mvT hZ (hw _ (List.mem_of_getElem? (i := 3) rfl))) (mvT hZ (hw _ (List.mem_of_getElem? (i := 4) rfl))) (mvT hZ (hw _ (List.mem_of_getElem? (i := 5) rfl))) (by decide) (backOf (W := 1) (own_rm_ini l Z a0 hw [] b1  h1 n0 Z1 A1 F_b1_counts F_b1_count F_b1_max g_b1) hZ (hw _ (List.mem_of_getElem? (i := 5) rfl)) (hw _ (List.mem_of_getElem? (i := 2) rfl)) (by decide) (by decide)) (g := (mkF m 32 #[.val (.long va), .second, .val (.long vb), .second, .val (.int vc), .val (.int (0 : Int32)), .val (.int (0 : Int32)), .unset, .unset, .unset, .unset, .unset, .unset, .unset] [(.ref b1), (.ref b1)])) rfl (by rw [hml]; rfl) (Steps.refl _) (a := b1) (argsL := []) (rest := [(.ref b1)]) (lenOf own_pd4 rfl) rfl (by show 2 * 0 + _ ≤ _; exact Nat.le_of_eq rfl) (hb hby at_32) (fun _ _ => ⟨rfl, e1, (by decide : 1 + 1 ≤ _), (by decide : 3 + 3776 ≤ _)⟩)
      dsimp only [Pt.U, Pt.locs, Pt.cells, Pt.slots] at X2 l2 y2 z2 st2 hQ2
      subst l2 y2 z2
      obtain ⟨ob2, kb2, rfl, N2q, K2q, c2_1, c2_2, c2_3, c2_4, c2_5, c2_6, c2_7⟩ := hQ2
      refine own_Fin.go (fun t k => st2.trans k) ?_
      have N2 := Fr.app N0 N2q
      have Z2 := Nat.le_trans Z1 K2q.1
      have ne_b1_ob2 : b1 ≠ ob2 := Nat.ne_of_lt (Nat.lt_of_lt_of_le F_b1_max.lt c2_6)
      have g_ob2 : n0 ≤ ob2 := Nat.le_trans Z1 c2_6
      show own_Fin _ _ _ _ _ _ _ (T2.setTop (mkF m 35 #[.val (.long va), .second, .val (.long vb), .second, .val (.int vc), .val (.int (0 : Int32)), .val (.int (0 : Int32)), .unset, .unset, .unset, .unset, .unset, .unset, .unset] [(.ref b1)]))
      refine own_Fin.go (fun t k => XS.astore X2.here hx rfl (hb hby at_35) rfl rfl (l' := #[.val (.long va), .second, .val (.long vb), .second, .val (.int vc), .val (.int (0 : Int32)), .val (.int (0 : Int32)), .val (.ref b1), .unset, .unset, .unset, .unset, .unset, .unset]) rfl k) ?_
      show own_Fin _ _ _ _ _ _ _ (T2.setTop (mkF m 37 #[.val (.long va), .second, .val (.long vb), .second, .val (.int vc), .val (.int (0 : Int32)), .val (.int (0 : Int32)), .val (.ref b1), .unset, .unset, .unset, .unset, .unset, .unset] []))
      obtain ⟨T3, h3, X3, e3, E3, A3, D3, -, st3⟩ := newO X2 hx hZ hown (hw _ (List.mem_of_getElem? (i := 0) rfl)) (hw _ (List.mem_of_getElem? (i := 1) rfl)) (hw _ (List.mem_of_getElem? (i := 2) rfl)) rfl (g := (mkF m 37 #[.val (.long va), .second, .val (.long vb), .second, .val (.int vc), .val (.int (0 : Int32)), .val (.int (0 : Int32)), .val (.ref b1), .unset, .unset, .unset, .unset, .unset, .unset] [])) rfl (hb hby at_37) (by decide) (by decide)
      obtain ⟨b3, g3⟩ : ∃ z, z = T2.heap.size := ⟨_, rfl⟩
      rw [← g3] at A3 D3 st3
      refine own_Fin.go st3 ?_
      have g_b3 : n0 ≤ b3 := Nat.le_trans Z2 (Nat.le_of_eq g3.symm)
      have ne_b1_b3 : b1 ≠ b3 := Nat.ne_of_lt (Nat.lt_of_lt_of_le c2_4.lt (Nat.le_of_eq g3.symm))
      have ne_ob2_b3 : ob2 ≠ b3 := Nat.ne_of_lt (Nat.lt_of_lt_of_le c2_5.lt (Nat.le_of_eq g3.symm))
      have E_b1_3 := Exa.ext E3 c2_1
      have F_b1_counts_3 := Fld.ext E3 c2_2
      have F_b1_count_3 := Fld.ext E3 c2_3
      have F_b1_max_3 := Fld.ext E3 c2_4
      have V_ob2_3 := c2_5.ext E3
      have Z3 := Nat.le_trans Z2 E3.1
      have F_b3_counts : Fld Z h3 b3 "com/example/canopy/canopy/bench/LatencyHistogram" "counts" "[J" .null := D3 (Or.inr (hw _ (List.mem_of_getElem? (i := 11) rfl))) (ty := (.array .long)) (by decide)
      have F_b3_count : Fld Z h3 b3 "com/example/canopy/canopy/bench/LatencyHistogram" "count" "J" (.long (0 : Int64)) := D3 (Or.inl (hw _ (List.mem_of_getElem? (i := 18) rfl))) (ty := .long) (by decide)
      have F_b3_max : Fld Z h3 b3 "com/example/canopy/canopy/bench/LatencyHistogram" "max" "J" (.long (0 : Int64)) := D3 (Or.inl (hw _ (List.mem_of_getElem? (i := 20) rfl))) (ty := .long) (by decide)
      show own_Fin _ _ _ _ _ _ _ (T3.setTop (mkF m 40 #[.val (.long va), .second, .val (.long vb), .second, .val (.int vc), .val (.int (0 : Int32)), .val (.int (0 : Int32)), .val (.ref b1), .unset, .unset, .unset, .unset, .unset, .unset] [(.ref b3)]))
      refine own_Fin.go (fun t k => XS.dup X3.here hx rfl (hb hby at_40) rfl rfl k) ?_
      show own_Fin _ _ _ _ _ _ _ (T3.setTop (mkF m 41 #[.val (.long va), .second, .val (.long vb), .second, .val (.int vc), .val (.int (0 : Int32)), .val (.int (0 : Int32)), .val (.ref b1), .unset, .unset, .unset, .unset, .unset, .unset] [(.ref b3), (.ref b3)]))
      obtain ⟨_, _, ⟨T4, L4, k4, n4⟩, -, X4, ⟨Lc4, hQ4, l4, y4, z4⟩, st4⟩ := X3.specialBack hx (y := (⟨"com/example/canopy/canopy/bench/LatencyHistogram", "<init>", "()V"⟩ : MethodName)) rfl hown (mvT hZ (hw _ (List.mem_of_getElem? (i := 3) rfl))) (mvT hZ (hw _ (List.mem_of_getElem? (i := 4) rfl))) (mvT hZ (hw _ (List.mem_of_getElem? (i := 5) rfl))) (by decide) (backOf (W := 1) (own_rm_ini l Z a0 hw [] b3  h3 n0 Z3 A3 F_b3_counts F_b3_count F_b3_max g_b3) hZ (hw _ (List.mem_of_getElem? (i := 5) rfl)) (hw _ (List.mem_of_getElem? (i := 2) rfl)) (by decide) (by decide)) (g := (mkF m 41 #[.val (.long va), .second, .val (.long vb), .second, .val (.int vc), .val (.int (0 : Int32)), .val (.int (0 : Int32)), .val (.ref b1), .unset, .unset, .unset, .unset, .unset, .unset] [(.ref b3), (.ref b3)])) rfl (by rw [hml]; rfl) (Steps.refl _) (a := b3) (argsL := []) (rest := [(.ref b3)]) (lenOf own_pd4 rfl) rfl (by show 2 * 0 + _ ≤ _; exact Nat.le_of_eq rfl) (hb hby at_41) (fun _ _ => ⟨rfl, e3, (by decide : 3 + 1 ≤ _), (by decide : 3782 + 3776 ≤ _)⟩)
      dsimp only [Pt.U, Pt.locs, Pt.cells, Pt.slots] at X4 l4 y4 z4 st4 hQ4
      subst l4 y4 z4
      obtain ⟨ob4, kb4, rfl, N4q, K4q, c4_1, c4_2, c4_3, c4_4, c4_5, c4_6, c4_7⟩ := hQ4
      refine own_Fin.go (fun t k => st4.trans k) ?_
      have N4 := Fr.app N2 N4q
      have E_b1_4 := E_b1_3.keep K4q
      have F_b1_counts_4 := F_b1_counts_3.keep K4q (ninS ne_b1_b3 nin0)
      have F_b1_count_4 := F_b1_count_3.keep K4q (ninS ne_b1_b3 nin0)
      have F_b1_max_4 := F_b1_max_3.keep K4q (ninS ne_b1_b3 nin0)
      have V_ob2_4 := V_ob2_3.keep K4q (ninS ne_ob2_b3 nin0)
      have Z4 := Nat.le_trans Z3 K4q.1
      have ne_b1_ob4 : b1 ≠ ob4 := Nat.ne_of_lt (Nat.lt_of_lt_of_le F_b1_max_3.lt c4_6)
      have ne_ob2_ob4 : ob2 ≠ ob4 := Nat.ne_of_lt (Nat.lt_of_lt_of_le V_ob2_3.lt c4_6)
      have ne_b3_ob4 : b3 ≠ ob4 := Nat.ne_of_lt (Nat.lt_of_lt_of_le F_b3_max.lt c4_6)
      have g_ob4 : n0 ≤ ob4 := Nat.le_trans Z3 c4_6
      show own_Fin _ _ _ _ _ _ _ (T4.setTop (mkF m 44 #[.val (.long va), .second, .val (.long vb), .second, .val (.int vc), .val (.int (0 : Int32)), .val (.int (0 : Int32)), .val (.ref b1), .unset, .unset, .unset, .unset, .unset, .unset] [(.ref b3)]))
      refine own_Fin.go (fun t k => XS.astore X4.here hx rfl (hb hby at_44) rfl rfl (l' := #[.val (.long va), .second, .val (.long vb), .second, .val (.int vc), .val (.int (0 : Int32)), .val (.int (0 : Int32)), .val (.ref b1), .val (.ref b3), .unset, .unset, .unset, .unset, .unset]) rfl k) ?_
      show own_Fin _ _ _ _ _ _ _ (T4.setTop (mkF m 46 #[.val (.long va), .second, .val (.long vb), .second, .val (.int vc), .val (.int (0 : Int32)), .val (.int (0 : Int32)), .val (.ref b1), .val (.ref b3), .unset, .unset, .unset, .unset, .unset] []))
      obtain ⟨T5, h5, X5, e5, E5, A5, D5, -, st5⟩ := newO X4 hx hZ hown (hw _ (List.mem_of_getElem? (i := 0) rfl)) (hw _ (List.mem_of_getElem? (i := 1) rfl)) (hw _ (List.mem_of_getElem? (i := 2) rfl)) rfl (g := (mkF m 46 #[.val (.long va), .second, .val (.long vb), .second, .val (.int vc), .val (.int (0 : Int32)), .val (.int (0 : Int32)), .val (.ref b1), .val (.ref b3), .unset, .unset, .unset, .unset, .unset] [])) rfl (hb hby at_46) (by decide) (by decide)
      obtain ⟨b5, g5⟩ : ∃ z, z = T4.heap.size := ⟨_, rfl⟩
      rw [← g5] at A5 D5 st5
      refine own_Fin.go st5 ?_
      have g_b5 : n0 ≤ b5 := Nat.le_trans Z4 (Nat.le_of_eq g5.symm)
      have ne_b1_b5 : b1 ≠ b5 := Nat.ne_of_lt (Nat.lt_of_lt_of_le F_b1_max_4.lt (Nat.le_of_eq g5.symm))
      have ne_ob2_b5 : ob2 ≠ b5 := Nat.ne_of_lt (Nat.lt_of_lt_of_le V_ob2_4.lt (Nat.le_of_eq g5.symm))
      have ne_b3_b5 : b3 ≠ b5 := Nat.ne_of_lt (Nat.lt_of_lt_of_le c4_4.lt (Nat.le_of_eq g5.symm))
      have ne_ob4_b5 : ob4 ≠ b5 := Nat.ne_of_lt (Nat.lt_of_lt_of_le c4_5.lt (Nat.le_of_eq g5.symm))
      have E_b1_5 := Exa.ext E5 E_b1_4
      have F_b1_counts_5 := Fld.ext E5 F_b1_counts_4
      have F_b1_count_5 := Fld.ext E5 F_b1_count_4
      have F_b1_max_5 := Fld.ext E5 F_b1_max_4
      have V_ob2_5 := V_ob2_4.ext E5
      have E_b3_5 := Exa.ext E5 c4_1
      have F_b3_counts_5 := Fld.ext E5 c4_2
      have F_b3_count_5 := Fld.ext E5 c4_3
      have F_b3_max_5 := Fld.ext E5 c4_4
      have V_ob4_5 := c4_5.ext E5
      have Z5 := Nat.le_trans Z4 E5.1
      have F_b5_counts : Fld Z h5 b5 "com/example/canopy/canopy/bench/LatencyHistogram" "counts" "[J" .null := D5 (Or.inr (hw _ (List.mem_of_getElem? (i := 11) rfl))) (ty := (.array .long)) (by decide)
      have F_b5_count : Fld Z h5 b5 "com/example/canopy/canopy/bench/LatencyHistogram" "count" "J" (.long (0 : Int64)) := D5 (Or.inl (hw _ (List.mem_of_getElem? (i := 18) rfl))) (ty := .long) (by decide)
      have F_b5_max : Fld Z h5 b5 "com/example/canopy/canopy/bench/LatencyHistogram" "max" "J" (.long (0 : Int64)) := D5 (Or.inl (hw _ (List.mem_of_getElem? (i := 20) rfl))) (ty := .long) (by decide)
      show own_Fin _ _ _ _ _ _ _ (T5.setTop (mkF m 49 #[.val (.long va), .second, .val (.long vb), .second, .val (.int vc), .val (.int (0 : Int32)), .val (.int (0 : Int32)), .val (.ref b1), .val (.ref b3), .unset, .unset, .unset, .unset, .unset] [(.ref b5)]))
      refine own_Fin.go (fun t k => XS.dup X5.here hx rfl (hb hby at_49) rfl rfl k) ?_
      show own_Fin _ _ _ _ _ _ _ (T5.setTop (mkF m 50 #[.val (.long va), .second, .val (.long vb), .second, .val (.int vc), .val (.int (0 : Int32)), .val (.int (0 : Int32)), .val (.ref b1), .val (.ref b3), .unset, .unset, .unset, .unset, .unset] [(.ref b5), (.ref b5)]))
      obtain ⟨_, _, ⟨T6, L6, k6, n6⟩, -, X6, ⟨Lc6, hQ6, l6, y6, z6⟩, st6⟩ := X5.specialBack hx (y := (⟨"com/example/canopy/canopy/bench/LatencyHistogram", "<init>", "()V"⟩ : MethodName)) rfl hown (mvT hZ (hw _ (List.mem_of_getElem? (i := 3) rfl))) (mvT hZ (hw _ (List.mem_of_getElem? (i := 4) rfl))) (mvT hZ (hw _ (List.mem_of_getElem? (i := 5) rfl))) (by decide) (backOf (W := 1) (own_rm_ini l Z a0 hw [] b5  h5 n0 Z5 A5 F_b5_counts F_b5_count F_b5_max g_b5) hZ (hw _ (List.mem_of_getElem? (i := 5) rfl)) (hw _ (List.mem_of_getElem? (i := 2) rfl)) (by decide) (by decide)) (g := (mkF m 50 #[.val (.long va), .second, .val (.long vb), .second, .val (.int vc), .val (.int (0 : Int32)), .val (.int (0 : Int32)), .val (.ref b1), .val (.ref b3), .unset, .unset, .unset, .unset, .unset] [(.ref b5), (.ref b5)])) rfl (by rw [hml]; rfl) (Steps.refl _) (a := b5) (argsL := []) (rest := [(.ref b5)]) (lenOf own_pd4 rfl) rfl (by show 2 * 0 + _ ≤ _; exact Nat.le_of_eq rfl) (hb hby at_50) (fun _ _ => ⟨rfl, e5, (by decide : 5 + 1 ≤ _), (by decide : 7561 + 3776 ≤ _)⟩)
      dsimp only [Pt.U, Pt.locs, Pt.cells, Pt.slots] at X6 l6 y6 z6 st6 hQ6
      subst l6 y6 z6
      obtain ⟨ob6, kb6, rfl, N6q, K6q, c6_1, c6_2, c6_3, c6_4, c6_5, c6_6, c6_7⟩ := hQ6
      refine own_Fin.go (fun t k => st6.trans k) ?_
      have N6 := Fr.app N4 N6q
      have E_b1_6 := E_b1_5.keep K6q
      have F_b1_counts_6 := F_b1_counts_5.keep K6q (ninS ne_b1_b5 nin0)
      have F_b1_count_6 := F_b1_count_5.keep K6q (ninS ne_b1_b5 nin0)
      have F_b1_max_6 := F_b1_max_5.keep K6q (ninS ne_b1_b5 nin0)
      have V_ob2_6 := V_ob2_5.keep K6q (ninS ne_ob2_b5 nin0)
      have E_b3_6 := E_b3_5.keep K6q
      have F_b3_counts_6 := F_b3_counts_5.keep K6q (ninS ne_b3_b5 nin0)
      have F_b3_count_6 := F_b3_count_5.keep K6q (ninS ne_b3_b5 nin0)
      have F_b3_max_6 := F_b3_max_5.keep K6q (ninS ne_b3_b5 nin0)
      have V_ob4_6 := V_ob4_5.keep K6q (ninS ne_ob4_b5 nin0)
      have Z6 := Nat.le_trans Z5 K6q.1
      have ne_b1_ob6 : b1 ≠ ob6 := Nat.ne_of_lt (Nat.lt_of_lt_of_le F_b1_max_5.lt c6_6)
      have ne_ob2_ob6 : ob2 ≠ ob6 := Nat.ne_of_lt (Nat.lt_of_lt_of_le V_ob2_5.lt c6_6)
      have ne_b3_ob6 : b3 ≠ ob6 := Nat.ne_of_lt (Nat.lt_of_lt_of_le F_b3_max_5.lt c6_6)
      have ne_ob4_ob6 : ob4 ≠ ob6 := Nat.ne_of_lt (Nat.lt_of_lt_of_le V_ob4_5.lt c6_6)
      have ne_b5_ob6 : b5 ≠ ob6 := Nat.ne_of_lt (Nat.lt_of_lt_of_le F_b5_max.lt c6_6)
      have g_ob6 : n0 ≤ ob6 := Nat.le_trans Z5 c6_6
      show own_Fin _ _ _ _ _ _ _ (T6.setTop (mkF m 53 #[.val (.long va), .second, .val (.long vb), .second, .val (.int vc), .val (.int (0 : Int32)), .val (.int (0 : Int32)), .val (.ref b1), .val (.ref b3), .unset, .unset, .unset, .unset, .unset] [(.ref b5)]))
      refine own_Fin.go (fun t k => XS.astore X6.here hx rfl (hb hby at_53) rfl rfl (l' := #[.val (.long va), .second, .val (.long vb), .second, .val (.int vc), .val (.int (0 : Int32)), .val (.int (0 : Int32)), .val (.ref b1), .val (.ref b3), .val (.ref b5), .unset, .unset, .unset, .unset]) rfl k) ?_
      show own_Fin _ _ _ _ _ _ _ (T6.setTop (mkF m 55 #[.val (.long va), .second, .val (.long vb), .second, .val (.int vc), .val (.int (0 : Int32)), .val (.int (0 : Int32)), .val (.ref b1), .val (.ref b3), .val (.ref b5), .unset, .unset, .unset, .unset] []))
      refine own_Fin.go (fun t k => XS.lconst X6.here hx rfl (hb hby at_55) k) ?_
      show own_Fin _ _ _ _ _ _ _ (T6.setTop (mkF m 56 #[.val (.long va), .second, .val (.long vb), .second, .val (.int vc), .val (.int (0 : Int32)), .val (.int (0 : Int32)), .val (.ref b1), .val (.ref b3), .val (.ref b5), .unset, .unset, .unset, .unset] [(.long (0 : Int64))]))
      refine own_Fin.go (fun t k => XS.lstore X6.here hx rfl (hb hby at_56) rfl (l' := #[.val (.long va), .second, .val (.long vb), .second, .val (.int vc), .val (.int (0 : Int32)), .val (.int (0 : Int32)), .val (.ref b1), .val (.ref b3), .val (.ref b5), .val (.long (0 : Int64)), .second, .unset, .unset]) rfl k) ?_
      show own_Fin _ _ _ _ _ _ _ (T6.setTop (mkF m 58 #[.val (.long va), .second, .val (.long vb), .second, .val (.int vc), .val (.int (0 : Int32)), .val (.int (0 : Int32)), .val (.ref b1), .val (.ref b3), .val (.ref b5), .val (.long (0 : Int64)), .second, .unset, .unset] []))
      refine own_Fin.go (fun t k => XS.lconst X6.here hx rfl (hb hby at_58) k) ?_
      show own_Fin _ _ _ _ _ _ _ (T6.setTop (mkF m 59 #[.val (.long va), .second, .val (.long vb), .second, .val (.int vc), .val (.int (0 : Int32)), .val (.int (0 : Int32)), .val (.ref b1), .val (.ref b3), .val (.ref b5), .val (.long (0 : Int64)), .second, .unset, .unset] [(.long (0 : Int64))]))
      refine own_Fin.go (fun t k => XS.lstore X6.here hx rfl (hb hby at_59) rfl (l' := #[.val (.long va), .second, .val (.long vb), .second, .val (.int vc), .val (.int (0 : Int32)), .val (.int (0 : Int32)), .val (.ref b1), .val (.ref b3), .val (.ref b5), .val (.long (0 : Int64)), .second, .val (.long (0 : Int64)), .second]) rfl k) ?_
      show own_Fin _ _ _ _ _ _ _ (T6.setTop (mkF m 61 #[.val (.long va), .second, .val (.long vb), .second, .val (.int vc), .val (.int (0 : Int32)), .val (.int (0 : Int32)), .val (.ref b1), .val (.ref b3), .val (.ref b5), .val (.long (0 : Int64)), .second, .val (.long (0 : Int64)), .second] []))
      refine own_Fin.go (fun t k => XS.iload X6.here hx rfl (hb hby at_61) rfl k) ?_
      show own_Fin _ _ _ _ _ _ _ (T6.setTop (mkF m 63 #[.val (.long va), .second, .val (.long vb), .second, .val (.int vc), .val (.int (0 : Int32)), .val (.int (0 : Int32)), .val (.ref b1), .val (.ref b3), .val (.ref b5), .val (.long (0 : Int64)), .second, .val (.long (0 : Int64)), .second] [(.int (0 : Int32))]))
      refine own_Fin.go (fun t k => XS.ifYes X6.here hx rfl (pc0 := 63) (pc' := 92) rfl (hb hby at_63) rfl (by decide) (by decide) (by decide) k) ?_
      show own_Fin _ _ _ _ _ _ _ (T6.setTop (mkF m 92 #[.val (.long va), .second, .val (.long vb), .second, .val (.int vc), .val (.int (0 : Int32)), .val (.int (0 : Int32)), .val (.ref b1), .val (.ref b3), .val (.ref b5), .val (.long (0 : Int64)), .second, .val (.long (0 : Int64)), .second] []))
      refine own_Fin.go (fun t k => XS.iload X6.here hx rfl (hb hby at_92) rfl k) ?_
      show own_Fin _ _ _ _ _ _ _ (T6.setTop (mkF m 94 #[.val (.long va), .second, .val (.long vb), .second, .val (.int vc), .val (.int (0 : Int32)), .val (.int (0 : Int32)), .val (.ref b1), .val (.ref b3), .val (.ref b5), .val (.long (0 : Int64)), .second, .val (.long (0 : Int64)), .second] [(.int (0 : Int32))]))
      refine own_Fin.go (fun t k => XS.ifYes X6.here hx rfl (pc0 := 94) (pc' := 123) rfl (hb hby at_94) rfl (by decide) (by decide) (by decide) k) ?_
      show own_Fin _ _ _ _ _ _ _ (T6.setTop (mkF m 123 #[.val (.long va), .second, .val (.long vb), .second, .val (.int vc), .val (.int (0 : Int32)), .val (.int (0 : Int32)), .val (.ref b1), .val (.ref b3), .val (.ref b5), .val (.long (0 : Int64)), .second, .val (.long (0 : Int64)), .second] []))
      refine own_Fin.go (fun t k => XS.aload X6.here hx rfl (hb hby at_123) rfl rfl k) ?_
      show own_Fin _ _ _ _ _ _ _ (T6.setTop (mkF m 125 #[.val (.long va), .second, .val (.long vb), .second, .val (.int vc), .val (.int (0 : Int32)), .val (.int (0 : Int32)), .val (.ref b1), .val (.ref b3), .val (.ref b5), .val (.long (0 : Int64)), .second, .val (.long (0 : Int64)), .second] [(.ref b1)]))
      refine own_Fin.go (fun t k => XS.aload X6.here hx rfl (hb hby at_125) rfl rfl k) ?_
      show own_Fin _ _ _ _ _ _ _ (T6.setTop (mkF m 127 #[.val (.long va), .second, .val (.long vb), .second, .val (.int vc), .val (.int (0 : Int32)), .val (.int (0 : Int32)), .val (.ref b1), .val (.ref b3), .val (.ref b5), .val (.long (0 : Int64)), .second, .val (.long (0 : Int64)), .second] [(.ref b3), (.ref b1)]))
      obtain ⟨cq7, kq7, q7a, q7b, q7c⟩ := isOf hZ rfl E_b1_6
      obtain ⟨_, _, ⟨T7, L7, k7, n7⟩, -, X7, ⟨Lc7, hQ7, l7, y7, z7⟩, st7⟩ := X6.virtualBack hx (y := (⟨"com/example/canopy/canopy/bench/LatencyHistogram", "add", "(Lcom/example/canopy/canopy/bench/LatencyHistogram;)V"⟩ : MethodName)) (z := (⟨"com/example/canopy/canopy/bench/LatencyHistogram", "add", "(Lcom/example/canopy/canopy/bench/LatencyHistogram;)V"⟩ : MethodName)) hown (mvT hZ (hw _ (List.mem_of_getElem? (i := 12) rfl))) (mvT hZ (hw _ (List.mem_of_getElem? (i := 13) rfl))) (notFace_of_selects (args := #[]) (mvT hZ (hw _ (List.mem_of_getElem? (i := 15) rfl)))) (mvT hZ (hw _ (List.mem_of_getElem? (i := 15) rfl))) (mvT hZ (hw _ (List.mem_of_getElem? (i := 14) rfl))) (by decide) (backOf (W := 0) (own_rm_add l Z a0 hw [] b1 b3 ob2 kb2 (0 : Int64) (0 : Int64) own_zero ob4 kb4 (0 : Int64) (0 : Int64) own_zero T6.heap n0 Z6 E_b1_6 F_b1_counts_6 F_b1_count_6 F_b1_max_6 V_ob2_6 g_b1 g_ob2 c2_7 E_b3_6 F_b3_counts_6 F_b3_count_6 F_b3_max_6 V_ob4_6 ne_b1_b3 (Ne.symm ne_ob2_b3) ne_b1_ob4 (Ne.symm ne_ob2_ob4)) hZ (hw _ (List.mem_of_getElem? (i := 16) rfl)) (hw _ (List.mem_of_getElem? (i := 2) rfl)) (by decide) (by decide)) q7a q7c (g := (mkF m 127 #[.val (.long va), .second, .val (.long vb), .second, .val (.int vc), .val (.int (0 : Int32)), .val (.int (0 : Int32)), .val (.ref b1), .val (.ref b3), .val (.ref b5), .val (.long (0 : Int64)), .second, .val (.long (0 : Int64)), .second] [(.ref b3), (.ref b1)])) rfl (by rw [hml]; rfl) (Steps.refl _) (argsL := [(.ref b3)]) (rest := []) (lenOf own_pd5 rfl) rfl (by show 2 * 0 + _ ≤ _; exact Nat.le_of_eq rfl) (hb hby at_127) (fun _ _ => ⟨rfl, rfl, (by decide : 6 + 0 ≤ _), (by decide : 11337 + 0 ≤ _)⟩)
      dsimp only [Pt.U, Pt.locs, Pt.cells, Pt.slots] at X7 l7 y7 z7 st7 hQ7
      subst l7 y7 z7
      obtain ⟨rfl, N7q, K7q, c7_1, c7_2, c7_3, c7_4, c7_5⟩ := hQ7
      refine own_Fin.go (fun t k => st7.trans k) ?_
      have N7 := Fr.app N6 N7q
      have E_b3_7 := E_b3_6.keep K7q
      have F_b3_counts_7 := F_b3_counts_6.keep K7q (ninS (Ne.symm ne_b1_b3) (ninS (Ne.symm ne_ob2_b3) nin0))
      have F_b3_count_7 := F_b3_count_6.keep K7q (ninS (Ne.symm ne_b1_b3) (ninS (Ne.symm ne_ob2_b3) nin0))
      have F_b3_max_7 := F_b3_max_6.keep K7q (ninS (Ne.symm ne_b1_b3) (ninS (Ne.symm ne_ob2_b3) nin0))
      have V_ob4_7 := V_ob4_6.keep K7q (ninS (Ne.symm ne_b1_ob4) (ninS (Ne.symm ne_ob2_ob4) nin0))
      have E_b5_7 := c6_1.keep K7q
      have F_b5_counts_7 := c6_2.keep K7q (ninS (Ne.symm ne_b1_b5) (ninS (Ne.symm ne_ob2_b5) nin0))
      have F_b5_count_7 := c6_3.keep K7q (ninS (Ne.symm ne_b1_b5) (ninS (Ne.symm ne_ob2_b5) nin0))
      have F_b5_max_7 := c6_4.keep K7q (ninS (Ne.symm ne_b1_b5) (ninS (Ne.symm ne_ob2_b5) nin0))
      have V_ob6_7 := c6_5.keep K7q (ninS (Ne.symm ne_b1_ob6) (ninS (Ne.symm ne_ob2_ob6) nin0))
      have Z7 := Nat.le_trans Z6 K7q.1
      show own_Fin _ _ _ _ _ _ _ (T7.setTop (mkF m 130 #[.val (.long va), .second, .val (.long vb), .second, .val (.int vc), .val (.int (0 : Int32)), .val (.int (0 : Int32)), .val (.ref b1), .val (.ref b3), .val (.ref b5), .val (.long (0 : Int64)), .second, .val (.long (0 : Int64)), .second] []))
      refine own_Fin.go (fun t k => XS.aload X7.here hx rfl (hb hby at_130) rfl rfl k) ?_
      show own_Fin _ _ _ _ _ _ _ (T7.setTop (mkF m 132 #[.val (.long va), .second, .val (.long vb), .second, .val (.int vc), .val (.int (0 : Int32)), .val (.int (0 : Int32)), .val (.ref b1), .val (.ref b3), .val (.ref b5), .val (.long (0 : Int64)), .second, .val (.long (0 : Int64)), .second] [(.ref b1)]))
      obtain ⟨cq8, kq8, q8a, q8b, q8c⟩ := isOf hZ rfl c7_1
      obtain ⟨_, _, ⟨T8, L8, k8, n8⟩, -, X8, ⟨Lc8, hQ8, l8, y8, z8⟩, st8⟩ := X7.virtualBack hx (y := (⟨"com/example/canopy/canopy/bench/LatencyHistogram", "count", "()J"⟩ : MethodName)) (z := (⟨"com/example/canopy/canopy/bench/LatencyHistogram", "count", "()J"⟩ : MethodName)) hown (mvT hZ (hw _ (List.mem_of_getElem? (i := 25) rfl))) (mvT hZ (hw _ (List.mem_of_getElem? (i := 26) rfl))) (notFace_of_selects (args := #[]) (mvT hZ (hw _ (List.mem_of_getElem? (i := 28) rfl)))) (mvT hZ (hw _ (List.mem_of_getElem? (i := 28) rfl))) (mvT hZ (hw _ (List.mem_of_getElem? (i := 27) rfl))) (by decide) (backOf (W := 0) (own_rm_cnt l Z a0 hw [] b1 ((0 : Int64) + (0 : Int64)) T7.heap n0 Z7 c7_1 c7_3) hZ (hw _ (List.mem_of_getElem? (i := 29) rfl)) (hw _ (List.mem_of_getElem? (i := 2) rfl)) (by decide) (by decide)) q8a q8c (g := (mkF m 132 #[.val (.long va), .second, .val (.long vb), .second, .val (.int vc), .val (.int (0 : Int32)), .val (.int (0 : Int32)), .val (.ref b1), .val (.ref b3), .val (.ref b5), .val (.long (0 : Int64)), .second, .val (.long (0 : Int64)), .second] [(.ref b1)])) rfl (by rw [hml]; rfl) (Steps.refl _) (argsL := []) (rest := []) (lenOf own_pd6 rfl) rfl (by show 2 * 0 + _ ≤ _; exact Nat.le_of_eq rfl) (hb hby at_132) (fun _ _ => ⟨rfl, rfl, (by decide : 6 + 0 ≤ _), (by decide : 11337 + 0 ≤ _)⟩)
      dsimp only [Pt.U, Pt.locs, Pt.cells, Pt.slots] at X8 l8 y8 z8 st8 hQ8
      subst l8 y8 z8
      obtain ⟨rfl, N8q, e8⟩ := hQ8
      refine own_Fin.go (fun t k => st8.trans k) ?_
      have N8 := Fr.app N7 N8q
      show own_Fin _ _ _ _ _ _ _ (T8.setTop (mkF m 135 #[.val (.long va), .second, .val (.long vb), .second, .val (.int vc), .val (.int (0 : Int32)), .val (.int (0 : Int32)), .val (.ref b1), .val (.ref b3), .val (.ref b5), .val (.long (0 : Int64)), .second, .val (.long (0 : Int64)), .second] [(.long ((0 : Int64) + (0 : Int64)))]))
      refine own_Fin.go (fun t k => XS.lload X8.here hx rfl (hb hby at_135) rfl k) ?_
      show own_Fin _ _ _ _ _ _ _ (T8.setTop (mkF m 137 #[.val (.long va), .second, .val (.long vb), .second, .val (.int vc), .val (.int (0 : Int32)), .val (.int (0 : Int32)), .val (.ref b1), .val (.ref b3), .val (.ref b5), .val (.long (0 : Int64)), .second, .val (.long (0 : Int64)), .second] [(.long (0 : Int64)), (.long ((0 : Int64) + (0 : Int64)))]))
      refine own_Fin.go (fun t k => XS.lcmp X8.here hx rfl (hb hby at_137) rfl k) ?_
      show own_Fin _ _ _ _ _ _ _ (T8.setTop (mkF m 138 #[.val (.long va), .second, .val (.long vb), .second, .val (.int vc), .val (.int (0 : Int32)), .val (.int (0 : Int32)), .val (.ref b1), .val (.ref b3), .val (.ref b5), .val (.long (0 : Int64)), .second, .val (.long (0 : Int64)), .second] [(.int (lcmpW ((0 : Int64) + (0 : Int64)) (0 : Int64)))]))
      have hc138 : ((0 : Int64) + (0 : Int64)) = (0 : Int64) := (by decide)
      refine own_Fin.go (fun t k => XS.ifNo X8.here hx rfl (hb hby at_138) rfl (Jvm.Free.XT.ll_ne_f hc138) k) ?_
      show own_Fin _ _ _ _ _ _ _ (T8.setTop (mkF m 141 #[.val (.long va), .second, .val (.long vb), .second, .val (.int vc), .val (.int (0 : Int32)), .val (.int (0 : Int32)), .val (.ref b1), .val (.ref b3), .val (.ref b5), .val (.long (0 : Int64)), .second, .val (.long (0 : Int64)), .second] []))
      refine own_Fin.go (fun t k => XS.aload X8.here hx rfl (hb hby at_141) rfl rfl k) ?_
      show own_Fin _ _ _ _ _ _ _ (T8.setTop (mkF m 143 #[.val (.long va), .second, .val (.long vb), .second, .val (.int vc), .val (.int (0 : Int32)), .val (.int (0 : Int32)), .val (.ref b1), .val (.ref b3), .val (.ref b5), .val (.long (0 : Int64)), .second, .val (.long (0 : Int64)), .second] [(.ref b1)]))
      obtain ⟨cq9, kq9, q9a, q9b, q9c⟩ := isOf hZ e8 c7_1
      obtain ⟨_, _, ⟨T9, L9, k9, n9⟩, -, X9, ⟨Lc9, hQ9, l9, y9, z9⟩, st9⟩ := X8.virtualBack hx (y := (⟨"com/example/canopy/canopy/bench/LatencyHistogram", "max", "()J"⟩ : MethodName)) (z := (⟨"com/example/canopy/canopy/bench/LatencyHistogram", "max", "()J"⟩ : MethodName)) hown (mvT hZ (hw _ (List.mem_of_getElem? (i := 30) rfl))) (mvT hZ (hw _ (List.mem_of_getElem? (i := 31) rfl))) (notFace_of_selects (args := #[]) (mvT hZ (hw _ (List.mem_of_getElem? (i := 33) rfl)))) (mvT hZ (hw _ (List.mem_of_getElem? (i := 33) rfl))) (mvT hZ (hw _ (List.mem_of_getElem? (i := 32) rfl))) (by decide) (backOf (W := 0) (own_rm_max l Z a0 hw [] b1 (own_mx (0 : Int64) (0 : Int64)) T7.heap n0 Z7 c7_1 c7_4) hZ (hw _ (List.mem_of_getElem? (i := 34) rfl)) (hw _ (List.mem_of_getElem? (i := 2) rfl)) (by decide) (by decide)) q9a q9c (g := (mkF m 143 #[.val (.long va), .second, .val (.long vb), .second, .val (.int vc), .val (.int (0 : Int32)), .val (.int (0 : Int32)), .val (.ref b1), .val (.ref b3), .val (.ref b5), .val (.long (0 : Int64)), .second, .val (.long (0 : Int64)), .second] [(.ref b1)])) rfl (by rw [hml]; rfl) (Steps.refl _) (argsL := []) (rest := []) (lenOf own_pd6 rfl) rfl (by show 2 * 0 + _ ≤ _; exact Nat.le_of_eq rfl) (hb hby at_143) (fun _ _ => ⟨rfl, e8, (by decide : 6 + 0 ≤ _), (by decide : 11337 + 0 ≤ _)⟩)
      dsimp only [Pt.U, Pt.locs, Pt.cells, Pt.slots] at X9 l9 y9 z9 st9 hQ9
      subst l9 y9 z9
      obtain ⟨rfl, N9q, e9⟩ := hQ9
      refine own_Fin.go (fun t k => st9.trans k) ?_
      have N9 := Fr.app N8 N9q
      show own_Fin _ _ _ _ _ _ _ (T9.setTop (mkF m 146 #[.val (.long va), .second, .val (.long vb), .second, .val (.int vc), .val (.int (0 : Int32)), .val (.int (0 : Int32)), .val (.ref b1), .val (.ref b3), .val (.ref b5), .val (.long (0 : Int64)), .second, .val (.long (0 : Int64)), .second] [(.long (own_mx (0 : Int64) (0 : Int64)))]))
      rw [show (own_mx (0 : Int64) (0 : Int64)) = (0 : Int64) from by decide +kernel]
      show own_Fin _ _ _ _ _ _ _ (T9.setTop (mkF m 146 #[.val (.long va), .second, .val (.long vb), .second, .val (.int vc), .val (.int (0 : Int32)), .val (.int (0 : Int32)), .val (.ref b1), .val (.ref b3), .val (.ref b5), .val (.long (0 : Int64)), .second, .val (.long (0 : Int64)), .second] [(.long (0 : Int64))]))
      refine own_Fin.go (fun t k => XS.lload X9.here hx rfl (hb hby at_146) rfl k) ?_
      show own_Fin _ _ _ _ _ _ _ (T9.setTop (mkF m 148 #[.val (.long va), .second, .val (.long vb), .second, .val (.int vc), .val (.int (0 : Int32)), .val (.int (0 : Int32)), .val (.ref b1), .val (.ref b3), .val (.ref b5), .val (.long (0 : Int64)), .second, .val (.long (0 : Int64)), .second] [(.long (0 : Int64)), (.long (0 : Int64))]))
      refine own_Fin.go (fun t k => XS.lcmp X9.here hx rfl (hb hby at_148) rfl k) ?_
      show own_Fin _ _ _ _ _ _ _ (T9.setTop (mkF m 149 #[.val (.long va), .second, .val (.long vb), .second, .val (.int vc), .val (.int (0 : Int32)), .val (.int (0 : Int32)), .val (.ref b1), .val (.ref b3), .val (.ref b5), .val (.long (0 : Int64)), .second, .val (.long (0 : Int64)), .second] [(.int (lcmpW (0 : Int64) (0 : Int64)))]))
      refine own_Fin.go (fun t k => XS.ifNo X9.here hx rfl (hb hby at_149) rfl (by decide) k) ?_
      show own_Fin _ _ _ _ _ _ _ (T9.setTop (mkF m 152 #[.val (.long va), .second, .val (.long vb), .second, .val (.int vc), .val (.int (0 : Int32)), .val (.int (0 : Int32)), .val (.ref b1), .val (.ref b3), .val (.ref b5), .val (.long (0 : Int64)), .second, .val (.long (0 : Int64)), .second] []))
      refine own_Fin.go (fun t k => XS.aload X9.here hx rfl (hb hby at_152) rfl rfl k) ?_
      show own_Fin _ _ _ _ _ _ _ (T9.setTop (mkF m 154 #[.val (.long va), .second, .val (.long vb), .second, .val (.int vc), .val (.int (0 : Int32)), .val (.int (0 : Int32)), .val (.ref b1), .val (.ref b3), .val (.ref b5), .val (.long (0 : Int64)), .second, .val (.long (0 : Int64)), .second] [(.ref b1)]))
      refine own_Fin.go (fun t k => XS.dconst0 X9.here hx rfl (hb hby at_154) rfl k) ?_
      show own_Fin _ _ _ _ _ _ _ (T9.setTop (mkF m 155 #[.val (.long va), .second, .val (.long vb), .second, .val (.int vc), .val (.int (0 : Int32)), .val (.int (0 : Int32)), .val (.ref b1), .val (.ref b3), .val (.ref b5), .val (.long (0 : Int64)), .second, .val (.long (0 : Int64)), .second] [(.double Jvm.FP.dconst0), (.ref b1)]))
      obtain ⟨cq10, kq10, q10a, q10b, q10c⟩ := isOf hZ e9 c7_1
      obtain ⟨_, _, ⟨T10, L10, k10, n10⟩, -, X10, ⟨Lc10, hQ10, l10, y10, z10⟩, st10⟩ := X9.virtualBack hx (y := (⟨"com/example/canopy/canopy/bench/LatencyHistogram", "percentile", "(D)J"⟩ : MethodName)) (z := (⟨"com/example/canopy/canopy/bench/LatencyHistogram", "percentile", "(D)J"⟩ : MethodName)) hown (mvT hZ (hw _ (List.mem_of_getElem? (i := 35) rfl))) (mvT hZ (hw _ (List.mem_of_getElem? (i := 36) rfl))) (notFace_of_selects (args := #[]) (mvT hZ (hw _ (List.mem_of_getElem? (i := 38) rfl)))) (mvT hZ (hw _ (List.mem_of_getElem? (i := 38) rfl))) (mvT hZ (hw _ (List.mem_of_getElem? (i := 37) rfl))) (by decide) (backOf (W := 0) (own_rm_pct l Z a0 hw [] b1 ob2 kb2 ((0 : Int64) + (0 : Int64)) (own_mx (0 : Int64) (0 : Int64)) (own_mix own_zero own_zero 3776) T7.heap n0 Z7 c7_1 c7_2 c7_3 c7_4 c7_5 (by decide)) hZ (hw _ (List.mem_of_getElem? (i := 39) rfl)) (hw _ (List.mem_of_getElem? (i := 2) rfl)) (by decide) (by decide)) q10a q10c (g := (mkF m 155 #[.val (.long va), .second, .val (.long vb), .second, .val (.int vc), .val (.int (0 : Int32)), .val (.int (0 : Int32)), .val (.ref b1), .val (.ref b3), .val (.ref b5), .val (.long (0 : Int64)), .second, .val (.long (0 : Int64)), .second] [(.double Jvm.FP.dconst0), (.ref b1)])) rfl (by rw [hml]; rfl) (Steps.refl _) (argsL := [(.double Jvm.FP.dconst0)]) (rest := []) (lenOf own_pd7 rfl) rfl (by show 2 * 0 + _ ≤ _; exact Nat.le_of_eq rfl) (hb hby at_155) (fun _ _ => ⟨rfl, e9, (by decide : 6 + 0 ≤ _), (by decide : 11337 + 0 ≤ _)⟩)
      dsimp only [Pt.U, Pt.locs, Pt.cells, Pt.slots] at X10 l10 y10 z10 st10 hQ10
      subst l10 y10 z10
      obtain ⟨rfl, N10q, e10⟩ := hQ10
      refine own_Fin.go (fun t k => st10.trans k) ?_
      have N10 := Fr.app N9 N10q
      show own_Fin _ _ _ _ _ _ _ (T10.setTop (mkF m 158 #[.val (.long va), .second, .val (.long vb), .second, .val (.int vc), .val (.int (0 : Int32)), .val (.int (0 : Int32)), .val (.ref b1), .val (.ref b3), .val (.ref b5), .val (.long (0 : Int64)), .second, .val (.long (0 : Int64)), .second] [(.long (own_pct (own_mix own_zero own_zero 3776) ((0 : Int64) + (0 : Int64)) (own_mx (0 : Int64) (0 : Int64))))]))
      refine own_Fin.go (fun t k => XS.aload X10.here hx rfl (hb hby at_158) rfl rfl k) ?_
      show own_Fin _ _ _ _ _ _ _ (T10.setTop (mkF m 160 #[.val (.long va), .second, .val (.long vb), .second, .val (.int vc), .val (.int (0 : Int32)), .val (.int (0 : Int32)), .val (.ref b1), .val (.ref b3), .val (.ref b5), .val (.long (0 : Int64)), .second, .val (.long (0 : Int64)), .second] [(.ref b5), (.long (own_pct (own_mix own_zero own_zero 3776) ((0 : Int64) + (0 : Int64)) (own_mx (0 : Int64) (0 : Int64))))]))
      refine own_Fin.go (fun t k => XS.dconst0 X10.here hx rfl (hb hby at_160) rfl k) ?_
      show own_Fin _ _ _ _ _ _ _ (T10.setTop (mkF m 161 #[.val (.long va), .second, .val (.long vb), .second, .val (.int vc), .val (.int (0 : Int32)), .val (.int (0 : Int32)), .val (.ref b1), .val (.ref b3), .val (.ref b5), .val (.long (0 : Int64)), .second, .val (.long (0 : Int64)), .second] [(.double Jvm.FP.dconst0), (.ref b5), (.long (own_pct (own_mix own_zero own_zero 3776) ((0 : Int64) + (0 : Int64)) (own_mx (0 : Int64) (0 : Int64))))]))
      obtain ⟨cq11, kq11, q11a, q11b, q11c⟩ := isOf hZ e10 E_b5_7
      obtain ⟨_, _, ⟨T11, L11, k11, n11⟩, -, X11, ⟨Lc11, hQ11, l11, y11, z11⟩, st11⟩ := X10.virtualBack hx (y := (⟨"com/example/canopy/canopy/bench/LatencyHistogram", "percentile", "(D)J"⟩ : MethodName)) (z := (⟨"com/example/canopy/canopy/bench/LatencyHistogram", "percentile", "(D)J"⟩ : MethodName)) hown (mvT hZ (hw _ (List.mem_of_getElem? (i := 35) rfl))) (mvT hZ (hw _ (List.mem_of_getElem? (i := 36) rfl))) (notFace_of_selects (args := #[]) (mvT hZ (hw _ (List.mem_of_getElem? (i := 38) rfl)))) (mvT hZ (hw _ (List.mem_of_getElem? (i := 38) rfl))) (mvT hZ (hw _ (List.mem_of_getElem? (i := 37) rfl))) (by decide) (backOf (W := 2) (own_rm_pct l Z a0 hw [] b5 ob6 kb6 (0 : Int64) (0 : Int64) own_zero T7.heap n0 Z7 E_b5_7 F_b5_counts_7 F_b5_count_7 F_b5_max_7 V_ob6_7 (by decide)) hZ (hw _ (List.mem_of_getElem? (i := 39) rfl)) (hw _ (List.mem_of_getElem? (i := 2) rfl)) (by decide) (by decide)) q11a q11c (g := (mkF m 161 #[.val (.long va), .second, .val (.long vb), .second, .val (.int vc), .val (.int (0 : Int32)), .val (.int (0 : Int32)), .val (.ref b1), .val (.ref b3), .val (.ref b5), .val (.long (0 : Int64)), .second, .val (.long (0 : Int64)), .second] [(.double Jvm.FP.dconst0), (.ref b5), (.long (own_pct (own_mix own_zero own_zero 3776) ((0 : Int64) + (0 : Int64)) (own_mx (0 : Int64) (0 : Int64))))])) rfl (by rw [hml]; rfl) (Steps.refl _) (argsL := [(.double Jvm.FP.dconst0)]) (rest := [(.long (own_pct (own_mix own_zero own_zero 3776) ((0 : Int64) + (0 : Int64)) (own_mx (0 : Int64) (0 : Int64))))]) (lenOf own_pd7 rfl) rfl (by show 2 * 0 + _ ≤ _; exact Nat.le_of_eq rfl) (hb hby at_161) (fun _ _ => ⟨rfl, e10, (by decide : 6 + 0 ≤ _), (by decide : 11337 + 0 ≤ _)⟩)
      dsimp only [Pt.U, Pt.locs, Pt.cells, Pt.slots] at X11 l11 y11 z11 st11 hQ11
      subst l11 y11 z11
      obtain ⟨rfl, N11q, e11⟩ := hQ11
      refine own_Fin.go (fun t k => st11.trans k) ?_
      have N11 := Fr.app N10 N11q
      show own_Fin _ _ _ _ _ _ _ (T11.setTop (mkF m 164 #[.val (.long va), .second, .val (.long vb), .second, .val (.int vc), .val (.int (0 : Int32)), .val (.int (0 : Int32)), .val (.ref b1), .val (.ref b3), .val (.ref b5), .val (.long (0 : Int64)), .second, .val (.long (0 : Int64)), .second] [(.long (own_pct own_zero (0 : Int64) (0 : Int64))), (.long (own_pct (own_mix own_zero own_zero 3776) ((0 : Int64) + (0 : Int64)) (own_mx (0 : Int64) (0 : Int64))))]))
      refine own_Fin.go (fun t k => XS.lcmp X11.here hx rfl (hb hby at_164) rfl k) ?_
      show own_Fin _ _ _ _ _ _ _ (T11.setTop (mkF m 165 #[.val (.long va), .second, .val (.long vb), .second, .val (.int vc), .val (.int (0 : Int32)), .val (.int (0 : Int32)), .val (.ref b1), .val (.ref b3), .val (.ref b5), .val (.long (0 : Int64)), .second, .val (.long (0 : Int64)), .second] [(.int (lcmpW (own_pct (own_mix own_zero own_zero 3776) ((0 : Int64) + (0 : Int64)) (own_mx (0 : Int64) (0 : Int64))) (own_pct own_zero (0 : Int64) (0 : Int64))))]))
      have hc165 : (own_pct (own_mix own_zero own_zero 3776) ((0 : Int64) + (0 : Int64)) (own_mx (0 : Int64) (0 : Int64))) = (own_pct own_zero (0 : Int64) (0 : Int64)) := own_pe (own_c1 _) (by decide) (by decide)
      refine own_Fin.go (fun t k => XS.ifNo X11.here hx rfl (hb hby at_165) rfl (Jvm.Free.XT.ll_ne_f hc165) k) ?_
      show own_Fin _ _ _ _ _ _ _ (T11.setTop (mkF m 168 #[.val (.long va), .second, .val (.long vb), .second, .val (.int vc), .val (.int (0 : Int32)), .val (.int (0 : Int32)), .val (.ref b1), .val (.ref b3), .val (.ref b5), .val (.long (0 : Int64)), .second, .val (.long (0 : Int64)), .second] []))
      refine own_Fin.go (fun t k => XS.iconst X11.here hx rfl (hb hby at_168) k) ?_
      show own_Fin _ _ _ _ _ _ _ (T11.setTop (mkF m 169 #[.val (.long va), .second, .val (.long vb), .second, .val (.int vc), .val (.int (0 : Int32)), .val (.int (0 : Int32)), .val (.ref b1), .val (.ref b3), .val (.ref b5), .val (.long (0 : Int64)), .second, .val (.long (0 : Int64)), .second] [(.int (1 : Int32))]))
      refine own_Fin.go (fun t k => XS.goto X11.here hx rfl (pc0 := 169) (pc' := 173) rfl (hb hby at_169) (by decide) (by decide) k) ?_
      show own_Fin _ _ _ _ _ _ _ (T11.setTop (mkF m 173 #[.val (.long va), .second, .val (.long vb), .second, .val (.int vc), .val (.int (0 : Int32)), .val (.int (0 : Int32)), .val (.ref b1), .val (.ref b3), .val (.ref b5), .val (.long (0 : Int64)), .second, .val (.long (0 : Int64)), .second] [(.int (1 : Int32))]))
      refine own_retN X11 hx (t := .boolean) (w := (1 : Int32)) Bd.returns (by simp) (hb hby at_173) Bd.notSynchronized rfl (by decide) (by decide) ?_
      rw [e11]
      exact ⟨rfl, N11⟩
    · refine own_Fin.go (fun t k => XS.ifNo X0.here hx rfl (hb hby at_18) rfl (Jvm.Free.XT.i0_eq_f hc18) k) ?_
      show own_Fin _ _ _ _ _ _ _ (s₁.setTop (mkF m 21 #[.val (.long va), .second, .val (.long vb), .second, .val (.int vc), .val (.int (0 : Int32)), .unset, .unset, .unset, .unset, .unset, .unset, .unset, .unset] []))
      refine own_Fin.go (fun t k => XS.iconst X0.here hx rfl (hb hby at_21) k) ?_
      show own_Fin _ _ _ _ _ _ _ (s₁.setTop (mkF m 22 #[.val (.long va), .second, .val (.long vb), .second, .val (.int vc), .val (.int (0 : Int32)), .unset, .unset, .unset, .unset, .unset, .unset, .unset, .unset] [(.int (1 : Int32))]))
      refine own_Fin.go (fun t k => XS.goto X0.here hx rfl (pc0 := 22) (pc' := 26) rfl (hb hby at_22) (by decide) (by decide) k) ?_
      show own_Fin _ _ _ _ _ _ _ (s₁.setTop (mkF m 26 #[.val (.long va), .second, .val (.long vb), .second, .val (.int vc), .val (.int (0 : Int32)), .unset, .unset, .unset, .unset, .unset, .unset, .unset, .unset] [(.int (1 : Int32))]))
      refine own_Fin.go (fun t k => XS.istore X0.here hx rfl (hb hby at_26) rfl (l' := #[.val (.long va), .second, .val (.long vb), .second, .val (.int vc), .val (.int (0 : Int32)), .val (.int (1 : Int32)), .unset, .unset, .unset, .unset, .unset, .unset, .unset]) rfl k) ?_
      show own_Fin _ _ _ _ _ _ _ (s₁.setTop (mkF m 28 #[.val (.long va), .second, .val (.long vb), .second, .val (.int vc), .val (.int (0 : Int32)), .val (.int (1 : Int32)), .unset, .unset, .unset, .unset, .unset, .unset, .unset] []))
      obtain ⟨T12, h12, X12, e12, E12, A12, D12, -, st12⟩ := newO X0 hx hZ hown (hw _ (List.mem_of_getElem? (i := 0) rfl)) (hw _ (List.mem_of_getElem? (i := 1) rfl)) (hw _ (List.mem_of_getElem? (i := 2) rfl)) e0 (g := (mkF m 28 #[.val (.long va), .second, .val (.long vb), .second, .val (.int vc), .val (.int (0 : Int32)), .val (.int (1 : Int32)), .unset, .unset, .unset, .unset, .unset, .unset, .unset] [])) rfl (hb hby at_28) (by decide) (by decide)
      obtain ⟨b12, g12⟩ : ∃ z, z = h0.size := ⟨_, rfl⟩
      rw [← g12] at A12 D12 st12
      refine own_Fin.go st12 ?_
      have g_b12 : n0 ≤ b12 := Nat.le_trans Z0 (Nat.le_of_eq g12.symm)
      have Z12 := Nat.le_trans Z0 E12.1
      have F_b12_counts : Fld Z h12 b12 "com/example/canopy/canopy/bench/LatencyHistogram" "counts" "[J" .null := D12 (Or.inr (hw _ (List.mem_of_getElem? (i := 11) rfl))) (ty := (.array .long)) (by decide)
      have F_b12_count : Fld Z h12 b12 "com/example/canopy/canopy/bench/LatencyHistogram" "count" "J" (.long (0 : Int64)) := D12 (Or.inl (hw _ (List.mem_of_getElem? (i := 18) rfl))) (ty := .long) (by decide)
      have F_b12_max : Fld Z h12 b12 "com/example/canopy/canopy/bench/LatencyHistogram" "max" "J" (.long (0 : Int64)) := D12 (Or.inl (hw _ (List.mem_of_getElem? (i := 20) rfl))) (ty := .long) (by decide)
      show own_Fin _ _ _ _ _ _ _ (T12.setTop (mkF m 31 #[.val (.long va), .second, .val (.long vb), .second, .val (.int vc), .val (.int (0 : Int32)), .val (.int (1 : Int32)), .unset, .unset, .unset, .unset, .unset, .unset, .unset] [(.ref b12)]))
      refine own_Fin.go (fun t k => XS.dup X12.here hx rfl (hb hby at_31) rfl rfl k) ?_
      show own_Fin _ _ _ _ _ _ _ (T12.setTop (mkF m 32 #[.val (.long va), .second, .val (.long vb), .second, .val (.int vc), .val (.int (0 : Int32)), .val (.int (1 : Int32)), .unset, .unset, .unset, .unset, .unset, .unset, .unset] [(.ref b12), (.ref b12)]))
      obtain ⟨_, _, ⟨T13, L13, k13, n13⟩, -, X13, ⟨Lc13, hQ13, l13, y13, z13⟩, st13⟩ := X12.specialBack hx (y := (⟨"com/example/canopy/canopy/bench/LatencyHistogram", "<init>", "()V"⟩ : MethodName)) rfl hown (mvT hZ (hw _ (List.mem_of_getElem? (i := 3) rfl))) (mvT hZ (hw _ (List.mem_of_getElem? (i := 4) rfl))) (mvT hZ (hw _ (List.mem_of_getElem? (i := 5) rfl))) (by decide) (backOf (W := 1) (own_rm_ini l Z a0 hw [] b12  h12 n0 Z12 A12 F_b12_counts F_b12_count F_b12_max g_b12) hZ (hw _ (List.mem_of_getElem? (i := 5) rfl)) (hw _ (List.mem_of_getElem? (i := 2) rfl)) (by decide) (by decide)) (g := (mkF m 32 #[.val (.long va), .second, .val (.long vb), .second, .val (.int vc), .val (.int (0 : Int32)), .val (.int (1 : Int32)), .unset, .unset, .unset, .unset, .unset, .unset, .unset] [(.ref b12), (.ref b12)])) rfl (by rw [hml]; rfl) (Steps.refl _) (a := b12) (argsL := []) (rest := [(.ref b12)]) (lenOf own_pd4 rfl) rfl (by show 2 * 0 + _ ≤ _; exact Nat.le_of_eq rfl) (hb hby at_32) (fun _ _ => ⟨rfl, e12, (by decide : 1 + 1 ≤ _), (by decide : 3 + 3776 ≤ _)⟩)
      dsimp only [Pt.U, Pt.locs, Pt.cells, Pt.slots] at X13 l13 y13 z13 st13 hQ13
      subst l13 y13 z13
      obtain ⟨ob13, kb13, rfl, N13q, K13q, c13_1, c13_2, c13_3, c13_4, c13_5, c13_6, c13_7⟩ := hQ13
      refine own_Fin.go (fun t k => st13.trans k) ?_
      have N13 := Fr.app N0 N13q
      have Z13 := Nat.le_trans Z12 K13q.1
      have ne_b12_ob13 : b12 ≠ ob13 := Nat.ne_of_lt (Nat.lt_of_lt_of_le F_b12_max.lt c13_6)
      have g_ob13 : n0 ≤ ob13 := Nat.le_trans Z12 c13_6
      show own_Fin _ _ _ _ _ _ _ (T13.setTop (mkF m 35 #[.val (.long va), .second, .val (.long vb), .second, .val (.int vc), .val (.int (0 : Int32)), .val (.int (1 : Int32)), .unset, .unset, .unset, .unset, .unset, .unset, .unset] [(.ref b12)]))
      refine own_Fin.go (fun t k => XS.astore X13.here hx rfl (hb hby at_35) rfl rfl (l' := #[.val (.long va), .second, .val (.long vb), .second, .val (.int vc), .val (.int (0 : Int32)), .val (.int (1 : Int32)), .val (.ref b12), .unset, .unset, .unset, .unset, .unset, .unset]) rfl k) ?_
      show own_Fin _ _ _ _ _ _ _ (T13.setTop (mkF m 37 #[.val (.long va), .second, .val (.long vb), .second, .val (.int vc), .val (.int (0 : Int32)), .val (.int (1 : Int32)), .val (.ref b12), .unset, .unset, .unset, .unset, .unset, .unset] []))
      obtain ⟨T14, h14, X14, e14, E14, A14, D14, -, st14⟩ := newO X13 hx hZ hown (hw _ (List.mem_of_getElem? (i := 0) rfl)) (hw _ (List.mem_of_getElem? (i := 1) rfl)) (hw _ (List.mem_of_getElem? (i := 2) rfl)) rfl (g := (mkF m 37 #[.val (.long va), .second, .val (.long vb), .second, .val (.int vc), .val (.int (0 : Int32)), .val (.int (1 : Int32)), .val (.ref b12), .unset, .unset, .unset, .unset, .unset, .unset] [])) rfl (hb hby at_37) (by decide) (by decide)
      obtain ⟨b14, g14⟩ : ∃ z, z = T13.heap.size := ⟨_, rfl⟩
      rw [← g14] at A14 D14 st14
      refine own_Fin.go st14 ?_
      have g_b14 : n0 ≤ b14 := Nat.le_trans Z13 (Nat.le_of_eq g14.symm)
      have ne_b12_b14 : b12 ≠ b14 := Nat.ne_of_lt (Nat.lt_of_lt_of_le c13_4.lt (Nat.le_of_eq g14.symm))
      have ne_ob13_b14 : ob13 ≠ b14 := Nat.ne_of_lt (Nat.lt_of_lt_of_le c13_5.lt (Nat.le_of_eq g14.symm))
      have E_b12_14 := Exa.ext E14 c13_1
      have F_b12_counts_14 := Fld.ext E14 c13_2
      have F_b12_count_14 := Fld.ext E14 c13_3
      have F_b12_max_14 := Fld.ext E14 c13_4
      have V_ob13_14 := c13_5.ext E14
      have Z14 := Nat.le_trans Z13 E14.1
      have F_b14_counts : Fld Z h14 b14 "com/example/canopy/canopy/bench/LatencyHistogram" "counts" "[J" .null := D14 (Or.inr (hw _ (List.mem_of_getElem? (i := 11) rfl))) (ty := (.array .long)) (by decide)
      have F_b14_count : Fld Z h14 b14 "com/example/canopy/canopy/bench/LatencyHistogram" "count" "J" (.long (0 : Int64)) := D14 (Or.inl (hw _ (List.mem_of_getElem? (i := 18) rfl))) (ty := .long) (by decide)
      have F_b14_max : Fld Z h14 b14 "com/example/canopy/canopy/bench/LatencyHistogram" "max" "J" (.long (0 : Int64)) := D14 (Or.inl (hw _ (List.mem_of_getElem? (i := 20) rfl))) (ty := .long) (by decide)
      show own_Fin _ _ _ _ _ _ _ (T14.setTop (mkF m 40 #[.val (.long va), .second, .val (.long vb), .second, .val (.int vc), .val (.int (0 : Int32)), .val (.int (1 : Int32)), .val (.ref b12), .unset, .unset, .unset, .unset, .unset, .unset] [(.ref b14)]))
      refine own_Fin.go (fun t k => XS.dup X14.here hx rfl (hb hby at_40) rfl rfl k) ?_
      show own_Fin _ _ _ _ _ _ _ (T14.setTop (mkF m 41 #[.val (.long va), .second, .val (.long vb), .second, .val (.int vc), .val (.int (0 : Int32)), .val (.int (1 : Int32)), .val (.ref b12), .unset, .unset, .unset, .unset, .unset, .unset] [(.ref b14), (.ref b14)]))
      obtain ⟨_, _, ⟨T15, L15, k15, n15⟩, -, X15, ⟨Lc15, hQ15, l15, y15, z15⟩, st15⟩ := X14.specialBack hx (y := (⟨"com/example/canopy/canopy/bench/LatencyHistogram", "<init>", "()V"⟩ : MethodName)) rfl hown (mvT hZ (hw _ (List.mem_of_getElem? (i := 3) rfl))) (mvT hZ (hw _ (List.mem_of_getElem? (i := 4) rfl))) (mvT hZ (hw _ (List.mem_of_getElem? (i := 5) rfl))) (by decide) (backOf (W := 1) (own_rm_ini l Z a0 hw [] b14  h14 n0 Z14 A14 F_b14_counts F_b14_count F_b14_max g_b14) hZ (hw _ (List.mem_of_getElem? (i := 5) rfl)) (hw _ (List.mem_of_getElem? (i := 2) rfl)) (by decide) (by decide)) (g := (mkF m 41 #[.val (.long va), .second, .val (.long vb), .second, .val (.int vc), .val (.int (0 : Int32)), .val (.int (1 : Int32)), .val (.ref b12), .unset, .unset, .unset, .unset, .unset, .unset] [(.ref b14), (.ref b14)])) rfl (by rw [hml]; rfl) (Steps.refl _) (a := b14) (argsL := []) (rest := [(.ref b14)]) (lenOf own_pd4 rfl) rfl (by show 2 * 0 + _ ≤ _; exact Nat.le_of_eq rfl) (hb hby at_41) (fun _ _ => ⟨rfl, e14, (by decide : 3 + 1 ≤ _), (by decide : 3782 + 3776 ≤ _)⟩)
      dsimp only [Pt.U, Pt.locs, Pt.cells, Pt.slots] at X15 l15 y15 z15 st15 hQ15
      subst l15 y15 z15
      obtain ⟨ob15, kb15, rfl, N15q, K15q, c15_1, c15_2, c15_3, c15_4, c15_5, c15_6, c15_7⟩ := hQ15
      refine own_Fin.go (fun t k => st15.trans k) ?_
      have N15 := Fr.app N13 N15q
      have E_b12_15 := E_b12_14.keep K15q
      have F_b12_counts_15 := F_b12_counts_14.keep K15q (ninS ne_b12_b14 nin0)
      have F_b12_count_15 := F_b12_count_14.keep K15q (ninS ne_b12_b14 nin0)
      have F_b12_max_15 := F_b12_max_14.keep K15q (ninS ne_b12_b14 nin0)
      have V_ob13_15 := V_ob13_14.keep K15q (ninS ne_ob13_b14 nin0)
      have Z15 := Nat.le_trans Z14 K15q.1
      have ne_b12_ob15 : b12 ≠ ob15 := Nat.ne_of_lt (Nat.lt_of_lt_of_le F_b12_max_14.lt c15_6)
      have ne_ob13_ob15 : ob13 ≠ ob15 := Nat.ne_of_lt (Nat.lt_of_lt_of_le V_ob13_14.lt c15_6)
      have ne_b14_ob15 : b14 ≠ ob15 := Nat.ne_of_lt (Nat.lt_of_lt_of_le F_b14_max.lt c15_6)
      have g_ob15 : n0 ≤ ob15 := Nat.le_trans Z14 c15_6
      show own_Fin _ _ _ _ _ _ _ (T15.setTop (mkF m 44 #[.val (.long va), .second, .val (.long vb), .second, .val (.int vc), .val (.int (0 : Int32)), .val (.int (1 : Int32)), .val (.ref b12), .unset, .unset, .unset, .unset, .unset, .unset] [(.ref b14)]))
      refine own_Fin.go (fun t k => XS.astore X15.here hx rfl (hb hby at_44) rfl rfl (l' := #[.val (.long va), .second, .val (.long vb), .second, .val (.int vc), .val (.int (0 : Int32)), .val (.int (1 : Int32)), .val (.ref b12), .val (.ref b14), .unset, .unset, .unset, .unset, .unset]) rfl k) ?_
      show own_Fin _ _ _ _ _ _ _ (T15.setTop (mkF m 46 #[.val (.long va), .second, .val (.long vb), .second, .val (.int vc), .val (.int (0 : Int32)), .val (.int (1 : Int32)), .val (.ref b12), .val (.ref b14), .unset, .unset, .unset, .unset, .unset] []))
      obtain ⟨T16, h16, X16, e16, E16, A16, D16, -, st16⟩ := newO X15 hx hZ hown (hw _ (List.mem_of_getElem? (i := 0) rfl)) (hw _ (List.mem_of_getElem? (i := 1) rfl)) (hw _ (List.mem_of_getElem? (i := 2) rfl)) rfl (g := (mkF m 46 #[.val (.long va), .second, .val (.long vb), .second, .val (.int vc), .val (.int (0 : Int32)), .val (.int (1 : Int32)), .val (.ref b12), .val (.ref b14), .unset, .unset, .unset, .unset, .unset] [])) rfl (hb hby at_46) (by decide) (by decide)
      obtain ⟨b16, g16⟩ : ∃ z, z = T15.heap.size := ⟨_, rfl⟩
      rw [← g16] at A16 D16 st16
      refine own_Fin.go st16 ?_
      have g_b16 : n0 ≤ b16 := Nat.le_trans Z15 (Nat.le_of_eq g16.symm)
      have ne_b12_b16 : b12 ≠ b16 := Nat.ne_of_lt (Nat.lt_of_lt_of_le F_b12_max_15.lt (Nat.le_of_eq g16.symm))
      have ne_ob13_b16 : ob13 ≠ b16 := Nat.ne_of_lt (Nat.lt_of_lt_of_le V_ob13_15.lt (Nat.le_of_eq g16.symm))
      have ne_b14_b16 : b14 ≠ b16 := Nat.ne_of_lt (Nat.lt_of_lt_of_le c15_4.lt (Nat.le_of_eq g16.symm))
      have ne_ob15_b16 : ob15 ≠ b16 := Nat.ne_of_lt (Nat.lt_of_lt_of_le c15_5.lt (Nat.le_of_eq g16.symm))
      have E_b12_16 := Exa.ext E16 E_b12_15
      have F_b12_counts_16 := Fld.ext E16 F_b12_counts_15
      have F_b12_count_16 := Fld.ext E16 F_b12_count_15
      have F_b12_max_16 := Fld.ext E16 F_b12_max_15
      have V_ob13_16 := V_ob13_15.ext E16
      have E_b14_16 := Exa.ext E16 c15_1
      have F_b14_counts_16 := Fld.ext E16 c15_2
      have F_b14_count_16 := Fld.ext E16 c15_3
      have F_b14_max_16 := Fld.ext E16 c15_4
      have V_ob15_16 := c15_5.ext E16
      have Z16 := Nat.le_trans Z15 E16.1
      have F_b16_counts : Fld Z h16 b16 "com/example/canopy/canopy/bench/LatencyHistogram" "counts" "[J" .null := D16 (Or.inr (hw _ (List.mem_of_getElem? (i := 11) rfl))) (ty := (.array .long)) (by decide)
      have F_b16_count : Fld Z h16 b16 "com/example/canopy/canopy/bench/LatencyHistogram" "count" "J" (.long (0 : Int64)) := D16 (Or.inl (hw _ (List.mem_of_getElem? (i := 18) rfl))) (ty := .long) (by decide)
      have F_b16_max : Fld Z h16 b16 "com/example/canopy/canopy/bench/LatencyHistogram" "max" "J" (.long (0 : Int64)) := D16 (Or.inl (hw _ (List.mem_of_getElem? (i := 20) rfl))) (ty := .long) (by decide)
      show own_Fin _ _ _ _ _ _ _ (T16.setTop (mkF m 49 #[.val (.long va), .second, .val (.long vb), .second, .val (.int vc), .val (.int (0 : Int32)), .val (.int (1 : Int32)), .val (.ref b12), .val (.ref b14), .unset, .unset, .unset, .unset, .unset] [(.ref b16)]))
      refine own_Fin.go (fun t k => XS.dup X16.here hx rfl (hb hby at_49) rfl rfl k) ?_
      show own_Fin _ _ _ _ _ _ _ (T16.setTop (mkF m 50 #[.val (.long va), .second, .val (.long vb), .second, .val (.int vc), .val (.int (0 : Int32)), .val (.int (1 : Int32)), .val (.ref b12), .val (.ref b14), .unset, .unset, .unset, .unset, .unset] [(.ref b16), (.ref b16)]))
      obtain ⟨_, _, ⟨T17, L17, k17, n17⟩, -, X17, ⟨Lc17, hQ17, l17, y17, z17⟩, st17⟩ := X16.specialBack hx (y := (⟨"com/example/canopy/canopy/bench/LatencyHistogram", "<init>", "()V"⟩ : MethodName)) rfl hown (mvT hZ (hw _ (List.mem_of_getElem? (i := 3) rfl))) (mvT hZ (hw _ (List.mem_of_getElem? (i := 4) rfl))) (mvT hZ (hw _ (List.mem_of_getElem? (i := 5) rfl))) (by decide) (backOf (W := 1) (own_rm_ini l Z a0 hw [] b16  h16 n0 Z16 A16 F_b16_counts F_b16_count F_b16_max g_b16) hZ (hw _ (List.mem_of_getElem? (i := 5) rfl)) (hw _ (List.mem_of_getElem? (i := 2) rfl)) (by decide) (by decide)) (g := (mkF m 50 #[.val (.long va), .second, .val (.long vb), .second, .val (.int vc), .val (.int (0 : Int32)), .val (.int (1 : Int32)), .val (.ref b12), .val (.ref b14), .unset, .unset, .unset, .unset, .unset] [(.ref b16), (.ref b16)])) rfl (by rw [hml]; rfl) (Steps.refl _) (a := b16) (argsL := []) (rest := [(.ref b16)]) (lenOf own_pd4 rfl) rfl (by show 2 * 0 + _ ≤ _; exact Nat.le_of_eq rfl) (hb hby at_50) (fun _ _ => ⟨rfl, e16, (by decide : 5 + 1 ≤ _), (by decide : 7561 + 3776 ≤ _)⟩)
      dsimp only [Pt.U, Pt.locs, Pt.cells, Pt.slots] at X17 l17 y17 z17 st17 hQ17
      subst l17 y17 z17
      obtain ⟨ob17, kb17, rfl, N17q, K17q, c17_1, c17_2, c17_3, c17_4, c17_5, c17_6, c17_7⟩ := hQ17
      refine own_Fin.go (fun t k => st17.trans k) ?_
      have N17 := Fr.app N15 N17q
      have E_b12_17 := E_b12_16.keep K17q
      have F_b12_counts_17 := F_b12_counts_16.keep K17q (ninS ne_b12_b16 nin0)
      have F_b12_count_17 := F_b12_count_16.keep K17q (ninS ne_b12_b16 nin0)
      have F_b12_max_17 := F_b12_max_16.keep K17q (ninS ne_b12_b16 nin0)
      have V_ob13_17 := V_ob13_16.keep K17q (ninS ne_ob13_b16 nin0)
      have E_b14_17 := E_b14_16.keep K17q
      have F_b14_counts_17 := F_b14_counts_16.keep K17q (ninS ne_b14_b16 nin0)
      have F_b14_count_17 := F_b14_count_16.keep K17q (ninS ne_b14_b16 nin0)
      have F_b14_max_17 := F_b14_max_16.keep K17q (ninS ne_b14_b16 nin0)
      have V_ob15_17 := V_ob15_16.keep K17q (ninS ne_ob15_b16 nin0)
      have Z17 := Nat.le_trans Z16 K17q.1
      have ne_b12_ob17 : b12 ≠ ob17 := Nat.ne_of_lt (Nat.lt_of_lt_of_le F_b12_max_16.lt c17_6)
      have ne_ob13_ob17 : ob13 ≠ ob17 := Nat.ne_of_lt (Nat.lt_of_lt_of_le V_ob13_16.lt c17_6)
      have ne_b14_ob17 : b14 ≠ ob17 := Nat.ne_of_lt (Nat.lt_of_lt_of_le F_b14_max_16.lt c17_6)
      have ne_ob15_ob17 : ob15 ≠ ob17 := Nat.ne_of_lt (Nat.lt_of_lt_of_le V_ob15_16.lt c17_6)
      have ne_b16_ob17 : b16 ≠ ob17 := Nat.ne_of_lt (Nat.lt_of_lt_of_le F_b16_max.lt c17_6)
      have g_ob17 : n0 ≤ ob17 := Nat.le_trans Z16 c17_6
      show own_Fin _ _ _ _ _ _ _ (T17.setTop (mkF m 53 #[.val (.long va), .second, .val (.long vb), .second, .val (.int vc), .val (.int (0 : Int32)), .val (.int (1 : Int32)), .val (.ref b12), .val (.ref b14), .unset, .unset, .unset, .unset, .unset] [(.ref b16)]))
      refine own_Fin.go (fun t k => XS.astore X17.here hx rfl (hb hby at_53) rfl rfl (l' := #[.val (.long va), .second, .val (.long vb), .second, .val (.int vc), .val (.int (0 : Int32)), .val (.int (1 : Int32)), .val (.ref b12), .val (.ref b14), .val (.ref b16), .unset, .unset, .unset, .unset]) rfl k) ?_
      show own_Fin _ _ _ _ _ _ _ (T17.setTop (mkF m 55 #[.val (.long va), .second, .val (.long vb), .second, .val (.int vc), .val (.int (0 : Int32)), .val (.int (1 : Int32)), .val (.ref b12), .val (.ref b14), .val (.ref b16), .unset, .unset, .unset, .unset] []))
      refine own_Fin.go (fun t k => XS.lconst X17.here hx rfl (hb hby at_55) k) ?_
      show own_Fin _ _ _ _ _ _ _ (T17.setTop (mkF m 56 #[.val (.long va), .second, .val (.long vb), .second, .val (.int vc), .val (.int (0 : Int32)), .val (.int (1 : Int32)), .val (.ref b12), .val (.ref b14), .val (.ref b16), .unset, .unset, .unset, .unset] [(.long (0 : Int64))]))
      refine own_Fin.go (fun t k => XS.lstore X17.here hx rfl (hb hby at_56) rfl (l' := #[.val (.long va), .second, .val (.long vb), .second, .val (.int vc), .val (.int (0 : Int32)), .val (.int (1 : Int32)), .val (.ref b12), .val (.ref b14), .val (.ref b16), .val (.long (0 : Int64)), .second, .unset, .unset]) rfl k) ?_
      show own_Fin _ _ _ _ _ _ _ (T17.setTop (mkF m 58 #[.val (.long va), .second, .val (.long vb), .second, .val (.int vc), .val (.int (0 : Int32)), .val (.int (1 : Int32)), .val (.ref b12), .val (.ref b14), .val (.ref b16), .val (.long (0 : Int64)), .second, .unset, .unset] []))
      refine own_Fin.go (fun t k => XS.lconst X17.here hx rfl (hb hby at_58) k) ?_
      show own_Fin _ _ _ _ _ _ _ (T17.setTop (mkF m 59 #[.val (.long va), .second, .val (.long vb), .second, .val (.int vc), .val (.int (0 : Int32)), .val (.int (1 : Int32)), .val (.ref b12), .val (.ref b14), .val (.ref b16), .val (.long (0 : Int64)), .second, .unset, .unset] [(.long (0 : Int64))]))
      refine own_Fin.go (fun t k => XS.lstore X17.here hx rfl (hb hby at_59) rfl (l' := #[.val (.long va), .second, .val (.long vb), .second, .val (.int vc), .val (.int (0 : Int32)), .val (.int (1 : Int32)), .val (.ref b12), .val (.ref b14), .val (.ref b16), .val (.long (0 : Int64)), .second, .val (.long (0 : Int64)), .second]) rfl k) ?_
      show own_Fin _ _ _ _ _ _ _ (T17.setTop (mkF m 61 #[.val (.long va), .second, .val (.long vb), .second, .val (.int vc), .val (.int (0 : Int32)), .val (.int (1 : Int32)), .val (.ref b12), .val (.ref b14), .val (.ref b16), .val (.long (0 : Int64)), .second, .val (.long (0 : Int64)), .second] []))
      refine own_Fin.go (fun t k => XS.iload X17.here hx rfl (hb hby at_61) rfl k) ?_
      show own_Fin _ _ _ _ _ _ _ (T17.setTop (mkF m 63 #[.val (.long va), .second, .val (.long vb), .second, .val (.int vc), .val (.int (0 : Int32)), .val (.int (1 : Int32)), .val (.ref b12), .val (.ref b14), .val (.ref b16), .val (.long (0 : Int64)), .second, .val (.long (0 : Int64)), .second] [(.int (0 : Int32))]))
      refine own_Fin.go (fun t k => XS.ifYes X17.here hx rfl (pc0 := 63) (pc' := 92) rfl (hb hby at_63) rfl (by decide) (by decide) (by decide) k) ?_
      show own_Fin _ _ _ _ _ _ _ (T17.setTop (mkF m 92 #[.val (.long va), .second, .val (.long vb), .second, .val (.int vc), .val (.int (0 : Int32)), .val (.int (1 : Int32)), .val (.ref b12), .val (.ref b14), .val (.ref b16), .val (.long (0 : Int64)), .second, .val (.long (0 : Int64)), .second] []))
      refine own_Fin.go (fun t k => XS.iload X17.here hx rfl (hb hby at_92) rfl k) ?_
      show own_Fin _ _ _ _ _ _ _ (T17.setTop (mkF m 94 #[.val (.long va), .second, .val (.long vb), .second, .val (.int vc), .val (.int (0 : Int32)), .val (.int (1 : Int32)), .val (.ref b12), .val (.ref b14), .val (.ref b16), .val (.long (0 : Int64)), .second, .val (.long (0 : Int64)), .second] [(.int (1 : Int32))]))
      refine own_Fin.go (fun t k => XS.ifNo X17.here hx rfl (hb hby at_94) rfl (by decide) k) ?_
      show own_Fin _ _ _ _ _ _ _ (T17.setTop (mkF m 97 #[.val (.long va), .second, .val (.long vb), .second, .val (.int vc), .val (.int (0 : Int32)), .val (.int (1 : Int32)), .val (.ref b12), .val (.ref b14), .val (.ref b16), .val (.long (0 : Int64)), .second, .val (.long (0 : Int64)), .second] []))
      refine own_Fin.go (fun t k => XS.aload X17.here hx rfl (hb hby at_97) rfl rfl k) ?_
      show own_Fin _ _ _ _ _ _ _ (T17.setTop (mkF m 99 #[.val (.long va), .second, .val (.long vb), .second, .val (.int vc), .val (.int (0 : Int32)), .val (.int (1 : Int32)), .val (.ref b12), .val (.ref b14), .val (.ref b16), .val (.long (0 : Int64)), .second, .val (.long (0 : Int64)), .second] [(.ref b14)]))
      refine own_Fin.go (fun t k => XS.lloadN X17.here hx rfl (hb hby at_99) rfl k) ?_
      show own_Fin _ _ _ _ _ _ _ (T17.setTop (mkF m 100 #[.val (.long va), .second, .val (.long vb), .second, .val (.int vc), .val (.int (0 : Int32)), .val (.int (1 : Int32)), .val (.ref b12), .val (.ref b14), .val (.ref b16), .val (.long (0 : Int64)), .second, .val (.long (0 : Int64)), .second] [(.long vb), (.ref b14)]))
      obtain ⟨cq18, kq18, q18a, q18b, q18c⟩ := isOf hZ rfl E_b14_17
      obtain ⟨_, _, ⟨T18, L18, k18, n18⟩, -, X18, ⟨Lc18, hQ18, l18, y18, z18⟩, st18⟩ := X17.virtualBack hx (y := (⟨"com/example/canopy/canopy/bench/LatencyHistogram", "record", "(J)V"⟩ : MethodName)) (z := (⟨"com/example/canopy/canopy/bench/LatencyHistogram", "record", "(J)V"⟩ : MethodName)) hown (mvT hZ (hw _ (List.mem_of_getElem? (i := 40) rfl))) (mvT hZ (hw _ (List.mem_of_getElem? (i := 41) rfl))) (notFace_of_selects (args := #[]) (mvT hZ (hw _ (List.mem_of_getElem? (i := 43) rfl)))) (mvT hZ (hw _ (List.mem_of_getElem? (i := 43) rfl))) (mvT hZ (hw _ (List.mem_of_getElem? (i := 42) rfl))) (by decide) (backOf (W := 0) (own_rm_rec l Z a0 hw [] b14 vb ob15 kb15 (0 : Int64) (0 : Int64) own_zero T17.heap n0 Z17 E_b14_17 F_b14_counts_17 F_b14_count_17 F_b14_max_17 V_ob15_17 g_b14 g_ob15 c15_7) hZ (hw _ (List.mem_of_getElem? (i := 44) rfl)) (hw _ (List.mem_of_getElem? (i := 2) rfl)) (by decide) (by decide)) q18a q18c (g := (mkF m 100 #[.val (.long va), .second, .val (.long vb), .second, .val (.int vc), .val (.int (0 : Int32)), .val (.int (1 : Int32)), .val (.ref b12), .val (.ref b14), .val (.ref b16), .val (.long (0 : Int64)), .second, .val (.long (0 : Int64)), .second] [(.long vb), (.ref b14)])) rfl (by rw [hml]; rfl) (Steps.refl _) (argsL := [(.long vb)]) (rest := []) (lenOf own_pd8 rfl) rfl (by show 2 * 0 + _ ≤ _; exact Nat.le_of_eq rfl) (hb hby at_100) (fun _ _ => ⟨rfl, rfl, (by decide : 6 + 0 ≤ _), (by decide : 11337 + 0 ≤ _)⟩)
      dsimp only [Pt.U, Pt.locs, Pt.cells, Pt.slots] at X18 l18 y18 z18 st18 hQ18
      subst l18 y18 z18
      obtain ⟨rfl, N18q, K18q, c18_1, c18_2, c18_3, c18_4, c18_5⟩ := hQ18
      refine own_Fin.go (fun t k => st18.trans k) ?_
      have N18 := Fr.app N17 N18q
      have E_b12_18 := E_b12_17.keep K18q
      have F_b12_counts_18 := F_b12_counts_17.keep K18q (ninS ne_b12_b14 (ninS ne_b12_ob15 nin0))
      have F_b12_count_18 := F_b12_count_17.keep K18q (ninS ne_b12_b14 (ninS ne_b12_ob15 nin0))
      have F_b12_max_18 := F_b12_max_17.keep K18q (ninS ne_b12_b14 (ninS ne_b12_ob15 nin0))
      have V_ob13_18 := V_ob13_17.keep K18q (ninS ne_ob13_b14 (ninS ne_ob13_ob15 nin0))
      have E_b16_18 := c17_1.keep K18q
      have F_b16_counts_18 := c17_2.keep K18q (ninS (Ne.symm ne_b14_b16) (ninS (Ne.symm ne_ob15_b16) nin0))
      have F_b16_count_18 := c17_3.keep K18q (ninS (Ne.symm ne_b14_b16) (ninS (Ne.symm ne_ob15_b16) nin0))
      have F_b16_max_18 := c17_4.keep K18q (ninS (Ne.symm ne_b14_b16) (ninS (Ne.symm ne_ob15_b16) nin0))
      have V_ob17_18 := c17_5.keep K18q (ninS (Ne.symm ne_b14_ob17) (ninS (Ne.symm ne_ob15_ob17) nin0))
      have Z18 := Nat.le_trans Z17 K18q.1
      show own_Fin _ _ _ _ _ _ _ (T18.setTop (mkF m 103 #[.val (.long va), .second, .val (.long vb), .second, .val (.int vc), .val (.int (0 : Int32)), .val (.int (1 : Int32)), .val (.ref b12), .val (.ref b14), .val (.ref b16), .val (.long (0 : Int64)), .second, .val (.long (0 : Int64)), .second] []))
      refine own_Fin.go (fun t k => XS.aload X18.here hx rfl (hb hby at_103) rfl rfl k) ?_
      show own_Fin _ _ _ _ _ _ _ (T18.setTop (mkF m 105 #[.val (.long va), .second, .val (.long vb), .second, .val (.int vc), .val (.int (0 : Int32)), .val (.int (1 : Int32)), .val (.ref b12), .val (.ref b14), .val (.ref b16), .val (.long (0 : Int64)), .second, .val (.long (0 : Int64)), .second] [(.ref b16)]))
      refine own_Fin.go (fun t k => XS.lloadN X18.here hx rfl (hb hby at_105) rfl k) ?_
      show own_Fin _ _ _ _ _ _ _ (T18.setTop (mkF m 106 #[.val (.long va), .second, .val (.long vb), .second, .val (.int vc), .val (.int (0 : Int32)), .val (.int (1 : Int32)), .val (.ref b12), .val (.ref b14), .val (.ref b16), .val (.long (0 : Int64)), .second, .val (.long (0 : Int64)), .second] [(.long vb), (.ref b16)]))
      obtain ⟨cq19, kq19, q19a, q19b, q19c⟩ := isOf hZ rfl E_b16_18
      obtain ⟨_, _, ⟨T19, L19, k19, n19⟩, -, X19, ⟨Lc19, hQ19, l19, y19, z19⟩, st19⟩ := X18.virtualBack hx (y := (⟨"com/example/canopy/canopy/bench/LatencyHistogram", "record", "(J)V"⟩ : MethodName)) (z := (⟨"com/example/canopy/canopy/bench/LatencyHistogram", "record", "(J)V"⟩ : MethodName)) hown (mvT hZ (hw _ (List.mem_of_getElem? (i := 40) rfl))) (mvT hZ (hw _ (List.mem_of_getElem? (i := 41) rfl))) (notFace_of_selects (args := #[]) (mvT hZ (hw _ (List.mem_of_getElem? (i := 43) rfl)))) (mvT hZ (hw _ (List.mem_of_getElem? (i := 43) rfl))) (mvT hZ (hw _ (List.mem_of_getElem? (i := 42) rfl))) (by decide) (backOf (W := 0) (own_rm_rec l Z a0 hw [] b16 vb ob17 kb17 (0 : Int64) (0 : Int64) own_zero T18.heap n0 Z18 E_b16_18 F_b16_counts_18 F_b16_count_18 F_b16_max_18 V_ob17_18 g_b16 g_ob17 c17_7) hZ (hw _ (List.mem_of_getElem? (i := 44) rfl)) (hw _ (List.mem_of_getElem? (i := 2) rfl)) (by decide) (by decide)) q19a q19c (g := (mkF m 106 #[.val (.long va), .second, .val (.long vb), .second, .val (.int vc), .val (.int (0 : Int32)), .val (.int (1 : Int32)), .val (.ref b12), .val (.ref b14), .val (.ref b16), .val (.long (0 : Int64)), .second, .val (.long (0 : Int64)), .second] [(.long vb), (.ref b16)])) rfl (by rw [hml]; rfl) (Steps.refl _) (argsL := [(.long vb)]) (rest := []) (lenOf own_pd8 rfl) rfl (by show 2 * 0 + _ ≤ _; exact Nat.le_of_eq rfl) (hb hby at_106) (fun _ _ => ⟨rfl, rfl, (by decide : 6 + 0 ≤ _), (by decide : 11337 + 0 ≤ _)⟩)
      dsimp only [Pt.U, Pt.locs, Pt.cells, Pt.slots] at X19 l19 y19 z19 st19 hQ19
      subst l19 y19 z19
      obtain ⟨rfl, N19q, K19q, c19_1, c19_2, c19_3, c19_4, c19_5⟩ := hQ19
      refine own_Fin.go (fun t k => st19.trans k) ?_
      have N19 := Fr.app N18 N19q
      have E_b12_19 := E_b12_18.keep K19q
      have F_b12_counts_19 := F_b12_counts_18.keep K19q (ninS ne_b12_b16 (ninS ne_b12_ob17 nin0))
      have F_b12_count_19 := F_b12_count_18.keep K19q (ninS ne_b12_b16 (ninS ne_b12_ob17 nin0))
      have F_b12_max_19 := F_b12_max_18.keep K19q (ninS ne_b12_b16 (ninS ne_b12_ob17 nin0))
      have V_ob13_19 := V_ob13_18.keep K19q (ninS ne_ob13_b16 (ninS ne_ob13_ob17 nin0))
      have E_b14_19 := c18_1.keep K19q
      have F_b14_counts_19 := c18_2.keep K19q (ninS ne_b14_b16 (ninS ne_b14_ob17 nin0))
      have F_b14_count_19 := c18_3.keep K19q (ninS ne_b14_b16 (ninS ne_b14_ob17 nin0))
      have F_b14_max_19 := c18_4.keep K19q (ninS ne_b14_b16 (ninS ne_b14_ob17 nin0))
      have V_ob15_19 := c18_5.keep K19q (ninS ne_ob15_b16 (ninS ne_ob15_ob17 nin0))
      have Z19 := Nat.le_trans Z18 K19q.1
      show own_Fin _ _ _ _ _ _ _ (T19.setTop (mkF m 109 #[.val (.long va), .second, .val (.long vb), .second, .val (.int vc), .val (.int (0 : Int32)), .val (.int (1 : Int32)), .val (.ref b12), .val (.ref b14), .val (.ref b16), .val (.long (0 : Int64)), .second, .val (.long (0 : Int64)), .second] []))
      refine own_Fin.go (fun t k => XS.lload X19.here hx rfl (hb hby at_109) rfl k) ?_
      show own_Fin _ _ _ _ _ _ _ (T19.setTop (mkF m 111 #[.val (.long va), .second, .val (.long vb), .second, .val (.int vc), .val (.int (0 : Int32)), .val (.int (1 : Int32)), .val (.ref b12), .val (.ref b14), .val (.ref b16), .val (.long (0 : Int64)), .second, .val (.long (0 : Int64)), .second] [(.long (0 : Int64))]))
      refine own_Fin.go (fun t k => XS.lconst X19.here hx rfl (hb hby at_111) k) ?_
      show own_Fin _ _ _ _ _ _ _ (T19.setTop (mkF m 112 #[.val (.long va), .second, .val (.long vb), .second, .val (.int vc), .val (.int (0 : Int32)), .val (.int (1 : Int32)), .val (.ref b12), .val (.ref b14), .val (.ref b16), .val (.long (0 : Int64)), .second, .val (.long (0 : Int64)), .second] [(.long (1 : Int64)), (.long (0 : Int64))]))
      refine own_Fin.go (fun t k => XS.ladd X19.here hx rfl (hb hby at_112) rfl k) ?_
      show own_Fin _ _ _ _ _ _ _ (T19.setTop (mkF m 113 #[.val (.long va), .second, .val (.long vb), .second, .val (.int vc), .val (.int (0 : Int32)), .val (.int (1 : Int32)), .val (.ref b12), .val (.ref b14), .val (.ref b16), .val (.long (0 : Int64)), .second, .val (.long (0 : Int64)), .second] [(.long ((0 : Int64) + (1 : Int64)))]))
      rw [show ((0 : Int64) + (1 : Int64)) = (1 : Int64) from by decide +kernel]
      show own_Fin _ _ _ _ _ _ _ (T19.setTop (mkF m 113 #[.val (.long va), .second, .val (.long vb), .second, .val (.int vc), .val (.int (0 : Int32)), .val (.int (1 : Int32)), .val (.ref b12), .val (.ref b14), .val (.ref b16), .val (.long (0 : Int64)), .second, .val (.long (0 : Int64)), .second] [(.long (1 : Int64))]))
      refine own_Fin.go (fun t k => XS.lstore X19.here hx rfl (hb hby at_113) rfl (l' := #[.val (.long va), .second, .val (.long vb), .second, .val (.int vc), .val (.int (0 : Int32)), .val (.int (1 : Int32)), .val (.ref b12), .val (.ref b14), .val (.ref b16), .val (.long (1 : Int64)), .second, .val (.long (0 : Int64)), .second]) rfl k) ?_
      show own_Fin _ _ _ _ _ _ _ (T19.setTop (mkF m 115 #[.val (.long va), .second, .val (.long vb), .second, .val (.int vc), .val (.int (0 : Int32)), .val (.int (1 : Int32)), .val (.ref b12), .val (.ref b14), .val (.ref b16), .val (.long (1 : Int64)), .second, .val (.long (0 : Int64)), .second] []))
      refine own_Fin.go (fun t k => XS.lload X19.here hx rfl (hb hby at_115) rfl k) ?_
      show own_Fin _ _ _ _ _ _ _ (T19.setTop (mkF m 117 #[.val (.long va), .second, .val (.long vb), .second, .val (.int vc), .val (.int (0 : Int32)), .val (.int (1 : Int32)), .val (.ref b12), .val (.ref b14), .val (.ref b16), .val (.long (1 : Int64)), .second, .val (.long (0 : Int64)), .second] [(.long (0 : Int64))]))
      refine own_Fin.go (fun t k => XS.lloadN X19.here hx rfl (hb hby at_117) rfl k) ?_
      show own_Fin _ _ _ _ _ _ _ (T19.setTop (mkF m 118 #[.val (.long va), .second, .val (.long vb), .second, .val (.int vc), .val (.int (0 : Int32)), .val (.int (1 : Int32)), .val (.ref b12), .val (.ref b14), .val (.ref b16), .val (.long (1 : Int64)), .second, .val (.long (0 : Int64)), .second] [(.long vb), (.long (0 : Int64))]))
      obtain ⟨_, _, ⟨T20, L20, k20, n20⟩, -, X20, ⟨Lc20, hQ20, l20, y20, z20⟩, st20⟩ := Jvm.LawKit.callS X19 hx (y := (⟨"java/lang/Math", "max", "(JJ)J"⟩ : MethodName)) hown (mvT hZ (hw _ (List.mem_of_getElem? (i := 49) rfl))) (mvT hZ (hw _ (List.mem_of_getElem? (i := 22) rfl))) (mvT hZ (hw _ (List.mem_of_getElem? (i := 23) rfl))) (mvT hZ (hw _ (List.mem_of_getElem? (i := 24) rfl))) (by decide) (backOf (W := 0) (own_rm_mx l Z a0 hw [] (0 : Int64) vb  T19.heap n0 Z19 ) hZ (hw _ (List.mem_of_getElem? (i := 24) rfl)) (hw _ (List.mem_of_getElem? (i := 23) rfl)) (by decide) (by decide)) (g := (mkF m 118 #[.val (.long va), .second, .val (.long vb), .second, .val (.int vc), .val (.int (0 : Int32)), .val (.int (1 : Int32)), .val (.ref b12), .val (.ref b14), .val (.ref b16), .val (.long (1 : Int64)), .second, .val (.long (0 : Int64)), .second] [(.long vb), (.long (0 : Int64))])) rfl (by rw [hml]; rfl) (argsL := [(.long (0 : Int64)), (.long vb)]) (rest := []) (lenOf own_pd2 rfl) rfl (by show 2 * 0 + _ ≤ _; exact Nat.le_of_eq rfl) (hb hby at_118) (fun _ _ => ⟨rfl, rfl, (by decide : 6 + 0 ≤ _), (by decide : 11337 + 0 ≤ _)⟩)
      dsimp only [Pt.U, Pt.locs, Pt.cells, Pt.slots] at X20 l20 y20 z20 st20 hQ20
      subst l20 y20 z20
      obtain ⟨rfl, N20q, e20⟩ := hQ20
      refine own_Fin.go (fun t k => st20 t k) ?_
      have N20 := Fr.app N19 N20q
      show own_Fin _ _ _ _ _ _ _ (T20.setTop (mkF m 121 #[.val (.long va), .second, .val (.long vb), .second, .val (.int vc), .val (.int (0 : Int32)), .val (.int (1 : Int32)), .val (.ref b12), .val (.ref b14), .val (.ref b16), .val (.long (1 : Int64)), .second, .val (.long (0 : Int64)), .second] [(.long (own_mx (0 : Int64) vb))]))
      refine own_Fin.go (fun t k => XS.lstore X20.here hx rfl (hb hby at_121) rfl (l' := #[.val (.long va), .second, .val (.long vb), .second, .val (.int vc), .val (.int (0 : Int32)), .val (.int (1 : Int32)), .val (.ref b12), .val (.ref b14), .val (.ref b16), .val (.long (1 : Int64)), .second, .val (.long (own_mx (0 : Int64) vb)), .second]) rfl k) ?_
      show own_Fin _ _ _ _ _ _ _ (T20.setTop (mkF m 123 #[.val (.long va), .second, .val (.long vb), .second, .val (.int vc), .val (.int (0 : Int32)), .val (.int (1 : Int32)), .val (.ref b12), .val (.ref b14), .val (.ref b16), .val (.long (1 : Int64)), .second, .val (.long (own_mx (0 : Int64) vb)), .second] []))
      refine own_Fin.go (fun t k => XS.aload X20.here hx rfl (hb hby at_123) rfl rfl k) ?_
      show own_Fin _ _ _ _ _ _ _ (T20.setTop (mkF m 125 #[.val (.long va), .second, .val (.long vb), .second, .val (.int vc), .val (.int (0 : Int32)), .val (.int (1 : Int32)), .val (.ref b12), .val (.ref b14), .val (.ref b16), .val (.long (1 : Int64)), .second, .val (.long (own_mx (0 : Int64) vb)), .second] [(.ref b12)]))
      refine own_Fin.go (fun t k => XS.aload X20.here hx rfl (hb hby at_125) rfl rfl k) ?_
      show own_Fin _ _ _ _ _ _ _ (T20.setTop (mkF m 127 #[.val (.long va), .second, .val (.long vb), .second, .val (.int vc), .val (.int (0 : Int32)), .val (.int (1 : Int32)), .val (.ref b12), .val (.ref b14), .val (.ref b16), .val (.long (1 : Int64)), .second, .val (.long (own_mx (0 : Int64) vb)), .second] [(.ref b14), (.ref b12)]))
      obtain ⟨cq21, kq21, q21a, q21b, q21c⟩ := isOf hZ e20 E_b12_19
      obtain ⟨_, _, ⟨T21, L21, k21, n21⟩, -, X21, ⟨Lc21, hQ21, l21, y21, z21⟩, st21⟩ := X20.virtualBack hx (y := (⟨"com/example/canopy/canopy/bench/LatencyHistogram", "add", "(Lcom/example/canopy/canopy/bench/LatencyHistogram;)V"⟩ : MethodName)) (z := (⟨"com/example/canopy/canopy/bench/LatencyHistogram", "add", "(Lcom/example/canopy/canopy/bench/LatencyHistogram;)V"⟩ : MethodName)) hown (mvT hZ (hw _ (List.mem_of_getElem? (i := 12) rfl))) (mvT hZ (hw _ (List.mem_of_getElem? (i := 13) rfl))) (notFace_of_selects (args := #[]) (mvT hZ (hw _ (List.mem_of_getElem? (i := 15) rfl)))) (mvT hZ (hw _ (List.mem_of_getElem? (i := 15) rfl))) (mvT hZ (hw _ (List.mem_of_getElem? (i := 14) rfl))) (by decide) (backOf (W := 0) (own_rm_add l Z a0 hw [] b12 b14 ob13 kb13 (0 : Int64) (0 : Int64) own_zero ob15 kb15 ((0 : Int64) + (1 : Int64)) (own_mx (0 : Int64) (own_mx (0 : Int64) vb)) (own_up own_zero (own_bkt (own_mx (0 : Int64) vb)).toNatClampNeg (own_zero (own_bkt (own_mx (0 : Int64) vb)).toNatClampNeg + (1 : Int64))) T19.heap n0 Z19 E_b12_19 F_b12_counts_19 F_b12_count_19 F_b12_max_19 V_ob13_19 g_b12 g_ob13 c13_7 E_b14_19 F_b14_counts_19 F_b14_count_19 F_b14_max_19 V_ob15_19 ne_b12_b14 (Ne.symm ne_ob13_b14) ne_b12_ob15 (Ne.symm ne_ob13_ob15)) hZ (hw _ (List.mem_of_getElem? (i := 16) rfl)) (hw _ (List.mem_of_getElem? (i := 2) rfl)) (by decide) (by decide)) q21a q21c (g := (mkF m 127 #[.val (.long va), .second, .val (.long vb), .second, .val (.int vc), .val (.int (0 : Int32)), .val (.int (1 : Int32)), .val (.ref b12), .val (.ref b14), .val (.ref b16), .val (.long (1 : Int64)), .second, .val (.long (own_mx (0 : Int64) vb)), .second] [(.ref b14), (.ref b12)])) rfl (by rw [hml]; rfl) (Steps.refl _) (argsL := [(.ref b14)]) (rest := []) (lenOf own_pd5 rfl) rfl (by show 2 * 0 + _ ≤ _; exact Nat.le_of_eq rfl) (hb hby at_127) (fun _ _ => ⟨rfl, e20, (by decide : 6 + 0 ≤ _), (by decide : 11337 + 0 ≤ _)⟩)
      dsimp only [Pt.U, Pt.locs, Pt.cells, Pt.slots] at X21 l21 y21 z21 st21 hQ21
      subst l21 y21 z21
      obtain ⟨rfl, N21q, K21q, c21_1, c21_2, c21_3, c21_4, c21_5⟩ := hQ21
      refine own_Fin.go (fun t k => st21.trans k) ?_
      have N21 := Fr.app N20 N21q
      have E_b14_21 := E_b14_19.keep K21q
      have F_b14_counts_21 := F_b14_counts_19.keep K21q (ninS (Ne.symm ne_b12_b14) (ninS (Ne.symm ne_ob13_b14) nin0))
      have F_b14_count_21 := F_b14_count_19.keep K21q (ninS (Ne.symm ne_b12_b14) (ninS (Ne.symm ne_ob13_b14) nin0))
      have F_b14_max_21 := F_b14_max_19.keep K21q (ninS (Ne.symm ne_b12_b14) (ninS (Ne.symm ne_ob13_b14) nin0))
      have V_ob15_21 := V_ob15_19.keep K21q (ninS (Ne.symm ne_b12_ob15) (ninS (Ne.symm ne_ob13_ob15) nin0))
      have E_b16_21 := c19_1.keep K21q
      have F_b16_counts_21 := c19_2.keep K21q (ninS (Ne.symm ne_b12_b16) (ninS (Ne.symm ne_ob13_b16) nin0))
      have F_b16_count_21 := c19_3.keep K21q (ninS (Ne.symm ne_b12_b16) (ninS (Ne.symm ne_ob13_b16) nin0))
      have F_b16_max_21 := c19_4.keep K21q (ninS (Ne.symm ne_b12_b16) (ninS (Ne.symm ne_ob13_b16) nin0))
      have V_ob17_21 := c19_5.keep K21q (ninS (Ne.symm ne_b12_ob17) (ninS (Ne.symm ne_ob13_ob17) nin0))
      have Z21 := Nat.le_trans Z19 K21q.1
      show own_Fin _ _ _ _ _ _ _ (T21.setTop (mkF m 130 #[.val (.long va), .second, .val (.long vb), .second, .val (.int vc), .val (.int (0 : Int32)), .val (.int (1 : Int32)), .val (.ref b12), .val (.ref b14), .val (.ref b16), .val (.long (1 : Int64)), .second, .val (.long (own_mx (0 : Int64) vb)), .second] []))
      refine own_Fin.go (fun t k => XS.aload X21.here hx rfl (hb hby at_130) rfl rfl k) ?_
      show own_Fin _ _ _ _ _ _ _ (T21.setTop (mkF m 132 #[.val (.long va), .second, .val (.long vb), .second, .val (.int vc), .val (.int (0 : Int32)), .val (.int (1 : Int32)), .val (.ref b12), .val (.ref b14), .val (.ref b16), .val (.long (1 : Int64)), .second, .val (.long (own_mx (0 : Int64) vb)), .second] [(.ref b12)]))
      obtain ⟨cq22, kq22, q22a, q22b, q22c⟩ := isOf hZ rfl c21_1
      obtain ⟨_, _, ⟨T22, L22, k22, n22⟩, -, X22, ⟨Lc22, hQ22, l22, y22, z22⟩, st22⟩ := X21.virtualBack hx (y := (⟨"com/example/canopy/canopy/bench/LatencyHistogram", "count", "()J"⟩ : MethodName)) (z := (⟨"com/example/canopy/canopy/bench/LatencyHistogram", "count", "()J"⟩ : MethodName)) hown (mvT hZ (hw _ (List.mem_of_getElem? (i := 25) rfl))) (mvT hZ (hw _ (List.mem_of_getElem? (i := 26) rfl))) (notFace_of_selects (args := #[]) (mvT hZ (hw _ (List.mem_of_getElem? (i := 28) rfl)))) (mvT hZ (hw _ (List.mem_of_getElem? (i := 28) rfl))) (mvT hZ (hw _ (List.mem_of_getElem? (i := 27) rfl))) (by decide) (backOf (W := 0) (own_rm_cnt l Z a0 hw [] b12 ((0 : Int64) + ((0 : Int64) + (1 : Int64))) T21.heap n0 Z21 c21_1 c21_3) hZ (hw _ (List.mem_of_getElem? (i := 29) rfl)) (hw _ (List.mem_of_getElem? (i := 2) rfl)) (by decide) (by decide)) q22a q22c (g := (mkF m 132 #[.val (.long va), .second, .val (.long vb), .second, .val (.int vc), .val (.int (0 : Int32)), .val (.int (1 : Int32)), .val (.ref b12), .val (.ref b14), .val (.ref b16), .val (.long (1 : Int64)), .second, .val (.long (own_mx (0 : Int64) vb)), .second] [(.ref b12)])) rfl (by rw [hml]; rfl) (Steps.refl _) (argsL := []) (rest := []) (lenOf own_pd6 rfl) rfl (by show 2 * 0 + _ ≤ _; exact Nat.le_of_eq rfl) (hb hby at_132) (fun _ _ => ⟨rfl, rfl, (by decide : 6 + 0 ≤ _), (by decide : 11337 + 0 ≤ _)⟩)
      dsimp only [Pt.U, Pt.locs, Pt.cells, Pt.slots] at X22 l22 y22 z22 st22 hQ22
      subst l22 y22 z22
      obtain ⟨rfl, N22q, e22⟩ := hQ22
      refine own_Fin.go (fun t k => st22.trans k) ?_
      have N22 := Fr.app N21 N22q
      show own_Fin _ _ _ _ _ _ _ (T22.setTop (mkF m 135 #[.val (.long va), .second, .val (.long vb), .second, .val (.int vc), .val (.int (0 : Int32)), .val (.int (1 : Int32)), .val (.ref b12), .val (.ref b14), .val (.ref b16), .val (.long (1 : Int64)), .second, .val (.long (own_mx (0 : Int64) vb)), .second] [(.long ((0 : Int64) + ((0 : Int64) + (1 : Int64))))]))
      refine own_Fin.go (fun t k => XS.lload X22.here hx rfl (hb hby at_135) rfl k) ?_
      show own_Fin _ _ _ _ _ _ _ (T22.setTop (mkF m 137 #[.val (.long va), .second, .val (.long vb), .second, .val (.int vc), .val (.int (0 : Int32)), .val (.int (1 : Int32)), .val (.ref b12), .val (.ref b14), .val (.ref b16), .val (.long (1 : Int64)), .second, .val (.long (own_mx (0 : Int64) vb)), .second] [(.long (1 : Int64)), (.long ((0 : Int64) + ((0 : Int64) + (1 : Int64))))]))
      refine own_Fin.go (fun t k => XS.lcmp X22.here hx rfl (hb hby at_137) rfl k) ?_
      show own_Fin _ _ _ _ _ _ _ (T22.setTop (mkF m 138 #[.val (.long va), .second, .val (.long vb), .second, .val (.int vc), .val (.int (0 : Int32)), .val (.int (1 : Int32)), .val (.ref b12), .val (.ref b14), .val (.ref b16), .val (.long (1 : Int64)), .second, .val (.long (own_mx (0 : Int64) vb)), .second] [(.int (lcmpW ((0 : Int64) + ((0 : Int64) + (1 : Int64))) (1 : Int64)))]))
      have hc138 : ((0 : Int64) + ((0 : Int64) + (1 : Int64))) = (1 : Int64) := (by decide)
      refine own_Fin.go (fun t k => XS.ifNo X22.here hx rfl (hb hby at_138) rfl (Jvm.Free.XT.ll_ne_f hc138) k) ?_
      show own_Fin _ _ _ _ _ _ _ (T22.setTop (mkF m 141 #[.val (.long va), .second, .val (.long vb), .second, .val (.int vc), .val (.int (0 : Int32)), .val (.int (1 : Int32)), .val (.ref b12), .val (.ref b14), .val (.ref b16), .val (.long (1 : Int64)), .second, .val (.long (own_mx (0 : Int64) vb)), .second] []))
      refine own_Fin.go (fun t k => XS.aload X22.here hx rfl (hb hby at_141) rfl rfl k) ?_
      show own_Fin _ _ _ _ _ _ _ (T22.setTop (mkF m 143 #[.val (.long va), .second, .val (.long vb), .second, .val (.int vc), .val (.int (0 : Int32)), .val (.int (1 : Int32)), .val (.ref b12), .val (.ref b14), .val (.ref b16), .val (.long (1 : Int64)), .second, .val (.long (own_mx (0 : Int64) vb)), .second] [(.ref b12)]))
      obtain ⟨cq23, kq23, q23a, q23b, q23c⟩ := isOf hZ e22 c21_1
      obtain ⟨_, _, ⟨T23, L23, k23, n23⟩, -, X23, ⟨Lc23, hQ23, l23, y23, z23⟩, st23⟩ := X22.virtualBack hx (y := (⟨"com/example/canopy/canopy/bench/LatencyHistogram", "max", "()J"⟩ : MethodName)) (z := (⟨"com/example/canopy/canopy/bench/LatencyHistogram", "max", "()J"⟩ : MethodName)) hown (mvT hZ (hw _ (List.mem_of_getElem? (i := 30) rfl))) (mvT hZ (hw _ (List.mem_of_getElem? (i := 31) rfl))) (notFace_of_selects (args := #[]) (mvT hZ (hw _ (List.mem_of_getElem? (i := 33) rfl)))) (mvT hZ (hw _ (List.mem_of_getElem? (i := 33) rfl))) (mvT hZ (hw _ (List.mem_of_getElem? (i := 32) rfl))) (by decide) (backOf (W := 0) (own_rm_max l Z a0 hw [] b12 (own_mx (0 : Int64) (own_mx (0 : Int64) (own_mx (0 : Int64) vb))) T21.heap n0 Z21 c21_1 c21_4) hZ (hw _ (List.mem_of_getElem? (i := 34) rfl)) (hw _ (List.mem_of_getElem? (i := 2) rfl)) (by decide) (by decide)) q23a q23c (g := (mkF m 143 #[.val (.long va), .second, .val (.long vb), .second, .val (.int vc), .val (.int (0 : Int32)), .val (.int (1 : Int32)), .val (.ref b12), .val (.ref b14), .val (.ref b16), .val (.long (1 : Int64)), .second, .val (.long (own_mx (0 : Int64) vb)), .second] [(.ref b12)])) rfl (by rw [hml]; rfl) (Steps.refl _) (argsL := []) (rest := []) (lenOf own_pd6 rfl) rfl (by show 2 * 0 + _ ≤ _; exact Nat.le_of_eq rfl) (hb hby at_143) (fun _ _ => ⟨rfl, e22, (by decide : 6 + 0 ≤ _), (by decide : 11337 + 0 ≤ _)⟩)
      dsimp only [Pt.U, Pt.locs, Pt.cells, Pt.slots] at X23 l23 y23 z23 st23 hQ23
      subst l23 y23 z23
      obtain ⟨rfl, N23q, e23⟩ := hQ23
      refine own_Fin.go (fun t k => st23.trans k) ?_
      have N23 := Fr.app N22 N23q
      show own_Fin _ _ _ _ _ _ _ (T23.setTop (mkF m 146 #[.val (.long va), .second, .val (.long vb), .second, .val (.int vc), .val (.int (0 : Int32)), .val (.int (1 : Int32)), .val (.ref b12), .val (.ref b14), .val (.ref b16), .val (.long (1 : Int64)), .second, .val (.long (own_mx (0 : Int64) vb)), .second] [(.long (own_mx (0 : Int64) (own_mx (0 : Int64) (own_mx (0 : Int64) vb))))]))
      refine own_Fin.go (fun t k => XS.lload X23.here hx rfl (hb hby at_146) rfl k) ?_
      show own_Fin _ _ _ _ _ _ _ (T23.setTop (mkF m 148 #[.val (.long va), .second, .val (.long vb), .second, .val (.int vc), .val (.int (0 : Int32)), .val (.int (1 : Int32)), .val (.ref b12), .val (.ref b14), .val (.ref b16), .val (.long (1 : Int64)), .second, .val (.long (own_mx (0 : Int64) vb)), .second] [(.long (own_mx (0 : Int64) vb)), (.long (own_mx (0 : Int64) (own_mx (0 : Int64) (own_mx (0 : Int64) vb))))]))
      refine own_Fin.go (fun t k => XS.lcmp X23.here hx rfl (hb hby at_148) rfl k) ?_
      show own_Fin _ _ _ _ _ _ _ (T23.setTop (mkF m 149 #[.val (.long va), .second, .val (.long vb), .second, .val (.int vc), .val (.int (0 : Int32)), .val (.int (1 : Int32)), .val (.ref b12), .val (.ref b14), .val (.ref b16), .val (.long (1 : Int64)), .second, .val (.long (own_mx (0 : Int64) vb)), .second] [(.int (lcmpW (own_mx (0 : Int64) (own_mx (0 : Int64) (own_mx (0 : Int64) vb))) (own_mx (0 : Int64) vb)))]))
      have hc149 : (own_mx (0 : Int64) (own_mx (0 : Int64) (own_mx (0 : Int64) vb))) = (own_mx (0 : Int64) vb) := own_m2 vb
      refine own_Fin.go (fun t k => XS.ifNo X23.here hx rfl (hb hby at_149) rfl (Jvm.Free.XT.ll_ne_f hc149) k) ?_
      show own_Fin _ _ _ _ _ _ _ (T23.setTop (mkF m 152 #[.val (.long va), .second, .val (.long vb), .second, .val (.int vc), .val (.int (0 : Int32)), .val (.int (1 : Int32)), .val (.ref b12), .val (.ref b14), .val (.ref b16), .val (.long (1 : Int64)), .second, .val (.long (own_mx (0 : Int64) vb)), .second] []))
      refine own_Fin.go (fun t k => XS.aload X23.here hx rfl (hb hby at_152) rfl rfl k) ?_
      show own_Fin _ _ _ _ _ _ _ (T23.setTop (mkF m 154 #[.val (.long va), .second, .val (.long vb), .second, .val (.int vc), .val (.int (0 : Int32)), .val (.int (1 : Int32)), .val (.ref b12), .val (.ref b14), .val (.ref b16), .val (.long (1 : Int64)), .second, .val (.long (own_mx (0 : Int64) vb)), .second] [(.ref b12)]))
      refine own_Fin.go (fun t k => XS.dconst0 X23.here hx rfl (hb hby at_154) rfl k) ?_
      show own_Fin _ _ _ _ _ _ _ (T23.setTop (mkF m 155 #[.val (.long va), .second, .val (.long vb), .second, .val (.int vc), .val (.int (0 : Int32)), .val (.int (1 : Int32)), .val (.ref b12), .val (.ref b14), .val (.ref b16), .val (.long (1 : Int64)), .second, .val (.long (own_mx (0 : Int64) vb)), .second] [(.double Jvm.FP.dconst0), (.ref b12)]))
      obtain ⟨cq24, kq24, q24a, q24b, q24c⟩ := isOf hZ e23 c21_1
      obtain ⟨_, _, ⟨T24, L24, k24, n24⟩, -, X24, ⟨Lc24, hQ24, l24, y24, z24⟩, st24⟩ := X23.virtualBack hx (y := (⟨"com/example/canopy/canopy/bench/LatencyHistogram", "percentile", "(D)J"⟩ : MethodName)) (z := (⟨"com/example/canopy/canopy/bench/LatencyHistogram", "percentile", "(D)J"⟩ : MethodName)) hown (mvT hZ (hw _ (List.mem_of_getElem? (i := 35) rfl))) (mvT hZ (hw _ (List.mem_of_getElem? (i := 36) rfl))) (notFace_of_selects (args := #[]) (mvT hZ (hw _ (List.mem_of_getElem? (i := 38) rfl)))) (mvT hZ (hw _ (List.mem_of_getElem? (i := 38) rfl))) (mvT hZ (hw _ (List.mem_of_getElem? (i := 37) rfl))) (by decide) (backOf (W := 0) (own_rm_pct l Z a0 hw [] b12 ob13 kb13 ((0 : Int64) + ((0 : Int64) + (1 : Int64))) (own_mx (0 : Int64) (own_mx (0 : Int64) (own_mx (0 : Int64) vb))) (own_mix own_zero (own_up own_zero (own_bkt (own_mx (0 : Int64) vb)).toNatClampNeg (own_zero (own_bkt (own_mx (0 : Int64) vb)).toNatClampNeg + (1 : Int64))) 3776) T21.heap n0 Z21 c21_1 c21_2 c21_3 c21_4 c21_5 (by decide)) hZ (hw _ (List.mem_of_getElem? (i := 39) rfl)) (hw _ (List.mem_of_getElem? (i := 2) rfl)) (by decide) (by decide)) q24a q24c (g := (mkF m 155 #[.val (.long va), .second, .val (.long vb), .second, .val (.int vc), .val (.int (0 : Int32)), .val (.int (1 : Int32)), .val (.ref b12), .val (.ref b14), .val (.ref b16), .val (.long (1 : Int64)), .second, .val (.long (own_mx (0 : Int64) vb)), .second] [(.double Jvm.FP.dconst0), (.ref b12)])) rfl (by rw [hml]; rfl) (Steps.refl _) (argsL := [(.double Jvm.FP.dconst0)]) (rest := []) (lenOf own_pd7 rfl) rfl (by show 2 * 0 + _ ≤ _; exact Nat.le_of_eq rfl) (hb hby at_155) (fun _ _ => ⟨rfl, e23, (by decide : 6 + 0 ≤ _), (by decide : 11337 + 0 ≤ _)⟩)
      dsimp only [Pt.U, Pt.locs, Pt.cells, Pt.slots] at X24 l24 y24 z24 st24 hQ24
      subst l24 y24 z24
      obtain ⟨rfl, N24q, e24⟩ := hQ24
      refine own_Fin.go (fun t k => st24.trans k) ?_
      have N24 := Fr.app N23 N24q
      show own_Fin _ _ _ _ _ _ _ (T24.setTop (mkF m 158 #[.val (.long va), .second, .val (.long vb), .second, .val (.int vc), .val (.int (0 : Int32)), .val (.int (1 : Int32)), .val (.ref b12), .val (.ref b14), .val (.ref b16), .val (.long (1 : Int64)), .second, .val (.long (own_mx (0 : Int64) vb)), .second] [(.long (own_pct (own_mix own_zero (own_up own_zero (own_bkt (own_mx (0 : Int64) vb)).toNatClampNeg (own_zero (own_bkt (own_mx (0 : Int64) vb)).toNatClampNeg + (1 : Int64))) 3776) ((0 : Int64) + ((0 : Int64) + (1 : Int64))) (own_mx (0 : Int64) (own_mx (0 : Int64) (own_mx (0 : Int64) vb)))))]))
      refine own_Fin.go (fun t k => XS.aload X24.here hx rfl (hb hby at_158) rfl rfl k) ?_
      show own_Fin _ _ _ _ _ _ _ (T24.setTop (mkF m 160 #[.val (.long va), .second, .val (.long vb), .second, .val (.int vc), .val (.int (0 : Int32)), .val (.int (1 : Int32)), .val (.ref b12), .val (.ref b14), .val (.ref b16), .val (.long (1 : Int64)), .second, .val (.long (own_mx (0 : Int64) vb)), .second] [(.ref b16), (.long (own_pct (own_mix own_zero (own_up own_zero (own_bkt (own_mx (0 : Int64) vb)).toNatClampNeg (own_zero (own_bkt (own_mx (0 : Int64) vb)).toNatClampNeg + (1 : Int64))) 3776) ((0 : Int64) + ((0 : Int64) + (1 : Int64))) (own_mx (0 : Int64) (own_mx (0 : Int64) (own_mx (0 : Int64) vb)))))]))
      refine own_Fin.go (fun t k => XS.dconst0 X24.here hx rfl (hb hby at_160) rfl k) ?_
      show own_Fin _ _ _ _ _ _ _ (T24.setTop (mkF m 161 #[.val (.long va), .second, .val (.long vb), .second, .val (.int vc), .val (.int (0 : Int32)), .val (.int (1 : Int32)), .val (.ref b12), .val (.ref b14), .val (.ref b16), .val (.long (1 : Int64)), .second, .val (.long (own_mx (0 : Int64) vb)), .second] [(.double Jvm.FP.dconst0), (.ref b16), (.long (own_pct (own_mix own_zero (own_up own_zero (own_bkt (own_mx (0 : Int64) vb)).toNatClampNeg (own_zero (own_bkt (own_mx (0 : Int64) vb)).toNatClampNeg + (1 : Int64))) 3776) ((0 : Int64) + ((0 : Int64) + (1 : Int64))) (own_mx (0 : Int64) (own_mx (0 : Int64) (own_mx (0 : Int64) vb)))))]))
      obtain ⟨cq25, kq25, q25a, q25b, q25c⟩ := isOf hZ e24 E_b16_21
      obtain ⟨_, _, ⟨T25, L25, k25, n25⟩, -, X25, ⟨Lc25, hQ25, l25, y25, z25⟩, st25⟩ := X24.virtualBack hx (y := (⟨"com/example/canopy/canopy/bench/LatencyHistogram", "percentile", "(D)J"⟩ : MethodName)) (z := (⟨"com/example/canopy/canopy/bench/LatencyHistogram", "percentile", "(D)J"⟩ : MethodName)) hown (mvT hZ (hw _ (List.mem_of_getElem? (i := 35) rfl))) (mvT hZ (hw _ (List.mem_of_getElem? (i := 36) rfl))) (notFace_of_selects (args := #[]) (mvT hZ (hw _ (List.mem_of_getElem? (i := 38) rfl)))) (mvT hZ (hw _ (List.mem_of_getElem? (i := 38) rfl))) (mvT hZ (hw _ (List.mem_of_getElem? (i := 37) rfl))) (by decide) (backOf (W := 2) (own_rm_pct l Z a0 hw [] b16 ob17 kb17 ((0 : Int64) + (1 : Int64)) (own_mx (0 : Int64) (own_mx (0 : Int64) vb)) (own_up own_zero (own_bkt (own_mx (0 : Int64) vb)).toNatClampNeg (own_zero (own_bkt (own_mx (0 : Int64) vb)).toNatClampNeg + (1 : Int64))) T21.heap n0 Z21 E_b16_21 F_b16_counts_21 F_b16_count_21 F_b16_max_21 V_ob17_21 (by decide)) hZ (hw _ (List.mem_of_getElem? (i := 39) rfl)) (hw _ (List.mem_of_getElem? (i := 2) rfl)) (by decide) (by decide)) q25a q25c (g := (mkF m 161 #[.val (.long va), .second, .val (.long vb), .second, .val (.int vc), .val (.int (0 : Int32)), .val (.int (1 : Int32)), .val (.ref b12), .val (.ref b14), .val (.ref b16), .val (.long (1 : Int64)), .second, .val (.long (own_mx (0 : Int64) vb)), .second] [(.double Jvm.FP.dconst0), (.ref b16), (.long (own_pct (own_mix own_zero (own_up own_zero (own_bkt (own_mx (0 : Int64) vb)).toNatClampNeg (own_zero (own_bkt (own_mx (0 : Int64) vb)).toNatClampNeg + (1 : Int64))) 3776) ((0 : Int64) + ((0 : Int64) + (1 : Int64))) (own_mx (0 : Int64) (own_mx (0 : Int64) (own_mx (0 : Int64) vb)))))])) rfl (by rw [hml]; rfl) (Steps.refl _) (argsL := [(.double Jvm.FP.dconst0)]) (rest := [(.long (own_pct (own_mix own_zero (own_up own_zero (own_bkt (own_mx (0 : Int64) vb)).toNatClampNeg (own_zero (own_bkt (own_mx (0 : Int64) vb)).toNatClampNeg + (1 : Int64))) 3776) ((0 : Int64) + ((0 : Int64) + (1 : Int64))) (own_mx (0 : Int64) (own_mx (0 : Int64) (own_mx (0 : Int64) vb)))))]) (lenOf own_pd7 rfl) rfl (by show 2 * 0 + _ ≤ _; exact Nat.le_of_eq rfl) (hb hby at_161) (fun _ _ => ⟨rfl, e24, (by decide : 6 + 0 ≤ _), (by decide : 11337 + 0 ≤ _)⟩)
      dsimp only [Pt.U, Pt.locs, Pt.cells, Pt.slots] at X25 l25 y25 z25 st25 hQ25
      subst l25 y25 z25
      obtain ⟨rfl, N25q, e25⟩ := hQ25
      refine own_Fin.go (fun t k => st25.trans k) ?_
      have N25 := Fr.app N24 N25q
      show own_Fin _ _ _ _ _ _ _ (T25.setTop (mkF m 164 #[.val (.long va), .second, .val (.long vb), .second, .val (.int vc), .val (.int (0 : Int32)), .val (.int (1 : Int32)), .val (.ref b12), .val (.ref b14), .val (.ref b16), .val (.long (1 : Int64)), .second, .val (.long (own_mx (0 : Int64) vb)), .second] [(.long (own_pct (own_up own_zero (own_bkt (own_mx (0 : Int64) vb)).toNatClampNeg (own_zero (own_bkt (own_mx (0 : Int64) vb)).toNatClampNeg + (1 : Int64))) ((0 : Int64) + (1 : Int64)) (own_mx (0 : Int64) (own_mx (0 : Int64) vb)))), (.long (own_pct (own_mix own_zero (own_up own_zero (own_bkt (own_mx (0 : Int64) vb)).toNatClampNeg (own_zero (own_bkt (own_mx (0 : Int64) vb)).toNatClampNeg + (1 : Int64))) 3776) ((0 : Int64) + ((0 : Int64) + (1 : Int64))) (own_mx (0 : Int64) (own_mx (0 : Int64) (own_mx (0 : Int64) vb)))))]))
      refine own_Fin.go (fun t k => XS.lcmp X25.here hx rfl (hb hby at_164) rfl k) ?_
      show own_Fin _ _ _ _ _ _ _ (T25.setTop (mkF m 165 #[.val (.long va), .second, .val (.long vb), .second, .val (.int vc), .val (.int (0 : Int32)), .val (.int (1 : Int32)), .val (.ref b12), .val (.ref b14), .val (.ref b16), .val (.long (1 : Int64)), .second, .val (.long (own_mx (0 : Int64) vb)), .second] [(.int (lcmpW (own_pct (own_mix own_zero (own_up own_zero (own_bkt (own_mx (0 : Int64) vb)).toNatClampNeg (own_zero (own_bkt (own_mx (0 : Int64) vb)).toNatClampNeg + (1 : Int64))) 3776) ((0 : Int64) + ((0 : Int64) + (1 : Int64))) (own_mx (0 : Int64) (own_mx (0 : Int64) (own_mx (0 : Int64) vb)))) (own_pct (own_up own_zero (own_bkt (own_mx (0 : Int64) vb)).toNatClampNeg (own_zero (own_bkt (own_mx (0 : Int64) vb)).toNatClampNeg + (1 : Int64))) ((0 : Int64) + (1 : Int64)) (own_mx (0 : Int64) (own_mx (0 : Int64) vb)))))]))
      have hc165 : (own_pct (own_mix own_zero (own_up own_zero (own_bkt (own_mx (0 : Int64) vb)).toNatClampNeg (own_zero (own_bkt (own_mx (0 : Int64) vb)).toNatClampNeg + (1 : Int64))) 3776) ((0 : Int64) + ((0 : Int64) + (1 : Int64))) (own_mx (0 : Int64) (own_mx (0 : Int64) (own_mx (0 : Int64) vb)))) = (own_pct (own_up own_zero (own_bkt (own_mx (0 : Int64) vb)).toNatClampNeg (own_zero (own_bkt (own_mx (0 : Int64) vb)).toNatClampNeg + (1 : Int64))) ((0 : Int64) + (1 : Int64)) (own_mx (0 : Int64) (own_mx (0 : Int64) vb))) := own_pe (own_c2 _ _ (own_kb vb)) (by decide) (own_m5 vb)
      refine own_Fin.go (fun t k => XS.ifNo X25.here hx rfl (hb hby at_165) rfl (Jvm.Free.XT.ll_ne_f hc165) k) ?_
      show own_Fin _ _ _ _ _ _ _ (T25.setTop (mkF m 168 #[.val (.long va), .second, .val (.long vb), .second, .val (.int vc), .val (.int (0 : Int32)), .val (.int (1 : Int32)), .val (.ref b12), .val (.ref b14), .val (.ref b16), .val (.long (1 : Int64)), .second, .val (.long (own_mx (0 : Int64) vb)), .second] []))
      refine own_Fin.go (fun t k => XS.iconst X25.here hx rfl (hb hby at_168) k) ?_
      show own_Fin _ _ _ _ _ _ _ (T25.setTop (mkF m 169 #[.val (.long va), .second, .val (.long vb), .second, .val (.int vc), .val (.int (0 : Int32)), .val (.int (1 : Int32)), .val (.ref b12), .val (.ref b14), .val (.ref b16), .val (.long (1 : Int64)), .second, .val (.long (own_mx (0 : Int64) vb)), .second] [(.int (1 : Int32))]))
      refine own_Fin.go (fun t k => XS.goto X25.here hx rfl (pc0 := 169) (pc' := 173) rfl (hb hby at_169) (by decide) (by decide) k) ?_
      show own_Fin _ _ _ _ _ _ _ (T25.setTop (mkF m 173 #[.val (.long va), .second, .val (.long vb), .second, .val (.int vc), .val (.int (0 : Int32)), .val (.int (1 : Int32)), .val (.ref b12), .val (.ref b14), .val (.ref b16), .val (.long (1 : Int64)), .second, .val (.long (own_mx (0 : Int64) vb)), .second] [(.int (1 : Int32))]))
      refine own_retN X25 hx (t := .boolean) (w := (1 : Int32)) Bd.returns (by simp) (hb hby at_173) Bd.notSynchronized rfl (by decide) (by decide) ?_
      rw [e25]
      exact ⟨rfl, N25⟩
  · refine own_Fin.go (fun t k => XS.ifNo X0.here hx rfl (hb hby at_4) rfl (Jvm.Free.XT.i0_eq_f hc4) k) ?_
    show own_Fin _ _ _ _ _ _ _ (s₁.setTop (mkF m 7 #[.val (.long va), .second, .val (.long vb), .second, .val (.int vc), .unset, .unset, .unset, .unset, .unset, .unset, .unset, .unset, .unset] []))
    refine own_Fin.go (fun t k => XS.iconst X0.here hx rfl (hb hby at_7) k) ?_
    show own_Fin _ _ _ _ _ _ _ (s₁.setTop (mkF m 8 #[.val (.long va), .second, .val (.long vb), .second, .val (.int vc), .unset, .unset, .unset, .unset, .unset, .unset, .unset, .unset, .unset] [(.int (1 : Int32))]))
    refine own_Fin.go (fun t k => XS.goto X0.here hx rfl (pc0 := 8) (pc' := 12) rfl (hb hby at_8) (by decide) (by decide) k) ?_
    show own_Fin _ _ _ _ _ _ _ (s₁.setTop (mkF m 12 #[.val (.long va), .second, .val (.long vb), .second, .val (.int vc), .unset, .unset, .unset, .unset, .unset, .unset, .unset, .unset, .unset] [(.int (1 : Int32))]))
    refine own_Fin.go (fun t k => XS.istore X0.here hx rfl (hb hby at_12) rfl (l' := #[.val (.long va), .second, .val (.long vb), .second, .val (.int vc), .val (.int (1 : Int32)), .unset, .unset, .unset, .unset, .unset, .unset, .unset, .unset]) rfl k) ?_
    show own_Fin _ _ _ _ _ _ _ (s₁.setTop (mkF m 14 #[.val (.long va), .second, .val (.long vb), .second, .val (.int vc), .val (.int (1 : Int32)), .unset, .unset, .unset, .unset, .unset, .unset, .unset, .unset] []))
    refine own_Fin.go (fun t k => XS.iload X0.here hx rfl (hb hby at_14) rfl k) ?_
    show own_Fin _ _ _ _ _ _ _ (s₁.setTop (mkF m 16 #[.val (.long va), .second, .val (.long vb), .second, .val (.int vc), .val (.int (1 : Int32)), .unset, .unset, .unset, .unset, .unset, .unset, .unset, .unset] [(.int vc)]))
    refine own_Fin.go (fun t k => XS.iconst X0.here hx rfl (hb hby at_16) k) ?_
    show own_Fin _ _ _ _ _ _ _ (s₁.setTop (mkF m 17 #[.val (.long va), .second, .val (.long vb), .second, .val (.int vc), .val (.int (1 : Int32)), .unset, .unset, .unset, .unset, .unset, .unset, .unset, .unset] [(.int (2 : Int32)), (.int vc)]))
    refine own_Fin.go (fun t k => XS.iand X0.here hx rfl (hb hby at_17) rfl k) ?_
    show own_Fin _ _ _ _ _ _ _ (s₁.setTop (mkF m 18 #[.val (.long va), .second, .val (.long vb), .second, .val (.int vc), .val (.int (1 : Int32)), .unset, .unset, .unset, .unset, .unset, .unset, .unset, .unset] [(.int (vc &&& (2 : Int32)))]))
    by_cases hc18 : (vc &&& (2 : Int32)) = (0 : Int32)
    · refine own_Fin.go (fun t k => XS.ifYes X0.here hx rfl (pc0 := 18) (pc' := 25) rfl (hb hby at_18) rfl (Jvm.Free.XT.i0_eq_t hc18) (by decide) (by decide) k) ?_
      show own_Fin _ _ _ _ _ _ _ (s₁.setTop (mkF m 25 #[.val (.long va), .second, .val (.long vb), .second, .val (.int vc), .val (.int (1 : Int32)), .unset, .unset, .unset, .unset, .unset, .unset, .unset, .unset] []))
      refine own_Fin.go (fun t k => XS.iconst X0.here hx rfl (hb hby at_25) k) ?_
      show own_Fin _ _ _ _ _ _ _ (s₁.setTop (mkF m 26 #[.val (.long va), .second, .val (.long vb), .second, .val (.int vc), .val (.int (1 : Int32)), .unset, .unset, .unset, .unset, .unset, .unset, .unset, .unset] [(.int (0 : Int32))]))
      refine own_Fin.go (fun t k => XS.istore X0.here hx rfl (hb hby at_26) rfl (l' := #[.val (.long va), .second, .val (.long vb), .second, .val (.int vc), .val (.int (1 : Int32)), .val (.int (0 : Int32)), .unset, .unset, .unset, .unset, .unset, .unset, .unset]) rfl k) ?_
      show own_Fin _ _ _ _ _ _ _ (s₁.setTop (mkF m 28 #[.val (.long va), .second, .val (.long vb), .second, .val (.int vc), .val (.int (1 : Int32)), .val (.int (0 : Int32)), .unset, .unset, .unset, .unset, .unset, .unset, .unset] []))
      obtain ⟨T26, h26, X26, e26, E26, A26, D26, -, st26⟩ := newO X0 hx hZ hown (hw _ (List.mem_of_getElem? (i := 0) rfl)) (hw _ (List.mem_of_getElem? (i := 1) rfl)) (hw _ (List.mem_of_getElem? (i := 2) rfl)) e0 (g := (mkF m 28 #[.val (.long va), .second, .val (.long vb), .second, .val (.int vc), .val (.int (1 : Int32)), .val (.int (0 : Int32)), .unset, .unset, .unset, .unset, .unset, .unset, .unset] [])) rfl (hb hby at_28) (by decide) (by decide)
      obtain ⟨b26, g26⟩ : ∃ z, z = h0.size := ⟨_, rfl⟩
      rw [← g26] at A26 D26 st26
      refine own_Fin.go st26 ?_
      have g_b26 : n0 ≤ b26 := Nat.le_trans Z0 (Nat.le_of_eq g26.symm)
      have Z26 := Nat.le_trans Z0 E26.1
      have F_b26_counts : Fld Z h26 b26 "com/example/canopy/canopy/bench/LatencyHistogram" "counts" "[J" .null := D26 (Or.inr (hw _ (List.mem_of_getElem? (i := 11) rfl))) (ty := (.array .long)) (by decide)
      have F_b26_count : Fld Z h26 b26 "com/example/canopy/canopy/bench/LatencyHistogram" "count" "J" (.long (0 : Int64)) := D26 (Or.inl (hw _ (List.mem_of_getElem? (i := 18) rfl))) (ty := .long) (by decide)
      have F_b26_max : Fld Z h26 b26 "com/example/canopy/canopy/bench/LatencyHistogram" "max" "J" (.long (0 : Int64)) := D26 (Or.inl (hw _ (List.mem_of_getElem? (i := 20) rfl))) (ty := .long) (by decide)
      show own_Fin _ _ _ _ _ _ _ (T26.setTop (mkF m 31 #[.val (.long va), .second, .val (.long vb), .second, .val (.int vc), .val (.int (1 : Int32)), .val (.int (0 : Int32)), .unset, .unset, .unset, .unset, .unset, .unset, .unset] [(.ref b26)]))
      refine own_Fin.go (fun t k => XS.dup X26.here hx rfl (hb hby at_31) rfl rfl k) ?_
      show own_Fin _ _ _ _ _ _ _ (T26.setTop (mkF m 32 #[.val (.long va), .second, .val (.long vb), .second, .val (.int vc), .val (.int (1 : Int32)), .val (.int (0 : Int32)), .unset, .unset, .unset, .unset, .unset, .unset, .unset] [(.ref b26), (.ref b26)]))
      obtain ⟨_, _, ⟨T27, L27, k27, n27⟩, -, X27, ⟨Lc27, hQ27, l27, y27, z27⟩, st27⟩ := X26.specialBack hx (y := (⟨"com/example/canopy/canopy/bench/LatencyHistogram", "<init>", "()V"⟩ : MethodName)) rfl hown (mvT hZ (hw _ (List.mem_of_getElem? (i := 3) rfl))) (mvT hZ (hw _ (List.mem_of_getElem? (i := 4) rfl))) (mvT hZ (hw _ (List.mem_of_getElem? (i := 5) rfl))) (by decide) (backOf (W := 1) (own_rm_ini l Z a0 hw [] b26  h26 n0 Z26 A26 F_b26_counts F_b26_count F_b26_max g_b26) hZ (hw _ (List.mem_of_getElem? (i := 5) rfl)) (hw _ (List.mem_of_getElem? (i := 2) rfl)) (by decide) (by decide)) (g := (mkF m 32 #[.val (.long va), .second, .val (.long vb), .second, .val (.int vc), .val (.int (1 : Int32)), .val (.int (0 : Int32)), .unset, .unset, .unset, .unset, .unset, .unset, .unset] [(.ref b26), (.ref b26)])) rfl (by rw [hml]; rfl) (Steps.refl _) (a := b26) (argsL := []) (rest := [(.ref b26)]) (lenOf own_pd4 rfl) rfl (by show 2 * 0 + _ ≤ _; exact Nat.le_of_eq rfl) (hb hby at_32) (fun _ _ => ⟨rfl, e26, (by decide : 1 + 1 ≤ _), (by decide : 3 + 3776 ≤ _)⟩)
      dsimp only [Pt.U, Pt.locs, Pt.cells, Pt.slots] at X27 l27 y27 z27 st27 hQ27
      subst l27 y27 z27
      obtain ⟨ob27, kb27, rfl, N27q, K27q, c27_1, c27_2, c27_3, c27_4, c27_5, c27_6, c27_7⟩ := hQ27
      refine own_Fin.go (fun t k => st27.trans k) ?_
      have N27 := Fr.app N0 N27q
      have Z27 := Nat.le_trans Z26 K27q.1
      have ne_b26_ob27 : b26 ≠ ob27 := Nat.ne_of_lt (Nat.lt_of_lt_of_le F_b26_max.lt c27_6)
      have g_ob27 : n0 ≤ ob27 := Nat.le_trans Z26 c27_6
      show own_Fin _ _ _ _ _ _ _ (T27.setTop (mkF m 35 #[.val (.long va), .second, .val (.long vb), .second, .val (.int vc), .val (.int (1 : Int32)), .val (.int (0 : Int32)), .unset, .unset, .unset, .unset, .unset, .unset, .unset] [(.ref b26)]))
      refine own_Fin.go (fun t k => XS.astore X27.here hx rfl (hb hby at_35) rfl rfl (l' := #[.val (.long va), .second, .val (.long vb), .second, .val (.int vc), .val (.int (1 : Int32)), .val (.int (0 : Int32)), .val (.ref b26), .unset, .unset, .unset, .unset, .unset, .unset]) rfl k) ?_
      show own_Fin _ _ _ _ _ _ _ (T27.setTop (mkF m 37 #[.val (.long va), .second, .val (.long vb), .second, .val (.int vc), .val (.int (1 : Int32)), .val (.int (0 : Int32)), .val (.ref b26), .unset, .unset, .unset, .unset, .unset, .unset] []))
      obtain ⟨T28, h28, X28, e28, E28, A28, D28, -, st28⟩ := newO X27 hx hZ hown (hw _ (List.mem_of_getElem? (i := 0) rfl)) (hw _ (List.mem_of_getElem? (i := 1) rfl)) (hw _ (List.mem_of_getElem? (i := 2) rfl)) rfl (g := (mkF m 37 #[.val (.long va), .second, .val (.long vb), .second, .val (.int vc), .val (.int (1 : Int32)), .val (.int (0 : Int32)), .val (.ref b26), .unset, .unset, .unset, .unset, .unset, .unset] [])) rfl (hb hby at_37) (by decide) (by decide)
      obtain ⟨b28, g28⟩ : ∃ z, z = T27.heap.size := ⟨_, rfl⟩
      rw [← g28] at A28 D28 st28
      refine own_Fin.go st28 ?_
      have g_b28 : n0 ≤ b28 := Nat.le_trans Z27 (Nat.le_of_eq g28.symm)
      have ne_b26_b28 : b26 ≠ b28 := Nat.ne_of_lt (Nat.lt_of_lt_of_le c27_4.lt (Nat.le_of_eq g28.symm))
      have ne_ob27_b28 : ob27 ≠ b28 := Nat.ne_of_lt (Nat.lt_of_lt_of_le c27_5.lt (Nat.le_of_eq g28.symm))
      have E_b26_28 := Exa.ext E28 c27_1
      have F_b26_counts_28 := Fld.ext E28 c27_2
      have F_b26_count_28 := Fld.ext E28 c27_3
      have F_b26_max_28 := Fld.ext E28 c27_4
      have V_ob27_28 := c27_5.ext E28
      have Z28 := Nat.le_trans Z27 E28.1
      have F_b28_counts : Fld Z h28 b28 "com/example/canopy/canopy/bench/LatencyHistogram" "counts" "[J" .null := D28 (Or.inr (hw _ (List.mem_of_getElem? (i := 11) rfl))) (ty := (.array .long)) (by decide)
      have F_b28_count : Fld Z h28 b28 "com/example/canopy/canopy/bench/LatencyHistogram" "count" "J" (.long (0 : Int64)) := D28 (Or.inl (hw _ (List.mem_of_getElem? (i := 18) rfl))) (ty := .long) (by decide)
      have F_b28_max : Fld Z h28 b28 "com/example/canopy/canopy/bench/LatencyHistogram" "max" "J" (.long (0 : Int64)) := D28 (Or.inl (hw _ (List.mem_of_getElem? (i := 20) rfl))) (ty := .long) (by decide)
      show own_Fin _ _ _ _ _ _ _ (T28.setTop (mkF m 40 #[.val (.long va), .second, .val (.long vb), .second, .val (.int vc), .val (.int (1 : Int32)), .val (.int (0 : Int32)), .val (.ref b26), .unset, .unset, .unset, .unset, .unset, .unset] [(.ref b28)]))
      refine own_Fin.go (fun t k => XS.dup X28.here hx rfl (hb hby at_40) rfl rfl k) ?_
      show own_Fin _ _ _ _ _ _ _ (T28.setTop (mkF m 41 #[.val (.long va), .second, .val (.long vb), .second, .val (.int vc), .val (.int (1 : Int32)), .val (.int (0 : Int32)), .val (.ref b26), .unset, .unset, .unset, .unset, .unset, .unset] [(.ref b28), (.ref b28)]))
      obtain ⟨_, _, ⟨T29, L29, k29, n29⟩, -, X29, ⟨Lc29, hQ29, l29, y29, z29⟩, st29⟩ := X28.specialBack hx (y := (⟨"com/example/canopy/canopy/bench/LatencyHistogram", "<init>", "()V"⟩ : MethodName)) rfl hown (mvT hZ (hw _ (List.mem_of_getElem? (i := 3) rfl))) (mvT hZ (hw _ (List.mem_of_getElem? (i := 4) rfl))) (mvT hZ (hw _ (List.mem_of_getElem? (i := 5) rfl))) (by decide) (backOf (W := 1) (own_rm_ini l Z a0 hw [] b28  h28 n0 Z28 A28 F_b28_counts F_b28_count F_b28_max g_b28) hZ (hw _ (List.mem_of_getElem? (i := 5) rfl)) (hw _ (List.mem_of_getElem? (i := 2) rfl)) (by decide) (by decide)) (g := (mkF m 41 #[.val (.long va), .second, .val (.long vb), .second, .val (.int vc), .val (.int (1 : Int32)), .val (.int (0 : Int32)), .val (.ref b26), .unset, .unset, .unset, .unset, .unset, .unset] [(.ref b28), (.ref b28)])) rfl (by rw [hml]; rfl) (Steps.refl _) (a := b28) (argsL := []) (rest := [(.ref b28)]) (lenOf own_pd4 rfl) rfl (by show 2 * 0 + _ ≤ _; exact Nat.le_of_eq rfl) (hb hby at_41) (fun _ _ => ⟨rfl, e28, (by decide : 3 + 1 ≤ _), (by decide : 3782 + 3776 ≤ _)⟩)
      dsimp only [Pt.U, Pt.locs, Pt.cells, Pt.slots] at X29 l29 y29 z29 st29 hQ29
      subst l29 y29 z29
      obtain ⟨ob29, kb29, rfl, N29q, K29q, c29_1, c29_2, c29_3, c29_4, c29_5, c29_6, c29_7⟩ := hQ29
      refine own_Fin.go (fun t k => st29.trans k) ?_
      have N29 := Fr.app N27 N29q
      have E_b26_29 := E_b26_28.keep K29q
      have F_b26_counts_29 := F_b26_counts_28.keep K29q (ninS ne_b26_b28 nin0)
      have F_b26_count_29 := F_b26_count_28.keep K29q (ninS ne_b26_b28 nin0)
      have F_b26_max_29 := F_b26_max_28.keep K29q (ninS ne_b26_b28 nin0)
      have V_ob27_29 := V_ob27_28.keep K29q (ninS ne_ob27_b28 nin0)
      have Z29 := Nat.le_trans Z28 K29q.1
      have ne_b26_ob29 : b26 ≠ ob29 := Nat.ne_of_lt (Nat.lt_of_lt_of_le F_b26_max_28.lt c29_6)
      have ne_ob27_ob29 : ob27 ≠ ob29 := Nat.ne_of_lt (Nat.lt_of_lt_of_le V_ob27_28.lt c29_6)
      have ne_b28_ob29 : b28 ≠ ob29 := Nat.ne_of_lt (Nat.lt_of_lt_of_le F_b28_max.lt c29_6)
      have g_ob29 : n0 ≤ ob29 := Nat.le_trans Z28 c29_6
      show own_Fin _ _ _ _ _ _ _ (T29.setTop (mkF m 44 #[.val (.long va), .second, .val (.long vb), .second, .val (.int vc), .val (.int (1 : Int32)), .val (.int (0 : Int32)), .val (.ref b26), .unset, .unset, .unset, .unset, .unset, .unset] [(.ref b28)]))
      refine own_Fin.go (fun t k => XS.astore X29.here hx rfl (hb hby at_44) rfl rfl (l' := #[.val (.long va), .second, .val (.long vb), .second, .val (.int vc), .val (.int (1 : Int32)), .val (.int (0 : Int32)), .val (.ref b26), .val (.ref b28), .unset, .unset, .unset, .unset, .unset]) rfl k) ?_
      show own_Fin _ _ _ _ _ _ _ (T29.setTop (mkF m 46 #[.val (.long va), .second, .val (.long vb), .second, .val (.int vc), .val (.int (1 : Int32)), .val (.int (0 : Int32)), .val (.ref b26), .val (.ref b28), .unset, .unset, .unset, .unset, .unset] []))
      obtain ⟨T30, h30, X30, e30, E30, A30, D30, -, st30⟩ := newO X29 hx hZ hown (hw _ (List.mem_of_getElem? (i := 0) rfl)) (hw _ (List.mem_of_getElem? (i := 1) rfl)) (hw _ (List.mem_of_getElem? (i := 2) rfl)) rfl (g := (mkF m 46 #[.val (.long va), .second, .val (.long vb), .second, .val (.int vc), .val (.int (1 : Int32)), .val (.int (0 : Int32)), .val (.ref b26), .val (.ref b28), .unset, .unset, .unset, .unset, .unset] [])) rfl (hb hby at_46) (by decide) (by decide)
      obtain ⟨b30, g30⟩ : ∃ z, z = T29.heap.size := ⟨_, rfl⟩
      rw [← g30] at A30 D30 st30
      refine own_Fin.go st30 ?_
      have g_b30 : n0 ≤ b30 := Nat.le_trans Z29 (Nat.le_of_eq g30.symm)
      have ne_b26_b30 : b26 ≠ b30 := Nat.ne_of_lt (Nat.lt_of_lt_of_le F_b26_max_29.lt (Nat.le_of_eq g30.symm))
      have ne_ob27_b30 : ob27 ≠ b30 := Nat.ne_of_lt (Nat.lt_of_lt_of_le V_ob27_29.lt (Nat.le_of_eq g30.symm))
      have ne_b28_b30 : b28 ≠ b30 := Nat.ne_of_lt (Nat.lt_of_lt_of_le c29_4.lt (Nat.le_of_eq g30.symm))
      have ne_ob29_b30 : ob29 ≠ b30 := Nat.ne_of_lt (Nat.lt_of_lt_of_le c29_5.lt (Nat.le_of_eq g30.symm))
      have E_b26_30 := Exa.ext E30 E_b26_29
      have F_b26_counts_30 := Fld.ext E30 F_b26_counts_29
      have F_b26_count_30 := Fld.ext E30 F_b26_count_29
      have F_b26_max_30 := Fld.ext E30 F_b26_max_29
      have V_ob27_30 := V_ob27_29.ext E30
      have E_b28_30 := Exa.ext E30 c29_1
      have F_b28_counts_30 := Fld.ext E30 c29_2
      have F_b28_count_30 := Fld.ext E30 c29_3
      have F_b28_max_30 := Fld.ext E30 c29_4
      have V_ob29_30 := c29_5.ext E30
      have Z30 := Nat.le_trans Z29 E30.1
      have F_b30_counts : Fld Z h30 b30 "com/example/canopy/canopy/bench/LatencyHistogram" "counts" "[J" .null := D30 (Or.inr (hw _ (List.mem_of_getElem? (i := 11) rfl))) (ty := (.array .long)) (by decide)
      have F_b30_count : Fld Z h30 b30 "com/example/canopy/canopy/bench/LatencyHistogram" "count" "J" (.long (0 : Int64)) := D30 (Or.inl (hw _ (List.mem_of_getElem? (i := 18) rfl))) (ty := .long) (by decide)
      have F_b30_max : Fld Z h30 b30 "com/example/canopy/canopy/bench/LatencyHistogram" "max" "J" (.long (0 : Int64)) := D30 (Or.inl (hw _ (List.mem_of_getElem? (i := 20) rfl))) (ty := .long) (by decide)
      show own_Fin _ _ _ _ _ _ _ (T30.setTop (mkF m 49 #[.val (.long va), .second, .val (.long vb), .second, .val (.int vc), .val (.int (1 : Int32)), .val (.int (0 : Int32)), .val (.ref b26), .val (.ref b28), .unset, .unset, .unset, .unset, .unset] [(.ref b30)]))
      refine own_Fin.go (fun t k => XS.dup X30.here hx rfl (hb hby at_49) rfl rfl k) ?_
      show own_Fin _ _ _ _ _ _ _ (T30.setTop (mkF m 50 #[.val (.long va), .second, .val (.long vb), .second, .val (.int vc), .val (.int (1 : Int32)), .val (.int (0 : Int32)), .val (.ref b26), .val (.ref b28), .unset, .unset, .unset, .unset, .unset] [(.ref b30), (.ref b30)]))
      obtain ⟨_, _, ⟨T31, L31, k31, n31⟩, -, X31, ⟨Lc31, hQ31, l31, y31, z31⟩, st31⟩ := X30.specialBack hx (y := (⟨"com/example/canopy/canopy/bench/LatencyHistogram", "<init>", "()V"⟩ : MethodName)) rfl hown (mvT hZ (hw _ (List.mem_of_getElem? (i := 3) rfl))) (mvT hZ (hw _ (List.mem_of_getElem? (i := 4) rfl))) (mvT hZ (hw _ (List.mem_of_getElem? (i := 5) rfl))) (by decide) (backOf (W := 1) (own_rm_ini l Z a0 hw [] b30  h30 n0 Z30 A30 F_b30_counts F_b30_count F_b30_max g_b30) hZ (hw _ (List.mem_of_getElem? (i := 5) rfl)) (hw _ (List.mem_of_getElem? (i := 2) rfl)) (by decide) (by decide)) (g := (mkF m 50 #[.val (.long va), .second, .val (.long vb), .second, .val (.int vc), .val (.int (1 : Int32)), .val (.int (0 : Int32)), .val (.ref b26), .val (.ref b28), .unset, .unset, .unset, .unset, .unset] [(.ref b30), (.ref b30)])) rfl (by rw [hml]; rfl) (Steps.refl _) (a := b30) (argsL := []) (rest := [(.ref b30)]) (lenOf own_pd4 rfl) rfl (by show 2 * 0 + _ ≤ _; exact Nat.le_of_eq rfl) (hb hby at_50) (fun _ _ => ⟨rfl, e30, (by decide : 5 + 1 ≤ _), (by decide : 7561 + 3776 ≤ _)⟩)
      dsimp only [Pt.U, Pt.locs, Pt.cells, Pt.slots] at X31 l31 y31 z31 st31 hQ31
      subst l31 y31 z31
      obtain ⟨ob31, kb31, rfl, N31q, K31q, c31_1, c31_2, c31_3, c31_4, c31_5, c31_6, c31_7⟩ := hQ31
      refine own_Fin.go (fun t k => st31.trans k) ?_
      have N31 := Fr.app N29 N31q
      have E_b26_31 := E_b26_30.keep K31q
      have F_b26_counts_31 := F_b26_counts_30.keep K31q (ninS ne_b26_b30 nin0)
      have F_b26_count_31 := F_b26_count_30.keep K31q (ninS ne_b26_b30 nin0)
      have F_b26_max_31 := F_b26_max_30.keep K31q (ninS ne_b26_b30 nin0)
      have V_ob27_31 := V_ob27_30.keep K31q (ninS ne_ob27_b30 nin0)
      have E_b28_31 := E_b28_30.keep K31q
      have F_b28_counts_31 := F_b28_counts_30.keep K31q (ninS ne_b28_b30 nin0)
      have F_b28_count_31 := F_b28_count_30.keep K31q (ninS ne_b28_b30 nin0)
      have F_b28_max_31 := F_b28_max_30.keep K31q (ninS ne_b28_b30 nin0)
      have V_ob29_31 := V_ob29_30.keep K31q (ninS ne_ob29_b30 nin0)
      have Z31 := Nat.le_trans Z30 K31q.1
      have ne_b26_ob31 : b26 ≠ ob31 := Nat.ne_of_lt (Nat.lt_of_lt_of_le F_b26_max_30.lt c31_6)
      have ne_ob27_ob31 : ob27 ≠ ob31 := Nat.ne_of_lt (Nat.lt_of_lt_of_le V_ob27_30.lt c31_6)
      have ne_b28_ob31 : b28 ≠ ob31 := Nat.ne_of_lt (Nat.lt_of_lt_of_le F_b28_max_30.lt c31_6)
      have ne_ob29_ob31 : ob29 ≠ ob31 := Nat.ne_of_lt (Nat.lt_of_lt_of_le V_ob29_30.lt c31_6)
      have ne_b30_ob31 : b30 ≠ ob31 := Nat.ne_of_lt (Nat.lt_of_lt_of_le F_b30_max.lt c31_6)
      have g_ob31 : n0 ≤ ob31 := Nat.le_trans Z30 c31_6
      show own_Fin _ _ _ _ _ _ _ (T31.setTop (mkF m 53 #[.val (.long va), .second, .val (.long vb), .second, .val (.int vc), .val (.int (1 : Int32)), .val (.int (0 : Int32)), .val (.ref b26), .val (.ref b28), .unset, .unset, .unset, .unset, .unset] [(.ref b30)]))
      refine own_Fin.go (fun t k => XS.astore X31.here hx rfl (hb hby at_53) rfl rfl (l' := #[.val (.long va), .second, .val (.long vb), .second, .val (.int vc), .val (.int (1 : Int32)), .val (.int (0 : Int32)), .val (.ref b26), .val (.ref b28), .val (.ref b30), .unset, .unset, .unset, .unset]) rfl k) ?_
      show own_Fin _ _ _ _ _ _ _ (T31.setTop (mkF m 55 #[.val (.long va), .second, .val (.long vb), .second, .val (.int vc), .val (.int (1 : Int32)), .val (.int (0 : Int32)), .val (.ref b26), .val (.ref b28), .val (.ref b30), .unset, .unset, .unset, .unset] []))
      refine own_Fin.go (fun t k => XS.lconst X31.here hx rfl (hb hby at_55) k) ?_
      show own_Fin _ _ _ _ _ _ _ (T31.setTop (mkF m 56 #[.val (.long va), .second, .val (.long vb), .second, .val (.int vc), .val (.int (1 : Int32)), .val (.int (0 : Int32)), .val (.ref b26), .val (.ref b28), .val (.ref b30), .unset, .unset, .unset, .unset] [(.long (0 : Int64))]))
      refine own_Fin.go (fun t k => XS.lstore X31.here hx rfl (hb hby at_56) rfl (l' := #[.val (.long va), .second, .val (.long vb), .second, .val (.int vc), .val (.int (1 : Int32)), .val (.int (0 : Int32)), .val (.ref b26), .val (.ref b28), .val (.ref b30), .val (.long (0 : Int64)), .second, .unset, .unset]) rfl k) ?_
      show own_Fin _ _ _ _ _ _ _ (T31.setTop (mkF m 58 #[.val (.long va), .second, .val (.long vb), .second, .val (.int vc), .val (.int (1 : Int32)), .val (.int (0 : Int32)), .val (.ref b26), .val (.ref b28), .val (.ref b30), .val (.long (0 : Int64)), .second, .unset, .unset] []))
      refine own_Fin.go (fun t k => XS.lconst X31.here hx rfl (hb hby at_58) k) ?_
      show own_Fin _ _ _ _ _ _ _ (T31.setTop (mkF m 59 #[.val (.long va), .second, .val (.long vb), .second, .val (.int vc), .val (.int (1 : Int32)), .val (.int (0 : Int32)), .val (.ref b26), .val (.ref b28), .val (.ref b30), .val (.long (0 : Int64)), .second, .unset, .unset] [(.long (0 : Int64))]))
      refine own_Fin.go (fun t k => XS.lstore X31.here hx rfl (hb hby at_59) rfl (l' := #[.val (.long va), .second, .val (.long vb), .second, .val (.int vc), .val (.int (1 : Int32)), .val (.int (0 : Int32)), .val (.ref b26), .val (.ref b28), .val (.ref b30), .val (.long (0 : Int64)), .second, .val (.long (0 : Int64)), .second]) rfl k) ?_
      show own_Fin _ _ _ _ _ _ _ (T31.setTop (mkF m 61 #[.val (.long va), .second, .val (.long vb), .second, .val (.int vc), .val (.int (1 : Int32)), .val (.int (0 : Int32)), .val (.ref b26), .val (.ref b28), .val (.ref b30), .val (.long (0 : Int64)), .second, .val (.long (0 : Int64)), .second] []))
      refine own_Fin.go (fun t k => XS.iload X31.here hx rfl (hb hby at_61) rfl k) ?_
      show own_Fin _ _ _ _ _ _ _ (T31.setTop (mkF m 63 #[.val (.long va), .second, .val (.long vb), .second, .val (.int vc), .val (.int (1 : Int32)), .val (.int (0 : Int32)), .val (.ref b26), .val (.ref b28), .val (.ref b30), .val (.long (0 : Int64)), .second, .val (.long (0 : Int64)), .second] [(.int (1 : Int32))]))
      refine own_Fin.go (fun t k => XS.ifNo X31.here hx rfl (hb hby at_63) rfl (by decide) k) ?_
      show own_Fin _ _ _ _ _ _ _ (T31.setTop (mkF m 66 #[.val (.long va), .second, .val (.long vb), .second, .val (.int vc), .val (.int (1 : Int32)), .val (.int (0 : Int32)), .val (.ref b26), .val (.ref b28), .val (.ref b30), .val (.long (0 : Int64)), .second, .val (.long (0 : Int64)), .second] []))
      refine own_Fin.go (fun t k => XS.aload X31.here hx rfl (hb hby at_66) rfl rfl k) ?_
      show own_Fin _ _ _ _ _ _ _ (T31.setTop (mkF m 68 #[.val (.long va), .second, .val (.long vb), .second, .val (.int vc), .val (.int (1 : Int32)), .val (.int (0 : Int32)), .val (.ref b26), .val (.ref b28), .val (.ref b30), .val (.long (0 : Int64)), .second, .val (.long (0 : Int64)), .second] [(.ref b26)]))
      refine own_Fin.go (fun t k => XS.lloadN X31.here hx rfl (hb hby at_68) rfl k) ?_
      show own_Fin _ _ _ _ _ _ _ (T31.setTop (mkF m 69 #[.val (.long va), .second, .val (.long vb), .second, .val (.int vc), .val (.int (1 : Int32)), .val (.int (0 : Int32)), .val (.ref b26), .val (.ref b28), .val (.ref b30), .val (.long (0 : Int64)), .second, .val (.long (0 : Int64)), .second] [(.long va), (.ref b26)]))
      obtain ⟨cq32, kq32, q32a, q32b, q32c⟩ := isOf hZ rfl E_b26_31
      obtain ⟨_, _, ⟨T32, L32, k32, n32⟩, -, X32, ⟨Lc32, hQ32, l32, y32, z32⟩, st32⟩ := X31.virtualBack hx (y := (⟨"com/example/canopy/canopy/bench/LatencyHistogram", "record", "(J)V"⟩ : MethodName)) (z := (⟨"com/example/canopy/canopy/bench/LatencyHistogram", "record", "(J)V"⟩ : MethodName)) hown (mvT hZ (hw _ (List.mem_of_getElem? (i := 40) rfl))) (mvT hZ (hw _ (List.mem_of_getElem? (i := 41) rfl))) (notFace_of_selects (args := #[]) (mvT hZ (hw _ (List.mem_of_getElem? (i := 43) rfl)))) (mvT hZ (hw _ (List.mem_of_getElem? (i := 43) rfl))) (mvT hZ (hw _ (List.mem_of_getElem? (i := 42) rfl))) (by decide) (backOf (W := 0) (own_rm_rec l Z a0 hw [] b26 va ob27 kb27 (0 : Int64) (0 : Int64) own_zero T31.heap n0 Z31 E_b26_31 F_b26_counts_31 F_b26_count_31 F_b26_max_31 V_ob27_31 g_b26 g_ob27 c27_7) hZ (hw _ (List.mem_of_getElem? (i := 44) rfl)) (hw _ (List.mem_of_getElem? (i := 2) rfl)) (by decide) (by decide)) q32a q32c (g := (mkF m 69 #[.val (.long va), .second, .val (.long vb), .second, .val (.int vc), .val (.int (1 : Int32)), .val (.int (0 : Int32)), .val (.ref b26), .val (.ref b28), .val (.ref b30), .val (.long (0 : Int64)), .second, .val (.long (0 : Int64)), .second] [(.long va), (.ref b26)])) rfl (by rw [hml]; rfl) (Steps.refl _) (argsL := [(.long va)]) (rest := []) (lenOf own_pd8 rfl) rfl (by show 2 * 0 + _ ≤ _; exact Nat.le_of_eq rfl) (hb hby at_69) (fun _ _ => ⟨rfl, rfl, (by decide : 6 + 0 ≤ _), (by decide : 11337 + 0 ≤ _)⟩)
      dsimp only [Pt.U, Pt.locs, Pt.cells, Pt.slots] at X32 l32 y32 z32 st32 hQ32
      subst l32 y32 z32
      obtain ⟨rfl, N32q, K32q, c32_1, c32_2, c32_3, c32_4, c32_5⟩ := hQ32
      refine own_Fin.go (fun t k => st32.trans k) ?_
      have N32 := Fr.app N31 N32q
      have E_b28_32 := E_b28_31.keep K32q
      have F_b28_counts_32 := F_b28_counts_31.keep K32q (ninS (Ne.symm ne_b26_b28) (ninS (Ne.symm ne_ob27_b28) nin0))
      have F_b28_count_32 := F_b28_count_31.keep K32q (ninS (Ne.symm ne_b26_b28) (ninS (Ne.symm ne_ob27_b28) nin0))
      have F_b28_max_32 := F_b28_max_31.keep K32q (ninS (Ne.symm ne_b26_b28) (ninS (Ne.symm ne_ob27_b28) nin0))
      have V_ob29_32 := V_ob29_31.keep K32q (ninS (Ne.symm ne_b26_ob29) (ninS (Ne.symm ne_ob27_ob29) nin0))
      have E_b30_32 := c31_1.keep K32q
      have F_b30_counts_32 := c31_2.keep K32q (ninS (Ne.symm ne_b26_b30) (ninS (Ne.symm ne_ob27_b30) nin0))
      have F_b30_count_32 := c31_3.keep K32q (ninS (Ne.symm ne_b26_b30) (ninS (Ne.symm ne_ob27_b30) nin0))
      have F_b30_max_32 := c31_4.keep K32q (ninS (Ne.symm ne_b26_b30) (ninS (Ne.symm ne_ob27_b30) nin0))
      have V_ob31_32 := c31_5.keep K32q (ninS (Ne.symm ne_b26_ob31) (ninS (Ne.symm ne_ob27_ob31) nin0))
      have Z32 := Nat.le_trans Z31 K32q.1
      show own_Fin _ _ _ _ _ _ _ (T32.setTop (mkF m 72 #[.val (.long va), .second, .val (.long vb), .second, .val (.int vc), .val (.int (1 : Int32)), .val (.int (0 : Int32)), .val (.ref b26), .val (.ref b28), .val (.ref b30), .val (.long (0 : Int64)), .second, .val (.long (0 : Int64)), .second] []))
      refine own_Fin.go (fun t k => XS.aload X32.here hx rfl (hb hby at_72) rfl rfl k) ?_
      show own_Fin _ _ _ _ _ _ _ (T32.setTop (mkF m 74 #[.val (.long va), .second, .val (.long vb), .second, .val (.int vc), .val (.int (1 : Int32)), .val (.int (0 : Int32)), .val (.ref b26), .val (.ref b28), .val (.ref b30), .val (.long (0 : Int64)), .second, .val (.long (0 : Int64)), .second] [(.ref b30)]))
      refine own_Fin.go (fun t k => XS.lloadN X32.here hx rfl (hb hby at_74) rfl k) ?_
      show own_Fin _ _ _ _ _ _ _ (T32.setTop (mkF m 75 #[.val (.long va), .second, .val (.long vb), .second, .val (.int vc), .val (.int (1 : Int32)), .val (.int (0 : Int32)), .val (.ref b26), .val (.ref b28), .val (.ref b30), .val (.long (0 : Int64)), .second, .val (.long (0 : Int64)), .second] [(.long va), (.ref b30)]))
      obtain ⟨cq33, kq33, q33a, q33b, q33c⟩ := isOf hZ rfl E_b30_32
      obtain ⟨_, _, ⟨T33, L33, k33, n33⟩, -, X33, ⟨Lc33, hQ33, l33, y33, z33⟩, st33⟩ := X32.virtualBack hx (y := (⟨"com/example/canopy/canopy/bench/LatencyHistogram", "record", "(J)V"⟩ : MethodName)) (z := (⟨"com/example/canopy/canopy/bench/LatencyHistogram", "record", "(J)V"⟩ : MethodName)) hown (mvT hZ (hw _ (List.mem_of_getElem? (i := 40) rfl))) (mvT hZ (hw _ (List.mem_of_getElem? (i := 41) rfl))) (notFace_of_selects (args := #[]) (mvT hZ (hw _ (List.mem_of_getElem? (i := 43) rfl)))) (mvT hZ (hw _ (List.mem_of_getElem? (i := 43) rfl))) (mvT hZ (hw _ (List.mem_of_getElem? (i := 42) rfl))) (by decide) (backOf (W := 0) (own_rm_rec l Z a0 hw [] b30 va ob31 kb31 (0 : Int64) (0 : Int64) own_zero T32.heap n0 Z32 E_b30_32 F_b30_counts_32 F_b30_count_32 F_b30_max_32 V_ob31_32 g_b30 g_ob31 c31_7) hZ (hw _ (List.mem_of_getElem? (i := 44) rfl)) (hw _ (List.mem_of_getElem? (i := 2) rfl)) (by decide) (by decide)) q33a q33c (g := (mkF m 75 #[.val (.long va), .second, .val (.long vb), .second, .val (.int vc), .val (.int (1 : Int32)), .val (.int (0 : Int32)), .val (.ref b26), .val (.ref b28), .val (.ref b30), .val (.long (0 : Int64)), .second, .val (.long (0 : Int64)), .second] [(.long va), (.ref b30)])) rfl (by rw [hml]; rfl) (Steps.refl _) (argsL := [(.long va)]) (rest := []) (lenOf own_pd8 rfl) rfl (by show 2 * 0 + _ ≤ _; exact Nat.le_of_eq rfl) (hb hby at_75) (fun _ _ => ⟨rfl, rfl, (by decide : 6 + 0 ≤ _), (by decide : 11337 + 0 ≤ _)⟩)
      dsimp only [Pt.U, Pt.locs, Pt.cells, Pt.slots] at X33 l33 y33 z33 st33 hQ33
      subst l33 y33 z33
      obtain ⟨rfl, N33q, K33q, c33_1, c33_2, c33_3, c33_4, c33_5⟩ := hQ33
      refine own_Fin.go (fun t k => st33.trans k) ?_
      have N33 := Fr.app N32 N33q
      have E_b28_33 := E_b28_32.keep K33q
      have F_b28_counts_33 := F_b28_counts_32.keep K33q (ninS ne_b28_b30 (ninS ne_b28_ob31 nin0))
      have F_b28_count_33 := F_b28_count_32.keep K33q (ninS ne_b28_b30 (ninS ne_b28_ob31 nin0))
      have F_b28_max_33 := F_b28_max_32.keep K33q (ninS ne_b28_b30 (ninS ne_b28_ob31 nin0))
      have V_ob29_33 := V_ob29_32.keep K33q (ninS ne_ob29_b30 (ninS ne_ob29_ob31 nin0))
      have E_b26_33 := c32_1.keep K33q
      have F_b26_counts_33 := c32_2.keep K33q (ninS ne_b26_b30 (ninS ne_b26_ob31 nin0))
      have F_b26_count_33 := c32_3.keep K33q (ninS ne_b26_b30 (ninS ne_b26_ob31 nin0))
      have F_b26_max_33 := c32_4.keep K33q (ninS ne_b26_b30 (ninS ne_b26_ob31 nin0))
      have V_ob27_33 := c32_5.keep K33q (ninS ne_ob27_b30 (ninS ne_ob27_ob31 nin0))
      have Z33 := Nat.le_trans Z32 K33q.1
      show own_Fin _ _ _ _ _ _ _ (T33.setTop (mkF m 78 #[.val (.long va), .second, .val (.long vb), .second, .val (.int vc), .val (.int (1 : Int32)), .val (.int (0 : Int32)), .val (.ref b26), .val (.ref b28), .val (.ref b30), .val (.long (0 : Int64)), .second, .val (.long (0 : Int64)), .second] []))
      refine own_Fin.go (fun t k => XS.lload X33.here hx rfl (hb hby at_78) rfl k) ?_
      show own_Fin _ _ _ _ _ _ _ (T33.setTop (mkF m 80 #[.val (.long va), .second, .val (.long vb), .second, .val (.int vc), .val (.int (1 : Int32)), .val (.int (0 : Int32)), .val (.ref b26), .val (.ref b28), .val (.ref b30), .val (.long (0 : Int64)), .second, .val (.long (0 : Int64)), .second] [(.long (0 : Int64))]))
      refine own_Fin.go (fun t k => XS.lconst X33.here hx rfl (hb hby at_80) k) ?_
      show own_Fin _ _ _ _ _ _ _ (T33.setTop (mkF m 81 #[.val (.long va), .second, .val (.long vb), .second, .val (.int vc), .val (.int (1 : Int32)), .val (.int (0 : Int32)), .val (.ref b26), .val (.ref b28), .val (.ref b30), .val (.long (0 : Int64)), .second, .val (.long (0 : Int64)), .second] [(.long (1 : Int64)), (.long (0 : Int64))]))
      refine own_Fin.go (fun t k => XS.ladd X33.here hx rfl (hb hby at_81) rfl k) ?_
      show own_Fin _ _ _ _ _ _ _ (T33.setTop (mkF m 82 #[.val (.long va), .second, .val (.long vb), .second, .val (.int vc), .val (.int (1 : Int32)), .val (.int (0 : Int32)), .val (.ref b26), .val (.ref b28), .val (.ref b30), .val (.long (0 : Int64)), .second, .val (.long (0 : Int64)), .second] [(.long ((0 : Int64) + (1 : Int64)))]))
      rw [show ((0 : Int64) + (1 : Int64)) = (1 : Int64) from by decide +kernel]
      show own_Fin _ _ _ _ _ _ _ (T33.setTop (mkF m 82 #[.val (.long va), .second, .val (.long vb), .second, .val (.int vc), .val (.int (1 : Int32)), .val (.int (0 : Int32)), .val (.ref b26), .val (.ref b28), .val (.ref b30), .val (.long (0 : Int64)), .second, .val (.long (0 : Int64)), .second] [(.long (1 : Int64))]))
      refine own_Fin.go (fun t k => XS.lstore X33.here hx rfl (hb hby at_82) rfl (l' := #[.val (.long va), .second, .val (.long vb), .second, .val (.int vc), .val (.int (1 : Int32)), .val (.int (0 : Int32)), .val (.ref b26), .val (.ref b28), .val (.ref b30), .val (.long (1 : Int64)), .second, .val (.long (0 : Int64)), .second]) rfl k) ?_
      show own_Fin _ _ _ _ _ _ _ (T33.setTop (mkF m 84 #[.val (.long va), .second, .val (.long vb), .second, .val (.int vc), .val (.int (1 : Int32)), .val (.int (0 : Int32)), .val (.ref b26), .val (.ref b28), .val (.ref b30), .val (.long (1 : Int64)), .second, .val (.long (0 : Int64)), .second] []))
      refine own_Fin.go (fun t k => XS.lload X33.here hx rfl (hb hby at_84) rfl k) ?_
      show own_Fin _ _ _ _ _ _ _ (T33.setTop (mkF m 86 #[.val (.long va), .second, .val (.long vb), .second, .val (.int vc), .val (.int (1 : Int32)), .val (.int (0 : Int32)), .val (.ref b26), .val (.ref b28), .val (.ref b30), .val (.long (1 : Int64)), .second, .val (.long (0 : Int64)), .second] [(.long (0 : Int64))]))
      refine own_Fin.go (fun t k => XS.lloadN X33.here hx rfl (hb hby at_86) rfl k) ?_
      show own_Fin _ _ _ _ _ _ _ (T33.setTop (mkF m 87 #[.val (.long va), .second, .val (.long vb), .second, .val (.int vc), .val (.int (1 : Int32)), .val (.int (0 : Int32)), .val (.ref b26), .val (.ref b28), .val (.ref b30), .val (.long (1 : Int64)), .second, .val (.long (0 : Int64)), .second] [(.long va), (.long (0 : Int64))]))
      obtain ⟨_, _, ⟨T34, L34, k34, n34⟩, -, X34, ⟨Lc34, hQ34, l34, y34, z34⟩, st34⟩ := Jvm.LawKit.callS X33 hx (y := (⟨"java/lang/Math", "max", "(JJ)J"⟩ : MethodName)) hown (mvT hZ (hw _ (List.mem_of_getElem? (i := 49) rfl))) (mvT hZ (hw _ (List.mem_of_getElem? (i := 22) rfl))) (mvT hZ (hw _ (List.mem_of_getElem? (i := 23) rfl))) (mvT hZ (hw _ (List.mem_of_getElem? (i := 24) rfl))) (by decide) (backOf (W := 0) (own_rm_mx l Z a0 hw [] (0 : Int64) va  T33.heap n0 Z33 ) hZ (hw _ (List.mem_of_getElem? (i := 24) rfl)) (hw _ (List.mem_of_getElem? (i := 23) rfl)) (by decide) (by decide)) (g := (mkF m 87 #[.val (.long va), .second, .val (.long vb), .second, .val (.int vc), .val (.int (1 : Int32)), .val (.int (0 : Int32)), .val (.ref b26), .val (.ref b28), .val (.ref b30), .val (.long (1 : Int64)), .second, .val (.long (0 : Int64)), .second] [(.long va), (.long (0 : Int64))])) rfl (by rw [hml]; rfl) (argsL := [(.long (0 : Int64)), (.long va)]) (rest := []) (lenOf own_pd2 rfl) rfl (by show 2 * 0 + _ ≤ _; exact Nat.le_of_eq rfl) (hb hby at_87) (fun _ _ => ⟨rfl, rfl, (by decide : 6 + 0 ≤ _), (by decide : 11337 + 0 ≤ _)⟩)
      dsimp only [Pt.U, Pt.locs, Pt.cells, Pt.slots] at X34 l34 y34 z34 st34 hQ34
      subst l34 y34 z34
      obtain ⟨rfl, N34q, e34⟩ := hQ34
      refine own_Fin.go (fun t k => st34 t k) ?_
      have N34 := Fr.app N33 N34q
      show own_Fin _ _ _ _ _ _ _ (T34.setTop (mkF m 90 #[.val (.long va), .second, .val (.long vb), .second, .val (.int vc), .val (.int (1 : Int32)), .val (.int (0 : Int32)), .val (.ref b26), .val (.ref b28), .val (.ref b30), .val (.long (1 : Int64)), .second, .val (.long (0 : Int64)), .second] [(.long (own_mx (0 : Int64) va))]))
      refine own_Fin.go (fun t k => XS.lstore X34.here hx rfl (hb hby at_90) rfl (l' := #[.val (.long va), .second, .val (.long vb), .second, .val (.int vc), .val (.int (1 : Int32)), .val (.int (0 : Int32)), .val (.ref b26), .val (.ref b28), .val (.ref b30), .val (.long (1 : Int64)), .second, .val (.long (own_mx (0 : Int64) va)), .second]) rfl k) ?_
      show own_Fin _ _ _ _ _ _ _ (T34.setTop (mkF m 92 #[.val (.long va), .second, .val (.long vb), .second, .val (.int vc), .val (.int (1 : Int32)), .val (.int (0 : Int32)), .val (.ref b26), .val (.ref b28), .val (.ref b30), .val (.long (1 : Int64)), .second, .val (.long (own_mx (0 : Int64) va)), .second] []))
      refine own_Fin.go (fun t k => XS.iload X34.here hx rfl (hb hby at_92) rfl k) ?_
      show own_Fin _ _ _ _ _ _ _ (T34.setTop (mkF m 94 #[.val (.long va), .second, .val (.long vb), .second, .val (.int vc), .val (.int (1 : Int32)), .val (.int (0 : Int32)), .val (.ref b26), .val (.ref b28), .val (.ref b30), .val (.long (1 : Int64)), .second, .val (.long (own_mx (0 : Int64) va)), .second] [(.int (0 : Int32))]))
      refine own_Fin.go (fun t k => XS.ifYes X34.here hx rfl (pc0 := 94) (pc' := 123) rfl (hb hby at_94) rfl (by decide) (by decide) (by decide) k) ?_
      show own_Fin _ _ _ _ _ _ _ (T34.setTop (mkF m 123 #[.val (.long va), .second, .val (.long vb), .second, .val (.int vc), .val (.int (1 : Int32)), .val (.int (0 : Int32)), .val (.ref b26), .val (.ref b28), .val (.ref b30), .val (.long (1 : Int64)), .second, .val (.long (own_mx (0 : Int64) va)), .second] []))
      refine own_Fin.go (fun t k => XS.aload X34.here hx rfl (hb hby at_123) rfl rfl k) ?_
      show own_Fin _ _ _ _ _ _ _ (T34.setTop (mkF m 125 #[.val (.long va), .second, .val (.long vb), .second, .val (.int vc), .val (.int (1 : Int32)), .val (.int (0 : Int32)), .val (.ref b26), .val (.ref b28), .val (.ref b30), .val (.long (1 : Int64)), .second, .val (.long (own_mx (0 : Int64) va)), .second] [(.ref b26)]))
      refine own_Fin.go (fun t k => XS.aload X34.here hx rfl (hb hby at_125) rfl rfl k) ?_
      show own_Fin _ _ _ _ _ _ _ (T34.setTop (mkF m 127 #[.val (.long va), .second, .val (.long vb), .second, .val (.int vc), .val (.int (1 : Int32)), .val (.int (0 : Int32)), .val (.ref b26), .val (.ref b28), .val (.ref b30), .val (.long (1 : Int64)), .second, .val (.long (own_mx (0 : Int64) va)), .second] [(.ref b28), (.ref b26)]))
      obtain ⟨cq35, kq35, q35a, q35b, q35c⟩ := isOf hZ e34 E_b26_33
      obtain ⟨_, _, ⟨T35, L35, k35, n35⟩, -, X35, ⟨Lc35, hQ35, l35, y35, z35⟩, st35⟩ := X34.virtualBack hx (y := (⟨"com/example/canopy/canopy/bench/LatencyHistogram", "add", "(Lcom/example/canopy/canopy/bench/LatencyHistogram;)V"⟩ : MethodName)) (z := (⟨"com/example/canopy/canopy/bench/LatencyHistogram", "add", "(Lcom/example/canopy/canopy/bench/LatencyHistogram;)V"⟩ : MethodName)) hown (mvT hZ (hw _ (List.mem_of_getElem? (i := 12) rfl))) (mvT hZ (hw _ (List.mem_of_getElem? (i := 13) rfl))) (notFace_of_selects (args := #[]) (mvT hZ (hw _ (List.mem_of_getElem? (i := 15) rfl)))) (mvT hZ (hw _ (List.mem_of_getElem? (i := 15) rfl))) (mvT hZ (hw _ (List.mem_of_getElem? (i := 14) rfl))) (by decide) (backOf (W := 0) (own_rm_add l Z a0 hw [] b26 b28 ob27 kb27 ((0 : Int64) + (1 : Int64)) (own_mx (0 : Int64) (own_mx (0 : Int64) va)) (own_up own_zero (own_bkt (own_mx (0 : Int64) va)).toNatClampNeg (own_zero (own_bkt (own_mx (0 : Int64) va)).toNatClampNeg + (1 : Int64))) ob29 kb29 (0 : Int64) (0 : Int64) own_zero T33.heap n0 Z33 E_b26_33 F_b26_counts_33 F_b26_count_33 F_b26_max_33 V_ob27_33 g_b26 g_ob27 c27_7 E_b28_33 F_b28_counts_33 F_b28_count_33 F_b28_max_33 V_ob29_33 ne_b26_b28 (Ne.symm ne_ob27_b28) ne_b26_ob29 (Ne.symm ne_ob27_ob29)) hZ (hw _ (List.mem_of_getElem? (i := 16) rfl)) (hw _ (List.mem_of_getElem? (i := 2) rfl)) (by decide) (by decide)) q35a q35c (g := (mkF m 127 #[.val (.long va), .second, .val (.long vb), .second, .val (.int vc), .val (.int (1 : Int32)), .val (.int (0 : Int32)), .val (.ref b26), .val (.ref b28), .val (.ref b30), .val (.long (1 : Int64)), .second, .val (.long (own_mx (0 : Int64) va)), .second] [(.ref b28), (.ref b26)])) rfl (by rw [hml]; rfl) (Steps.refl _) (argsL := [(.ref b28)]) (rest := []) (lenOf own_pd5 rfl) rfl (by show 2 * 0 + _ ≤ _; exact Nat.le_of_eq rfl) (hb hby at_127) (fun _ _ => ⟨rfl, e34, (by decide : 6 + 0 ≤ _), (by decide : 11337 + 0 ≤ _)⟩)
      dsimp only [Pt.U, Pt.locs, Pt.cells, Pt.slots] at X35 l35 y35 z35 st35 hQ35
      subst l35 y35 z35
      obtain ⟨rfl, N35q, K35q, c35_1, c35_2, c35_3, c35_4, c35_5⟩ := hQ35
      refine own_Fin.go (fun t k => st35.trans k) ?_
      have N35 := Fr.app N34 N35q
      have E_b28_35 := E_b28_33.keep K35q
      have F_b28_counts_35 := F_b28_counts_33.keep K35q (ninS (Ne.symm ne_b26_b28) (ninS (Ne.symm ne_ob27_b28) nin0))
      have F_b28_count_35 := F_b28_count_33.keep K35q (ninS (Ne.symm ne_b26_b28) (ninS (Ne.symm ne_ob27_b28) nin0))
      have F_b28_max_35 := F_b28_max_33.keep K35q (ninS (Ne.symm ne_b26_b28) (ninS (Ne.symm ne_ob27_b28) nin0))
      have V_ob29_35 := V_ob29_33.keep K35q (ninS (Ne.symm ne_b26_ob29) (ninS (Ne.symm ne_ob27_ob29) nin0))
      have E_b30_35 := c33_1.keep K35q
      have F_b30_counts_35 := c33_2.keep K35q (ninS (Ne.symm ne_b26_b30) (ninS (Ne.symm ne_ob27_b30) nin0))
      have F_b30_count_35 := c33_3.keep K35q (ninS (Ne.symm ne_b26_b30) (ninS (Ne.symm ne_ob27_b30) nin0))
      have F_b30_max_35 := c33_4.keep K35q (ninS (Ne.symm ne_b26_b30) (ninS (Ne.symm ne_ob27_b30) nin0))
      have V_ob31_35 := c33_5.keep K35q (ninS (Ne.symm ne_b26_ob31) (ninS (Ne.symm ne_ob27_ob31) nin0))
      have Z35 := Nat.le_trans Z33 K35q.1
      show own_Fin _ _ _ _ _ _ _ (T35.setTop (mkF m 130 #[.val (.long va), .second, .val (.long vb), .second, .val (.int vc), .val (.int (1 : Int32)), .val (.int (0 : Int32)), .val (.ref b26), .val (.ref b28), .val (.ref b30), .val (.long (1 : Int64)), .second, .val (.long (own_mx (0 : Int64) va)), .second] []))
      refine own_Fin.go (fun t k => XS.aload X35.here hx rfl (hb hby at_130) rfl rfl k) ?_
      show own_Fin _ _ _ _ _ _ _ (T35.setTop (mkF m 132 #[.val (.long va), .second, .val (.long vb), .second, .val (.int vc), .val (.int (1 : Int32)), .val (.int (0 : Int32)), .val (.ref b26), .val (.ref b28), .val (.ref b30), .val (.long (1 : Int64)), .second, .val (.long (own_mx (0 : Int64) va)), .second] [(.ref b26)]))
      obtain ⟨cq36, kq36, q36a, q36b, q36c⟩ := isOf hZ rfl c35_1
      obtain ⟨_, _, ⟨T36, L36, k36, n36⟩, -, X36, ⟨Lc36, hQ36, l36, y36, z36⟩, st36⟩ := X35.virtualBack hx (y := (⟨"com/example/canopy/canopy/bench/LatencyHistogram", "count", "()J"⟩ : MethodName)) (z := (⟨"com/example/canopy/canopy/bench/LatencyHistogram", "count", "()J"⟩ : MethodName)) hown (mvT hZ (hw _ (List.mem_of_getElem? (i := 25) rfl))) (mvT hZ (hw _ (List.mem_of_getElem? (i := 26) rfl))) (notFace_of_selects (args := #[]) (mvT hZ (hw _ (List.mem_of_getElem? (i := 28) rfl)))) (mvT hZ (hw _ (List.mem_of_getElem? (i := 28) rfl))) (mvT hZ (hw _ (List.mem_of_getElem? (i := 27) rfl))) (by decide) (backOf (W := 0) (own_rm_cnt l Z a0 hw [] b26 (((0 : Int64) + (1 : Int64)) + (0 : Int64)) T35.heap n0 Z35 c35_1 c35_3) hZ (hw _ (List.mem_of_getElem? (i := 29) rfl)) (hw _ (List.mem_of_getElem? (i := 2) rfl)) (by decide) (by decide)) q36a q36c (g := (mkF m 132 #[.val (.long va), .second, .val (.long vb), .second, .val (.int vc), .val (.int (1 : Int32)), .val (.int (0 : Int32)), .val (.ref b26), .val (.ref b28), .val (.ref b30), .val (.long (1 : Int64)), .second, .val (.long (own_mx (0 : Int64) va)), .second] [(.ref b26)])) rfl (by rw [hml]; rfl) (Steps.refl _) (argsL := []) (rest := []) (lenOf own_pd6 rfl) rfl (by show 2 * 0 + _ ≤ _; exact Nat.le_of_eq rfl) (hb hby at_132) (fun _ _ => ⟨rfl, rfl, (by decide : 6 + 0 ≤ _), (by decide : 11337 + 0 ≤ _)⟩)
      dsimp only [Pt.U, Pt.locs, Pt.cells, Pt.slots] at X36 l36 y36 z36 st36 hQ36
      subst l36 y36 z36
      obtain ⟨rfl, N36q, e36⟩ := hQ36
      refine own_Fin.go (fun t k => st36.trans k) ?_
      have N36 := Fr.app N35 N36q
      show own_Fin _ _ _ _ _ _ _ (T36.setTop (mkF m 135 #[.val (.long va), .second, .val (.long vb), .second, .val (.int vc), .val (.int (1 : Int32)), .val (.int (0 : Int32)), .val (.ref b26), .val (.ref b28), .val (.ref b30), .val (.long (1 : Int64)), .second, .val (.long (own_mx (0 : Int64) va)), .second] [(.long (((0 : Int64) + (1 : Int64)) + (0 : Int64)))]))
      refine own_Fin.go (fun t k => XS.lload X36.here hx rfl (hb hby at_135) rfl k) ?_
      show own_Fin _ _ _ _ _ _ _ (T36.setTop (mkF m 137 #[.val (.long va), .second, .val (.long vb), .second, .val (.int vc), .val (.int (1 : Int32)), .val (.int (0 : Int32)), .val (.ref b26), .val (.ref b28), .val (.ref b30), .val (.long (1 : Int64)), .second, .val (.long (own_mx (0 : Int64) va)), .second] [(.long (1 : Int64)), (.long (((0 : Int64) + (1 : Int64)) + (0 : Int64)))]))
      refine own_Fin.go (fun t k => XS.lcmp X36.here hx rfl (hb hby at_137) rfl k) ?_
      show own_Fin _ _ _ _ _ _ _ (T36.setTop (mkF m 138 #[.val (.long va), .second, .val (.long vb), .second, .val (.int vc), .val (.int (1 : Int32)), .val (.int (0 : Int32)), .val (.ref b26), .val (.ref b28), .val (.ref b30), .val (.long (1 : Int64)), .second, .val (.long (own_mx (0 : Int64) va)), .second] [(.int (lcmpW (((0 : Int64) + (1 : Int64)) + (0 : Int64)) (1 : Int64)))]))
      have hc138 : (((0 : Int64) + (1 : Int64)) + (0 : Int64)) = (1 : Int64) := (by decide)
      refine own_Fin.go (fun t k => XS.ifNo X36.here hx rfl (hb hby at_138) rfl (Jvm.Free.XT.ll_ne_f hc138) k) ?_
      show own_Fin _ _ _ _ _ _ _ (T36.setTop (mkF m 141 #[.val (.long va), .second, .val (.long vb), .second, .val (.int vc), .val (.int (1 : Int32)), .val (.int (0 : Int32)), .val (.ref b26), .val (.ref b28), .val (.ref b30), .val (.long (1 : Int64)), .second, .val (.long (own_mx (0 : Int64) va)), .second] []))
      refine own_Fin.go (fun t k => XS.aload X36.here hx rfl (hb hby at_141) rfl rfl k) ?_
      show own_Fin _ _ _ _ _ _ _ (T36.setTop (mkF m 143 #[.val (.long va), .second, .val (.long vb), .second, .val (.int vc), .val (.int (1 : Int32)), .val (.int (0 : Int32)), .val (.ref b26), .val (.ref b28), .val (.ref b30), .val (.long (1 : Int64)), .second, .val (.long (own_mx (0 : Int64) va)), .second] [(.ref b26)]))
      obtain ⟨cq37, kq37, q37a, q37b, q37c⟩ := isOf hZ e36 c35_1
      obtain ⟨_, _, ⟨T37, L37, k37, n37⟩, -, X37, ⟨Lc37, hQ37, l37, y37, z37⟩, st37⟩ := X36.virtualBack hx (y := (⟨"com/example/canopy/canopy/bench/LatencyHistogram", "max", "()J"⟩ : MethodName)) (z := (⟨"com/example/canopy/canopy/bench/LatencyHistogram", "max", "()J"⟩ : MethodName)) hown (mvT hZ (hw _ (List.mem_of_getElem? (i := 30) rfl))) (mvT hZ (hw _ (List.mem_of_getElem? (i := 31) rfl))) (notFace_of_selects (args := #[]) (mvT hZ (hw _ (List.mem_of_getElem? (i := 33) rfl)))) (mvT hZ (hw _ (List.mem_of_getElem? (i := 33) rfl))) (mvT hZ (hw _ (List.mem_of_getElem? (i := 32) rfl))) (by decide) (backOf (W := 0) (own_rm_max l Z a0 hw [] b26 (own_mx (own_mx (0 : Int64) (own_mx (0 : Int64) va)) (0 : Int64)) T35.heap n0 Z35 c35_1 c35_4) hZ (hw _ (List.mem_of_getElem? (i := 34) rfl)) (hw _ (List.mem_of_getElem? (i := 2) rfl)) (by decide) (by decide)) q37a q37c (g := (mkF m 143 #[.val (.long va), .second, .val (.long vb), .second, .val (.int vc), .val (.int (1 : Int32)), .val (.int (0 : Int32)), .val (.ref b26), .val (.ref b28), .val (.ref b30), .val (.long (1 : Int64)), .second, .val (.long (own_mx (0 : Int64) va)), .second] [(.ref b26)])) rfl (by rw [hml]; rfl) (Steps.refl _) (argsL := []) (rest := []) (lenOf own_pd6 rfl) rfl (by show 2 * 0 + _ ≤ _; exact Nat.le_of_eq rfl) (hb hby at_143) (fun _ _ => ⟨rfl, e36, (by decide : 6 + 0 ≤ _), (by decide : 11337 + 0 ≤ _)⟩)
      dsimp only [Pt.U, Pt.locs, Pt.cells, Pt.slots] at X37 l37 y37 z37 st37 hQ37
      subst l37 y37 z37
      obtain ⟨rfl, N37q, e37⟩ := hQ37
      refine own_Fin.go (fun t k => st37.trans k) ?_
      have N37 := Fr.app N36 N37q
      show own_Fin _ _ _ _ _ _ _ (T37.setTop (mkF m 146 #[.val (.long va), .second, .val (.long vb), .second, .val (.int vc), .val (.int (1 : Int32)), .val (.int (0 : Int32)), .val (.ref b26), .val (.ref b28), .val (.ref b30), .val (.long (1 : Int64)), .second, .val (.long (own_mx (0 : Int64) va)), .second] [(.long (own_mx (own_mx (0 : Int64) (own_mx (0 : Int64) va)) (0 : Int64)))]))
      refine own_Fin.go (fun t k => XS.lload X37.here hx rfl (hb hby at_146) rfl k) ?_
      show own_Fin _ _ _ _ _ _ _ (T37.setTop (mkF m 148 #[.val (.long va), .second, .val (.long vb), .second, .val (.int vc), .val (.int (1 : Int32)), .val (.int (0 : Int32)), .val (.ref b26), .val (.ref b28), .val (.ref b30), .val (.long (1 : Int64)), .second, .val (.long (own_mx (0 : Int64) va)), .second] [(.long (own_mx (0 : Int64) va)), (.long (own_mx (own_mx (0 : Int64) (own_mx (0 : Int64) va)) (0 : Int64)))]))
      refine own_Fin.go (fun t k => XS.lcmp X37.here hx rfl (hb hby at_148) rfl k) ?_
      show own_Fin _ _ _ _ _ _ _ (T37.setTop (mkF m 149 #[.val (.long va), .second, .val (.long vb), .second, .val (.int vc), .val (.int (1 : Int32)), .val (.int (0 : Int32)), .val (.ref b26), .val (.ref b28), .val (.ref b30), .val (.long (1 : Int64)), .second, .val (.long (own_mx (0 : Int64) va)), .second] [(.int (lcmpW (own_mx (own_mx (0 : Int64) (own_mx (0 : Int64) va)) (0 : Int64)) (own_mx (0 : Int64) va)))]))
      have hc149 : (own_mx (own_mx (0 : Int64) (own_mx (0 : Int64) va)) (0 : Int64)) = (own_mx (0 : Int64) va) := own_m1 va
      refine own_Fin.go (fun t k => XS.ifNo X37.here hx rfl (hb hby at_149) rfl (Jvm.Free.XT.ll_ne_f hc149) k) ?_
      show own_Fin _ _ _ _ _ _ _ (T37.setTop (mkF m 152 #[.val (.long va), .second, .val (.long vb), .second, .val (.int vc), .val (.int (1 : Int32)), .val (.int (0 : Int32)), .val (.ref b26), .val (.ref b28), .val (.ref b30), .val (.long (1 : Int64)), .second, .val (.long (own_mx (0 : Int64) va)), .second] []))
      refine own_Fin.go (fun t k => XS.aload X37.here hx rfl (hb hby at_152) rfl rfl k) ?_
      show own_Fin _ _ _ _ _ _ _ (T37.setTop (mkF m 154 #[.val (.long va), .second, .val (.long vb), .second, .val (.int vc), .val (.int (1 : Int32)), .val (.int (0 : Int32)), .val (.ref b26), .val (.ref b28), .val (.ref b30), .val (.long (1 : Int64)), .second, .val (.long (own_mx (0 : Int64) va)), .second] [(.ref b26)]))
      refine own_Fin.go (fun t k => XS.dconst0 X37.here hx rfl (hb hby at_154) rfl k) ?_
      show own_Fin _ _ _ _ _ _ _ (T37.setTop (mkF m 155 #[.val (.long va), .second, .val (.long vb), .second, .val (.int vc), .val (.int (1 : Int32)), .val (.int (0 : Int32)), .val (.ref b26), .val (.ref b28), .val (.ref b30), .val (.long (1 : Int64)), .second, .val (.long (own_mx (0 : Int64) va)), .second] [(.double Jvm.FP.dconst0), (.ref b26)]))
      obtain ⟨cq38, kq38, q38a, q38b, q38c⟩ := isOf hZ e37 c35_1
      obtain ⟨_, _, ⟨T38, L38, k38, n38⟩, -, X38, ⟨Lc38, hQ38, l38, y38, z38⟩, st38⟩ := X37.virtualBack hx (y := (⟨"com/example/canopy/canopy/bench/LatencyHistogram", "percentile", "(D)J"⟩ : MethodName)) (z := (⟨"com/example/canopy/canopy/bench/LatencyHistogram", "percentile", "(D)J"⟩ : MethodName)) hown (mvT hZ (hw _ (List.mem_of_getElem? (i := 35) rfl))) (mvT hZ (hw _ (List.mem_of_getElem? (i := 36) rfl))) (notFace_of_selects (args := #[]) (mvT hZ (hw _ (List.mem_of_getElem? (i := 38) rfl)))) (mvT hZ (hw _ (List.mem_of_getElem? (i := 38) rfl))) (mvT hZ (hw _ (List.mem_of_getElem? (i := 37) rfl))) (by decide) (backOf (W := 0) (own_rm_pct l Z a0 hw [] b26 ob27 kb27 (((0 : Int64) + (1 : Int64)) + (0 : Int64)) (own_mx (own_mx (0 : Int64) (own_mx (0 : Int64) va)) (0 : Int64)) (own_mix (own_up own_zero (own_bkt (own_mx (0 : Int64) va)).toNatClampNeg (own_zero (own_bkt (own_mx (0 : Int64) va)).toNatClampNeg + (1 : Int64))) own_zero 3776) T35.heap n0 Z35 c35_1 c35_2 c35_3 c35_4 c35_5 (by decide)) hZ (hw _ (List.mem_of_getElem? (i := 39) rfl)) (hw _ (List.mem_of_getElem? (i := 2) rfl)) (by decide) (by decide)) q38a q38c (g := (mkF m 155 #[.val (.long va), .second, .val (.long vb), .second, .val (.int vc), .val (.int (1 : Int32)), .val (.int (0 : Int32)), .val (.ref b26), .val (.ref b28), .val (.ref b30), .val (.long (1 : Int64)), .second, .val (.long (own_mx (0 : Int64) va)), .second] [(.double Jvm.FP.dconst0), (.ref b26)])) rfl (by rw [hml]; rfl) (Steps.refl _) (argsL := [(.double Jvm.FP.dconst0)]) (rest := []) (lenOf own_pd7 rfl) rfl (by show 2 * 0 + _ ≤ _; exact Nat.le_of_eq rfl) (hb hby at_155) (fun _ _ => ⟨rfl, e37, (by decide : 6 + 0 ≤ _), (by decide : 11337 + 0 ≤ _)⟩)
      dsimp only [Pt.U, Pt.locs, Pt.cells, Pt.slots] at X38 l38 y38 z38 st38 hQ38
      subst l38 y38 z38
      obtain ⟨rfl, N38q, e38⟩ := hQ38
      refine own_Fin.go (fun t k => st38.trans k) ?_
      have N38 := Fr.app N37 N38q
      show own_Fin _ _ _ _ _ _ _ (T38.setTop (mkF m 158 #[.val (.long va), .second, .val (.long vb), .second, .val (.int vc), .val (.int (1 : Int32)), .val (.int (0 : Int32)), .val (.ref b26), .val (.ref b28), .val (.ref b30), .val (.long (1 : Int64)), .second, .val (.long (own_mx (0 : Int64) va)), .second] [(.long (own_pct (own_mix (own_up own_zero (own_bkt (own_mx (0 : Int64) va)).toNatClampNeg (own_zero (own_bkt (own_mx (0 : Int64) va)).toNatClampNeg + (1 : Int64))) own_zero 3776) (((0 : Int64) + (1 : Int64)) + (0 : Int64)) (own_mx (own_mx (0 : Int64) (own_mx (0 : Int64) va)) (0 : Int64))))]))
      refine own_Fin.go (fun t k => XS.aload X38.here hx rfl (hb hby at_158) rfl rfl k) ?_
      show own_Fin _ _ _ _ _ _ _ (T38.setTop (mkF m 160 #[.val (.long va), .second, .val (.long vb), .second, .val (.int vc), .val (.int (1 : Int32)), .val (.int (0 : Int32)), .val (.ref b26), .val (.ref b28), .val (.ref b30), .val (.long (1 : Int64)), .second, .val (.long (own_mx (0 : Int64) va)), .second] [(.ref b30), (.long (own_pct (own_mix (own_up own_zero (own_bkt (own_mx (0 : Int64) va)).toNatClampNeg (own_zero (own_bkt (own_mx (0 : Int64) va)).toNatClampNeg + (1 : Int64))) own_zero 3776) (((0 : Int64) + (1 : Int64)) + (0 : Int64)) (own_mx (own_mx (0 : Int64) (own_mx (0 : Int64) va)) (0 : Int64))))]))
      refine own_Fin.go (fun t k => XS.dconst0 X38.here hx rfl (hb hby at_160) rfl k) ?_
      show own_Fin _ _ _ _ _ _ _ (T38.setTop (mkF m 161 #[.val (.long va), .second, .val (.long vb), .second, .val (.int vc), .val (.int (1 : Int32)), .val (.int (0 : Int32)), .val (.ref b26), .val (.ref b28), .val (.ref b30), .val (.long (1 : Int64)), .second, .val (.long (own_mx (0 : Int64) va)), .second] [(.double Jvm.FP.dconst0), (.ref b30), (.long (own_pct (own_mix (own_up own_zero (own_bkt (own_mx (0 : Int64) va)).toNatClampNeg (own_zero (own_bkt (own_mx (0 : Int64) va)).toNatClampNeg + (1 : Int64))) own_zero 3776) (((0 : Int64) + (1 : Int64)) + (0 : Int64)) (own_mx (own_mx (0 : Int64) (own_mx (0 : Int64) va)) (0 : Int64))))]))
      obtain ⟨cq39, kq39, q39a, q39b, q39c⟩ := isOf hZ e38 E_b30_35
      obtain ⟨_, _, ⟨T39, L39, k39, n39⟩, -, X39, ⟨Lc39, hQ39, l39, y39, z39⟩, st39⟩ := X38.virtualBack hx (y := (⟨"com/example/canopy/canopy/bench/LatencyHistogram", "percentile", "(D)J"⟩ : MethodName)) (z := (⟨"com/example/canopy/canopy/bench/LatencyHistogram", "percentile", "(D)J"⟩ : MethodName)) hown (mvT hZ (hw _ (List.mem_of_getElem? (i := 35) rfl))) (mvT hZ (hw _ (List.mem_of_getElem? (i := 36) rfl))) (notFace_of_selects (args := #[]) (mvT hZ (hw _ (List.mem_of_getElem? (i := 38) rfl)))) (mvT hZ (hw _ (List.mem_of_getElem? (i := 38) rfl))) (mvT hZ (hw _ (List.mem_of_getElem? (i := 37) rfl))) (by decide) (backOf (W := 2) (own_rm_pct l Z a0 hw [] b30 ob31 kb31 ((0 : Int64) + (1 : Int64)) (own_mx (0 : Int64) (own_mx (0 : Int64) va)) (own_up own_zero (own_bkt (own_mx (0 : Int64) va)).toNatClampNeg (own_zero (own_bkt (own_mx (0 : Int64) va)).toNatClampNeg + (1 : Int64))) T35.heap n0 Z35 E_b30_35 F_b30_counts_35 F_b30_count_35 F_b30_max_35 V_ob31_35 (by decide)) hZ (hw _ (List.mem_of_getElem? (i := 39) rfl)) (hw _ (List.mem_of_getElem? (i := 2) rfl)) (by decide) (by decide)) q39a q39c (g := (mkF m 161 #[.val (.long va), .second, .val (.long vb), .second, .val (.int vc), .val (.int (1 : Int32)), .val (.int (0 : Int32)), .val (.ref b26), .val (.ref b28), .val (.ref b30), .val (.long (1 : Int64)), .second, .val (.long (own_mx (0 : Int64) va)), .second] [(.double Jvm.FP.dconst0), (.ref b30), (.long (own_pct (own_mix (own_up own_zero (own_bkt (own_mx (0 : Int64) va)).toNatClampNeg (own_zero (own_bkt (own_mx (0 : Int64) va)).toNatClampNeg + (1 : Int64))) own_zero 3776) (((0 : Int64) + (1 : Int64)) + (0 : Int64)) (own_mx (own_mx (0 : Int64) (own_mx (0 : Int64) va)) (0 : Int64))))])) rfl (by rw [hml]; rfl) (Steps.refl _) (argsL := [(.double Jvm.FP.dconst0)]) (rest := [(.long (own_pct (own_mix (own_up own_zero (own_bkt (own_mx (0 : Int64) va)).toNatClampNeg (own_zero (own_bkt (own_mx (0 : Int64) va)).toNatClampNeg + (1 : Int64))) own_zero 3776) (((0 : Int64) + (1 : Int64)) + (0 : Int64)) (own_mx (own_mx (0 : Int64) (own_mx (0 : Int64) va)) (0 : Int64))))]) (lenOf own_pd7 rfl) rfl (by show 2 * 0 + _ ≤ _; exact Nat.le_of_eq rfl) (hb hby at_161) (fun _ _ => ⟨rfl, e38, (by decide : 6 + 0 ≤ _), (by decide : 11337 + 0 ≤ _)⟩)
      dsimp only [Pt.U, Pt.locs, Pt.cells, Pt.slots] at X39 l39 y39 z39 st39 hQ39
      subst l39 y39 z39
      obtain ⟨rfl, N39q, e39⟩ := hQ39
      refine own_Fin.go (fun t k => st39.trans k) ?_
      have N39 := Fr.app N38 N39q
      show own_Fin _ _ _ _ _ _ _ (T39.setTop (mkF m 164 #[.val (.long va), .second, .val (.long vb), .second, .val (.int vc), .val (.int (1 : Int32)), .val (.int (0 : Int32)), .val (.ref b26), .val (.ref b28), .val (.ref b30), .val (.long (1 : Int64)), .second, .val (.long (own_mx (0 : Int64) va)), .second] [(.long (own_pct (own_up own_zero (own_bkt (own_mx (0 : Int64) va)).toNatClampNeg (own_zero (own_bkt (own_mx (0 : Int64) va)).toNatClampNeg + (1 : Int64))) ((0 : Int64) + (1 : Int64)) (own_mx (0 : Int64) (own_mx (0 : Int64) va)))), (.long (own_pct (own_mix (own_up own_zero (own_bkt (own_mx (0 : Int64) va)).toNatClampNeg (own_zero (own_bkt (own_mx (0 : Int64) va)).toNatClampNeg + (1 : Int64))) own_zero 3776) (((0 : Int64) + (1 : Int64)) + (0 : Int64)) (own_mx (own_mx (0 : Int64) (own_mx (0 : Int64) va)) (0 : Int64))))]))
      refine own_Fin.go (fun t k => XS.lcmp X39.here hx rfl (hb hby at_164) rfl k) ?_
      show own_Fin _ _ _ _ _ _ _ (T39.setTop (mkF m 165 #[.val (.long va), .second, .val (.long vb), .second, .val (.int vc), .val (.int (1 : Int32)), .val (.int (0 : Int32)), .val (.ref b26), .val (.ref b28), .val (.ref b30), .val (.long (1 : Int64)), .second, .val (.long (own_mx (0 : Int64) va)), .second] [(.int (lcmpW (own_pct (own_mix (own_up own_zero (own_bkt (own_mx (0 : Int64) va)).toNatClampNeg (own_zero (own_bkt (own_mx (0 : Int64) va)).toNatClampNeg + (1 : Int64))) own_zero 3776) (((0 : Int64) + (1 : Int64)) + (0 : Int64)) (own_mx (own_mx (0 : Int64) (own_mx (0 : Int64) va)) (0 : Int64))) (own_pct (own_up own_zero (own_bkt (own_mx (0 : Int64) va)).toNatClampNeg (own_zero (own_bkt (own_mx (0 : Int64) va)).toNatClampNeg + (1 : Int64))) ((0 : Int64) + (1 : Int64)) (own_mx (0 : Int64) (own_mx (0 : Int64) va)))))]))
      have hc165 : (own_pct (own_mix (own_up own_zero (own_bkt (own_mx (0 : Int64) va)).toNatClampNeg (own_zero (own_bkt (own_mx (0 : Int64) va)).toNatClampNeg + (1 : Int64))) own_zero 3776) (((0 : Int64) + (1 : Int64)) + (0 : Int64)) (own_mx (own_mx (0 : Int64) (own_mx (0 : Int64) va)) (0 : Int64))) = (own_pct (own_up own_zero (own_bkt (own_mx (0 : Int64) va)).toNatClampNeg (own_zero (own_bkt (own_mx (0 : Int64) va)).toNatClampNeg + (1 : Int64))) ((0 : Int64) + (1 : Int64)) (own_mx (0 : Int64) (own_mx (0 : Int64) va))) := own_pe (own_c1 _) (by decide) (own_m6 va)
      refine own_Fin.go (fun t k => XS.ifNo X39.here hx rfl (hb hby at_165) rfl (Jvm.Free.XT.ll_ne_f hc165) k) ?_
      show own_Fin _ _ _ _ _ _ _ (T39.setTop (mkF m 168 #[.val (.long va), .second, .val (.long vb), .second, .val (.int vc), .val (.int (1 : Int32)), .val (.int (0 : Int32)), .val (.ref b26), .val (.ref b28), .val (.ref b30), .val (.long (1 : Int64)), .second, .val (.long (own_mx (0 : Int64) va)), .second] []))
      refine own_Fin.go (fun t k => XS.iconst X39.here hx rfl (hb hby at_168) k) ?_
      show own_Fin _ _ _ _ _ _ _ (T39.setTop (mkF m 169 #[.val (.long va), .second, .val (.long vb), .second, .val (.int vc), .val (.int (1 : Int32)), .val (.int (0 : Int32)), .val (.ref b26), .val (.ref b28), .val (.ref b30), .val (.long (1 : Int64)), .second, .val (.long (own_mx (0 : Int64) va)), .second] [(.int (1 : Int32))]))
      refine own_Fin.go (fun t k => XS.goto X39.here hx rfl (pc0 := 169) (pc' := 173) rfl (hb hby at_169) (by decide) (by decide) k) ?_
      show own_Fin _ _ _ _ _ _ _ (T39.setTop (mkF m 173 #[.val (.long va), .second, .val (.long vb), .second, .val (.int vc), .val (.int (1 : Int32)), .val (.int (0 : Int32)), .val (.ref b26), .val (.ref b28), .val (.ref b30), .val (.long (1 : Int64)), .second, .val (.long (own_mx (0 : Int64) va)), .second] [(.int (1 : Int32))]))
      refine own_retN X39 hx (t := .boolean) (w := (1 : Int32)) Bd.returns (by simp) (hb hby at_173) Bd.notSynchronized rfl (by decide) (by decide) ?_
      rw [e39]
      exact ⟨rfl, N39⟩
    · refine own_Fin.go (fun t k => XS.ifNo X0.here hx rfl (hb hby at_18) rfl (Jvm.Free.XT.i0_eq_f hc18) k) ?_
      show own_Fin _ _ _ _ _ _ _ (s₁.setTop (mkF m 21 #[.val (.long va), .second, .val (.long vb), .second, .val (.int vc), .val (.int (1 : Int32)), .unset, .unset, .unset, .unset, .unset, .unset, .unset, .unset] []))
      refine own_Fin.go (fun t k => XS.iconst X0.here hx rfl (hb hby at_21) k) ?_
      show own_Fin _ _ _ _ _ _ _ (s₁.setTop (mkF m 22 #[.val (.long va), .second, .val (.long vb), .second, .val (.int vc), .val (.int (1 : Int32)), .unset, .unset, .unset, .unset, .unset, .unset, .unset, .unset] [(.int (1 : Int32))]))
      refine own_Fin.go (fun t k => XS.goto X0.here hx rfl (pc0 := 22) (pc' := 26) rfl (hb hby at_22) (by decide) (by decide) k) ?_
      show own_Fin _ _ _ _ _ _ _ (s₁.setTop (mkF m 26 #[.val (.long va), .second, .val (.long vb), .second, .val (.int vc), .val (.int (1 : Int32)), .unset, .unset, .unset, .unset, .unset, .unset, .unset, .unset] [(.int (1 : Int32))]))
      refine own_Fin.go (fun t k => XS.istore X0.here hx rfl (hb hby at_26) rfl (l' := #[.val (.long va), .second, .val (.long vb), .second, .val (.int vc), .val (.int (1 : Int32)), .val (.int (1 : Int32)), .unset, .unset, .unset, .unset, .unset, .unset, .unset]) rfl k) ?_
      show own_Fin _ _ _ _ _ _ _ (s₁.setTop (mkF m 28 #[.val (.long va), .second, .val (.long vb), .second, .val (.int vc), .val (.int (1 : Int32)), .val (.int (1 : Int32)), .unset, .unset, .unset, .unset, .unset, .unset, .unset] []))
      obtain ⟨T40, h40, X40, e40, E40, A40, D40, -, st40⟩ := newO X0 hx hZ hown (hw _ (List.mem_of_getElem? (i := 0) rfl)) (hw _ (List.mem_of_getElem? (i := 1) rfl)) (hw _ (List.mem_of_getElem? (i := 2) rfl)) e0 (g := (mkF m 28 #[.val (.long va), .second, .val (.long vb), .second, .val (.int vc), .val (.int (1 : Int32)), .val (.int (1 : Int32)), .unset, .unset, .unset, .unset, .unset, .unset, .unset] [])) rfl (hb hby at_28) (by decide) (by decide)
      obtain ⟨b40, g40⟩ : ∃ z, z = h0.size := ⟨_, rfl⟩
      rw [← g40] at A40 D40 st40
      refine own_Fin.go st40 ?_
      have g_b40 : n0 ≤ b40 := Nat.le_trans Z0 (Nat.le_of_eq g40.symm)
      have Z40 := Nat.le_trans Z0 E40.1
      have F_b40_counts : Fld Z h40 b40 "com/example/canopy/canopy/bench/LatencyHistogram" "counts" "[J" .null := D40 (Or.inr (hw _ (List.mem_of_getElem? (i := 11) rfl))) (ty := (.array .long)) (by decide)
      have F_b40_count : Fld Z h40 b40 "com/example/canopy/canopy/bench/LatencyHistogram" "count" "J" (.long (0 : Int64)) := D40 (Or.inl (hw _ (List.mem_of_getElem? (i := 18) rfl))) (ty := .long) (by decide)
      have F_b40_max : Fld Z h40 b40 "com/example/canopy/canopy/bench/LatencyHistogram" "max" "J" (.long (0 : Int64)) := D40 (Or.inl (hw _ (List.mem_of_getElem? (i := 20) rfl))) (ty := .long) (by decide)
      show own_Fin _ _ _ _ _ _ _ (T40.setTop (mkF m 31 #[.val (.long va), .second, .val (.long vb), .second, .val (.int vc), .val (.int (1 : Int32)), .val (.int (1 : Int32)), .unset, .unset, .unset, .unset, .unset, .unset, .unset] [(.ref b40)]))
      refine own_Fin.go (fun t k => XS.dup X40.here hx rfl (hb hby at_31) rfl rfl k) ?_
      show own_Fin _ _ _ _ _ _ _ (T40.setTop (mkF m 32 #[.val (.long va), .second, .val (.long vb), .second, .val (.int vc), .val (.int (1 : Int32)), .val (.int (1 : Int32)), .unset, .unset, .unset, .unset, .unset, .unset, .unset] [(.ref b40), (.ref b40)]))
      obtain ⟨_, _, ⟨T41, L41, k41, n41⟩, -, X41, ⟨Lc41, hQ41, l41, y41, z41⟩, st41⟩ := X40.specialBack hx (y := (⟨"com/example/canopy/canopy/bench/LatencyHistogram", "<init>", "()V"⟩ : MethodName)) rfl hown (mvT hZ (hw _ (List.mem_of_getElem? (i := 3) rfl))) (mvT hZ (hw _ (List.mem_of_getElem? (i := 4) rfl))) (mvT hZ (hw _ (List.mem_of_getElem? (i := 5) rfl))) (by decide) (backOf (W := 1) (own_rm_ini l Z a0 hw [] b40  h40 n0 Z40 A40 F_b40_counts F_b40_count F_b40_max g_b40) hZ (hw _ (List.mem_of_getElem? (i := 5) rfl)) (hw _ (List.mem_of_getElem? (i := 2) rfl)) (by decide) (by decide)) (g := (mkF m 32 #[.val (.long va), .second, .val (.long vb), .second, .val (.int vc), .val (.int (1 : Int32)), .val (.int (1 : Int32)), .unset, .unset, .unset, .unset, .unset, .unset, .unset] [(.ref b40), (.ref b40)])) rfl (by rw [hml]; rfl) (Steps.refl _) (a := b40) (argsL := []) (rest := [(.ref b40)]) (lenOf own_pd4 rfl) rfl (by show 2 * 0 + _ ≤ _; exact Nat.le_of_eq rfl) (hb hby at_32) (fun _ _ => ⟨rfl, e40, (by decide : 1 + 1 ≤ _), (by decide : 3 + 3776 ≤ _)⟩)
      dsimp only [Pt.U, Pt.locs, Pt.cells, Pt.slots] at X41 l41 y41 z41 st41 hQ41
      subst l41 y41 z41
      obtain ⟨ob41, kb41, rfl, N41q, K41q, c41_1, c41_2, c41_3, c41_4, c41_5, c41_6, c41_7⟩ := hQ41
      refine own_Fin.go (fun t k => st41.trans k) ?_
      have N41 := Fr.app N0 N41q
      have Z41 := Nat.le_trans Z40 K41q.1
      have ne_b40_ob41 : b40 ≠ ob41 := Nat.ne_of_lt (Nat.lt_of_lt_of_le F_b40_max.lt c41_6)
      have g_ob41 : n0 ≤ ob41 := Nat.le_trans Z40 c41_6
      show own_Fin _ _ _ _ _ _ _ (T41.setTop (mkF m 35 #[.val (.long va), .second, .val (.long vb), .second, .val (.int vc), .val (.int (1 : Int32)), .val (.int (1 : Int32)), .unset, .unset, .unset, .unset, .unset, .unset, .unset] [(.ref b40)]))
      refine own_Fin.go (fun t k => XS.astore X41.here hx rfl (hb hby at_35) rfl rfl (l' := #[.val (.long va), .second, .val (.long vb), .second, .val (.int vc), .val (.int (1 : Int32)), .val (.int (1 : Int32)), .val (.ref b40), .unset, .unset, .unset, .unset, .unset, .unset]) rfl k) ?_
      show own_Fin _ _ _ _ _ _ _ (T41.setTop (mkF m 37 #[.val (.long va), .second, .val (.long vb), .second, .val (.int vc), .val (.int (1 : Int32)), .val (.int (1 : Int32)), .val (.ref b40), .unset, .unset, .unset, .unset, .unset, .unset] []))
      obtain ⟨T42, h42, X42, e42, E42, A42, D42, -, st42⟩ := newO X41 hx hZ hown (hw _ (List.mem_of_getElem? (i := 0) rfl)) (hw _ (List.mem_of_getElem? (i := 1) rfl)) (hw _ (List.mem_of_getElem? (i := 2) rfl)) rfl (g := (mkF m 37 #[.val (.long va), .second, .val (.long vb), .second, .val (.int vc), .val (.int (1 : Int32)), .val (.int (1 : Int32)), .val (.ref b40), .unset, .unset, .unset, .unset, .unset, .unset] [])) rfl (hb hby at_37) (by decide) (by decide)
      obtain ⟨b42, g42⟩ : ∃ z, z = T41.heap.size := ⟨_, rfl⟩
      rw [← g42] at A42 D42 st42
      refine own_Fin.go st42 ?_
      have g_b42 : n0 ≤ b42 := Nat.le_trans Z41 (Nat.le_of_eq g42.symm)
      have ne_b40_b42 : b40 ≠ b42 := Nat.ne_of_lt (Nat.lt_of_lt_of_le c41_4.lt (Nat.le_of_eq g42.symm))
      have ne_ob41_b42 : ob41 ≠ b42 := Nat.ne_of_lt (Nat.lt_of_lt_of_le c41_5.lt (Nat.le_of_eq g42.symm))
      have E_b40_42 := Exa.ext E42 c41_1
      have F_b40_counts_42 := Fld.ext E42 c41_2
      have F_b40_count_42 := Fld.ext E42 c41_3
      have F_b40_max_42 := Fld.ext E42 c41_4
      have V_ob41_42 := c41_5.ext E42
      have Z42 := Nat.le_trans Z41 E42.1
      have F_b42_counts : Fld Z h42 b42 "com/example/canopy/canopy/bench/LatencyHistogram" "counts" "[J" .null := D42 (Or.inr (hw _ (List.mem_of_getElem? (i := 11) rfl))) (ty := (.array .long)) (by decide)
      have F_b42_count : Fld Z h42 b42 "com/example/canopy/canopy/bench/LatencyHistogram" "count" "J" (.long (0 : Int64)) := D42 (Or.inl (hw _ (List.mem_of_getElem? (i := 18) rfl))) (ty := .long) (by decide)
      have F_b42_max : Fld Z h42 b42 "com/example/canopy/canopy/bench/LatencyHistogram" "max" "J" (.long (0 : Int64)) := D42 (Or.inl (hw _ (List.mem_of_getElem? (i := 20) rfl))) (ty := .long) (by decide)
      show own_Fin _ _ _ _ _ _ _ (T42.setTop (mkF m 40 #[.val (.long va), .second, .val (.long vb), .second, .val (.int vc), .val (.int (1 : Int32)), .val (.int (1 : Int32)), .val (.ref b40), .unset, .unset, .unset, .unset, .unset, .unset] [(.ref b42)]))
      refine own_Fin.go (fun t k => XS.dup X42.here hx rfl (hb hby at_40) rfl rfl k) ?_
      show own_Fin _ _ _ _ _ _ _ (T42.setTop (mkF m 41 #[.val (.long va), .second, .val (.long vb), .second, .val (.int vc), .val (.int (1 : Int32)), .val (.int (1 : Int32)), .val (.ref b40), .unset, .unset, .unset, .unset, .unset, .unset] [(.ref b42), (.ref b42)]))
      obtain ⟨_, _, ⟨T43, L43, k43, n43⟩, -, X43, ⟨Lc43, hQ43, l43, y43, z43⟩, st43⟩ := X42.specialBack hx (y := (⟨"com/example/canopy/canopy/bench/LatencyHistogram", "<init>", "()V"⟩ : MethodName)) rfl hown (mvT hZ (hw _ (List.mem_of_getElem? (i := 3) rfl))) (mvT hZ (hw _ (List.mem_of_getElem? (i := 4) rfl))) (mvT hZ (hw _ (List.mem_of_getElem? (i := 5) rfl))) (by decide) (backOf (W := 1) (own_rm_ini l Z a0 hw [] b42  h42 n0 Z42 A42 F_b42_counts F_b42_count F_b42_max g_b42) hZ (hw _ (List.mem_of_getElem? (i := 5) rfl)) (hw _ (List.mem_of_getElem? (i := 2) rfl)) (by decide) (by decide)) (g := (mkF m 41 #[.val (.long va), .second, .val (.long vb), .second, .val (.int vc), .val (.int (1 : Int32)), .val (.int (1 : Int32)), .val (.ref b40), .unset, .unset, .unset, .unset, .unset, .unset] [(.ref b42), (.ref b42)])) rfl (by rw [hml]; rfl) (Steps.refl _) (a := b42) (argsL := []) (rest := [(.ref b42)]) (lenOf own_pd4 rfl) rfl (by show 2 * 0 + _ ≤ _; exact Nat.le_of_eq rfl) (hb hby at_41) (fun _ _ => ⟨rfl, e42, (by decide : 3 + 1 ≤ _), (by decide : 3782 + 3776 ≤ _)⟩)
      dsimp only [Pt.U, Pt.locs, Pt.cells, Pt.slots] at X43 l43 y43 z43 st43 hQ43
      subst l43 y43 z43
      obtain ⟨ob43, kb43, rfl, N43q, K43q, c43_1, c43_2, c43_3, c43_4, c43_5, c43_6, c43_7⟩ := hQ43
      refine own_Fin.go (fun t k => st43.trans k) ?_
      have N43 := Fr.app N41 N43q
      have E_b40_43 := E_b40_42.keep K43q
      have F_b40_counts_43 := F_b40_counts_42.keep K43q (ninS ne_b40_b42 nin0)
      have F_b40_count_43 := F_b40_count_42.keep K43q (ninS ne_b40_b42 nin0)
      have F_b40_max_43 := F_b40_max_42.keep K43q (ninS ne_b40_b42 nin0)
      have V_ob41_43 := V_ob41_42.keep K43q (ninS ne_ob41_b42 nin0)
      have Z43 := Nat.le_trans Z42 K43q.1
      have ne_b40_ob43 : b40 ≠ ob43 := Nat.ne_of_lt (Nat.lt_of_lt_of_le F_b40_max_42.lt c43_6)
      have ne_ob41_ob43 : ob41 ≠ ob43 := Nat.ne_of_lt (Nat.lt_of_lt_of_le V_ob41_42.lt c43_6)
      have ne_b42_ob43 : b42 ≠ ob43 := Nat.ne_of_lt (Nat.lt_of_lt_of_le F_b42_max.lt c43_6)
      have g_ob43 : n0 ≤ ob43 := Nat.le_trans Z42 c43_6
      show own_Fin _ _ _ _ _ _ _ (T43.setTop (mkF m 44 #[.val (.long va), .second, .val (.long vb), .second, .val (.int vc), .val (.int (1 : Int32)), .val (.int (1 : Int32)), .val (.ref b40), .unset, .unset, .unset, .unset, .unset, .unset] [(.ref b42)]))
      refine own_Fin.go (fun t k => XS.astore X43.here hx rfl (hb hby at_44) rfl rfl (l' := #[.val (.long va), .second, .val (.long vb), .second, .val (.int vc), .val (.int (1 : Int32)), .val (.int (1 : Int32)), .val (.ref b40), .val (.ref b42), .unset, .unset, .unset, .unset, .unset]) rfl k) ?_
      show own_Fin _ _ _ _ _ _ _ (T43.setTop (mkF m 46 #[.val (.long va), .second, .val (.long vb), .second, .val (.int vc), .val (.int (1 : Int32)), .val (.int (1 : Int32)), .val (.ref b40), .val (.ref b42), .unset, .unset, .unset, .unset, .unset] []))
      obtain ⟨T44, h44, X44, e44, E44, A44, D44, -, st44⟩ := newO X43 hx hZ hown (hw _ (List.mem_of_getElem? (i := 0) rfl)) (hw _ (List.mem_of_getElem? (i := 1) rfl)) (hw _ (List.mem_of_getElem? (i := 2) rfl)) rfl (g := (mkF m 46 #[.val (.long va), .second, .val (.long vb), .second, .val (.int vc), .val (.int (1 : Int32)), .val (.int (1 : Int32)), .val (.ref b40), .val (.ref b42), .unset, .unset, .unset, .unset, .unset] [])) rfl (hb hby at_46) (by decide) (by decide)
      obtain ⟨b44, g44⟩ : ∃ z, z = T43.heap.size := ⟨_, rfl⟩
      rw [← g44] at A44 D44 st44
      refine own_Fin.go st44 ?_
      have g_b44 : n0 ≤ b44 := Nat.le_trans Z43 (Nat.le_of_eq g44.symm)
      have ne_b40_b44 : b40 ≠ b44 := Nat.ne_of_lt (Nat.lt_of_lt_of_le F_b40_max_43.lt (Nat.le_of_eq g44.symm))
      have ne_ob41_b44 : ob41 ≠ b44 := Nat.ne_of_lt (Nat.lt_of_lt_of_le V_ob41_43.lt (Nat.le_of_eq g44.symm))
      have ne_b42_b44 : b42 ≠ b44 := Nat.ne_of_lt (Nat.lt_of_lt_of_le c43_4.lt (Nat.le_of_eq g44.symm))
      have ne_ob43_b44 : ob43 ≠ b44 := Nat.ne_of_lt (Nat.lt_of_lt_of_le c43_5.lt (Nat.le_of_eq g44.symm))
      have E_b40_44 := Exa.ext E44 E_b40_43
      have F_b40_counts_44 := Fld.ext E44 F_b40_counts_43
      have F_b40_count_44 := Fld.ext E44 F_b40_count_43
      have F_b40_max_44 := Fld.ext E44 F_b40_max_43
      have V_ob41_44 := V_ob41_43.ext E44
      have E_b42_44 := Exa.ext E44 c43_1
      have F_b42_counts_44 := Fld.ext E44 c43_2
      have F_b42_count_44 := Fld.ext E44 c43_3
      have F_b42_max_44 := Fld.ext E44 c43_4
      have V_ob43_44 := c43_5.ext E44
      have Z44 := Nat.le_trans Z43 E44.1
      have F_b44_counts : Fld Z h44 b44 "com/example/canopy/canopy/bench/LatencyHistogram" "counts" "[J" .null := D44 (Or.inr (hw _ (List.mem_of_getElem? (i := 11) rfl))) (ty := (.array .long)) (by decide)
      have F_b44_count : Fld Z h44 b44 "com/example/canopy/canopy/bench/LatencyHistogram" "count" "J" (.long (0 : Int64)) := D44 (Or.inl (hw _ (List.mem_of_getElem? (i := 18) rfl))) (ty := .long) (by decide)
      have F_b44_max : Fld Z h44 b44 "com/example/canopy/canopy/bench/LatencyHistogram" "max" "J" (.long (0 : Int64)) := D44 (Or.inl (hw _ (List.mem_of_getElem? (i := 20) rfl))) (ty := .long) (by decide)
      show own_Fin _ _ _ _ _ _ _ (T44.setTop (mkF m 49 #[.val (.long va), .second, .val (.long vb), .second, .val (.int vc), .val (.int (1 : Int32)), .val (.int (1 : Int32)), .val (.ref b40), .val (.ref b42), .unset, .unset, .unset, .unset, .unset] [(.ref b44)]))
      refine own_Fin.go (fun t k => XS.dup X44.here hx rfl (hb hby at_49) rfl rfl k) ?_
      show own_Fin _ _ _ _ _ _ _ (T44.setTop (mkF m 50 #[.val (.long va), .second, .val (.long vb), .second, .val (.int vc), .val (.int (1 : Int32)), .val (.int (1 : Int32)), .val (.ref b40), .val (.ref b42), .unset, .unset, .unset, .unset, .unset] [(.ref b44), (.ref b44)]))
      obtain ⟨_, _, ⟨T45, L45, k45, n45⟩, -, X45, ⟨Lc45, hQ45, l45, y45, z45⟩, st45⟩ := X44.specialBack hx (y := (⟨"com/example/canopy/canopy/bench/LatencyHistogram", "<init>", "()V"⟩ : MethodName)) rfl hown (mvT hZ (hw _ (List.mem_of_getElem? (i := 3) rfl))) (mvT hZ (hw _ (List.mem_of_getElem? (i := 4) rfl))) (mvT hZ (hw _ (List.mem_of_getElem? (i := 5) rfl))) (by decide) (backOf (W := 1) (own_rm_ini l Z a0 hw [] b44  h44 n0 Z44 A44 F_b44_counts F_b44_count F_b44_max g_b44) hZ (hw _ (List.mem_of_getElem? (i := 5) rfl)) (hw _ (List.mem_of_getElem? (i := 2) rfl)) (by decide) (by decide)) (g := (mkF m 50 #[.val (.long va), .second, .val (.long vb), .second, .val (.int vc), .val (.int (1 : Int32)), .val (.int (1 : Int32)), .val (.ref b40), .val (.ref b42), .unset, .unset, .unset, .unset, .unset] [(.ref b44), (.ref b44)])) rfl (by rw [hml]; rfl) (Steps.refl _) (a := b44) (argsL := []) (rest := [(.ref b44)]) (lenOf own_pd4 rfl) rfl (by show 2 * 0 + _ ≤ _; exact Nat.le_of_eq rfl) (hb hby at_50) (fun _ _ => ⟨rfl, e44, (by decide : 5 + 1 ≤ _), (by decide : 7561 + 3776 ≤ _)⟩)
      dsimp only [Pt.U, Pt.locs, Pt.cells, Pt.slots] at X45 l45 y45 z45 st45 hQ45
      subst l45 y45 z45
      obtain ⟨ob45, kb45, rfl, N45q, K45q, c45_1, c45_2, c45_3, c45_4, c45_5, c45_6, c45_7⟩ := hQ45
      refine own_Fin.go (fun t k => st45.trans k) ?_
      have N45 := Fr.app N43 N45q
      have E_b40_45 := E_b40_44.keep K45q
      have F_b40_counts_45 := F_b40_counts_44.keep K45q (ninS ne_b40_b44 nin0)
      have F_b40_count_45 := F_b40_count_44.keep K45q (ninS ne_b40_b44 nin0)
      have F_b40_max_45 := F_b40_max_44.keep K45q (ninS ne_b40_b44 nin0)
      have V_ob41_45 := V_ob41_44.keep K45q (ninS ne_ob41_b44 nin0)
      have E_b42_45 := E_b42_44.keep K45q
      have F_b42_counts_45 := F_b42_counts_44.keep K45q (ninS ne_b42_b44 nin0)
      have F_b42_count_45 := F_b42_count_44.keep K45q (ninS ne_b42_b44 nin0)
      have F_b42_max_45 := F_b42_max_44.keep K45q (ninS ne_b42_b44 nin0)
      have V_ob43_45 := V_ob43_44.keep K45q (ninS ne_ob43_b44 nin0)
      have Z45 := Nat.le_trans Z44 K45q.1
      have ne_b40_ob45 : b40 ≠ ob45 := Nat.ne_of_lt (Nat.lt_of_lt_of_le F_b40_max_44.lt c45_6)
      have ne_ob41_ob45 : ob41 ≠ ob45 := Nat.ne_of_lt (Nat.lt_of_lt_of_le V_ob41_44.lt c45_6)
      have ne_b42_ob45 : b42 ≠ ob45 := Nat.ne_of_lt (Nat.lt_of_lt_of_le F_b42_max_44.lt c45_6)
      have ne_ob43_ob45 : ob43 ≠ ob45 := Nat.ne_of_lt (Nat.lt_of_lt_of_le V_ob43_44.lt c45_6)
      have ne_b44_ob45 : b44 ≠ ob45 := Nat.ne_of_lt (Nat.lt_of_lt_of_le F_b44_max.lt c45_6)
      have g_ob45 : n0 ≤ ob45 := Nat.le_trans Z44 c45_6
      show own_Fin _ _ _ _ _ _ _ (T45.setTop (mkF m 53 #[.val (.long va), .second, .val (.long vb), .second, .val (.int vc), .val (.int (1 : Int32)), .val (.int (1 : Int32)), .val (.ref b40), .val (.ref b42), .unset, .unset, .unset, .unset, .unset] [(.ref b44)]))
      refine own_Fin.go (fun t k => XS.astore X45.here hx rfl (hb hby at_53) rfl rfl (l' := #[.val (.long va), .second, .val (.long vb), .second, .val (.int vc), .val (.int (1 : Int32)), .val (.int (1 : Int32)), .val (.ref b40), .val (.ref b42), .val (.ref b44), .unset, .unset, .unset, .unset]) rfl k) ?_
      show own_Fin _ _ _ _ _ _ _ (T45.setTop (mkF m 55 #[.val (.long va), .second, .val (.long vb), .second, .val (.int vc), .val (.int (1 : Int32)), .val (.int (1 : Int32)), .val (.ref b40), .val (.ref b42), .val (.ref b44), .unset, .unset, .unset, .unset] []))
      refine own_Fin.go (fun t k => XS.lconst X45.here hx rfl (hb hby at_55) k) ?_
      show own_Fin _ _ _ _ _ _ _ (T45.setTop (mkF m 56 #[.val (.long va), .second, .val (.long vb), .second, .val (.int vc), .val (.int (1 : Int32)), .val (.int (1 : Int32)), .val (.ref b40), .val (.ref b42), .val (.ref b44), .unset, .unset, .unset, .unset] [(.long (0 : Int64))]))
      refine own_Fin.go (fun t k => XS.lstore X45.here hx rfl (hb hby at_56) rfl (l' := #[.val (.long va), .second, .val (.long vb), .second, .val (.int vc), .val (.int (1 : Int32)), .val (.int (1 : Int32)), .val (.ref b40), .val (.ref b42), .val (.ref b44), .val (.long (0 : Int64)), .second, .unset, .unset]) rfl k) ?_
      show own_Fin _ _ _ _ _ _ _ (T45.setTop (mkF m 58 #[.val (.long va), .second, .val (.long vb), .second, .val (.int vc), .val (.int (1 : Int32)), .val (.int (1 : Int32)), .val (.ref b40), .val (.ref b42), .val (.ref b44), .val (.long (0 : Int64)), .second, .unset, .unset] []))
      refine own_Fin.go (fun t k => XS.lconst X45.here hx rfl (hb hby at_58) k) ?_
      show own_Fin _ _ _ _ _ _ _ (T45.setTop (mkF m 59 #[.val (.long va), .second, .val (.long vb), .second, .val (.int vc), .val (.int (1 : Int32)), .val (.int (1 : Int32)), .val (.ref b40), .val (.ref b42), .val (.ref b44), .val (.long (0 : Int64)), .second, .unset, .unset] [(.long (0 : Int64))]))
      refine own_Fin.go (fun t k => XS.lstore X45.here hx rfl (hb hby at_59) rfl (l' := #[.val (.long va), .second, .val (.long vb), .second, .val (.int vc), .val (.int (1 : Int32)), .val (.int (1 : Int32)), .val (.ref b40), .val (.ref b42), .val (.ref b44), .val (.long (0 : Int64)), .second, .val (.long (0 : Int64)), .second]) rfl k) ?_
      show own_Fin _ _ _ _ _ _ _ (T45.setTop (mkF m 61 #[.val (.long va), .second, .val (.long vb), .second, .val (.int vc), .val (.int (1 : Int32)), .val (.int (1 : Int32)), .val (.ref b40), .val (.ref b42), .val (.ref b44), .val (.long (0 : Int64)), .second, .val (.long (0 : Int64)), .second] []))
      refine own_Fin.go (fun t k => XS.iload X45.here hx rfl (hb hby at_61) rfl k) ?_
      show own_Fin _ _ _ _ _ _ _ (T45.setTop (mkF m 63 #[.val (.long va), .second, .val (.long vb), .second, .val (.int vc), .val (.int (1 : Int32)), .val (.int (1 : Int32)), .val (.ref b40), .val (.ref b42), .val (.ref b44), .val (.long (0 : Int64)), .second, .val (.long (0 : Int64)), .second] [(.int (1 : Int32))]))
      refine own_Fin.go (fun t k => XS.ifNo X45.here hx rfl (hb hby at_63) rfl (by decide) k) ?_
      show own_Fin _ _ _ _ _ _ _ (T45.setTop (mkF m 66 #[.val (.long va), .second, .val (.long vb), .second, .val (.int vc), .val (.int (1 : Int32)), .val (.int (1 : Int32)), .val (.ref b40), .val (.ref b42), .val (.ref b44), .val (.long (0 : Int64)), .second, .val (.long (0 : Int64)), .second] []))
      refine own_Fin.go (fun t k => XS.aload X45.here hx rfl (hb hby at_66) rfl rfl k) ?_
      show own_Fin _ _ _ _ _ _ _ (T45.setTop (mkF m 68 #[.val (.long va), .second, .val (.long vb), .second, .val (.int vc), .val (.int (1 : Int32)), .val (.int (1 : Int32)), .val (.ref b40), .val (.ref b42), .val (.ref b44), .val (.long (0 : Int64)), .second, .val (.long (0 : Int64)), .second] [(.ref b40)]))
      refine own_Fin.go (fun t k => XS.lloadN X45.here hx rfl (hb hby at_68) rfl k) ?_
      show own_Fin _ _ _ _ _ _ _ (T45.setTop (mkF m 69 #[.val (.long va), .second, .val (.long vb), .second, .val (.int vc), .val (.int (1 : Int32)), .val (.int (1 : Int32)), .val (.ref b40), .val (.ref b42), .val (.ref b44), .val (.long (0 : Int64)), .second, .val (.long (0 : Int64)), .second] [(.long va), (.ref b40)]))
      obtain ⟨cq46, kq46, q46a, q46b, q46c⟩ := isOf hZ rfl E_b40_45
      obtain ⟨_, _, ⟨T46, L46, k46, n46⟩, -, X46, ⟨Lc46, hQ46, l46, y46, z46⟩, st46⟩ := X45.virtualBack hx (y := (⟨"com/example/canopy/canopy/bench/LatencyHistogram", "record", "(J)V"⟩ : MethodName)) (z := (⟨"com/example/canopy/canopy/bench/LatencyHistogram", "record", "(J)V"⟩ : MethodName)) hown (mvT hZ (hw _ (List.mem_of_getElem? (i := 40) rfl))) (mvT hZ (hw _ (List.mem_of_getElem? (i := 41) rfl))) (notFace_of_selects (args := #[]) (mvT hZ (hw _ (List.mem_of_getElem? (i := 43) rfl)))) (mvT hZ (hw _ (List.mem_of_getElem? (i := 43) rfl))) (mvT hZ (hw _ (List.mem_of_getElem? (i := 42) rfl))) (by decide) (backOf (W := 0) (own_rm_rec l Z a0 hw [] b40 va ob41 kb41 (0 : Int64) (0 : Int64) own_zero T45.heap n0 Z45 E_b40_45 F_b40_counts_45 F_b40_count_45 F_b40_max_45 V_ob41_45 g_b40 g_ob41 c41_7) hZ (hw _ (List.mem_of_getElem? (i := 44) rfl)) (hw _ (List.mem_of_getElem? (i := 2) rfl)) (by decide) (by decide)) q46a q46c (g := (mkF m 69 #[.val (.long va), .second, .val (.long vb), .second, .val (.int vc), .val (.int (1 : Int32)), .val (.int (1 : Int32)), .val (.ref b40), .val (.ref b42), .val (.ref b44), .val (.long (0 : Int64)), .second, .val (.long (0 : Int64)), .second] [(.long va), (.ref b40)])) rfl (by rw [hml]; rfl) (Steps.refl _) (argsL := [(.long va)]) (rest := []) (lenOf own_pd8 rfl) rfl (by show 2 * 0 + _ ≤ _; exact Nat.le_of_eq rfl) (hb hby at_69) (fun _ _ => ⟨rfl, rfl, (by decide : 6 + 0 ≤ _), (by decide : 11337 + 0 ≤ _)⟩)
      dsimp only [Pt.U, Pt.locs, Pt.cells, Pt.slots] at X46 l46 y46 z46 st46 hQ46
      subst l46 y46 z46
      obtain ⟨rfl, N46q, K46q, c46_1, c46_2, c46_3, c46_4, c46_5⟩ := hQ46
      refine own_Fin.go (fun t k => st46.trans k) ?_
      have N46 := Fr.app N45 N46q
      have E_b42_46 := E_b42_45.keep K46q
      have F_b42_counts_46 := F_b42_counts_45.keep K46q (ninS (Ne.symm ne_b40_b42) (ninS (Ne.symm ne_ob41_b42) nin0))
      have F_b42_count_46 := F_b42_count_45.keep K46q (ninS (Ne.symm ne_b40_b42) (ninS (Ne.symm ne_ob41_b42) nin0))
      have F_b42_max_46 := F_b42_max_45.keep K46q (ninS (Ne.symm ne_b40_b42) (ninS (Ne.symm ne_ob41_b42) nin0))
      have V_ob43_46 := V_ob43_45.keep K46q (ninS (Ne.symm ne_b40_ob43) (ninS (Ne.symm ne_ob41_ob43) nin0))
      have E_b44_46 := c45_1.keep K46q
      have F_b44_counts_46 := c45_2.keep K46q (ninS (Ne.symm ne_b40_b44) (ninS (Ne.symm ne_ob41_b44) nin0))
      have F_b44_count_46 := c45_3.keep K46q (ninS (Ne.symm ne_b40_b44) (ninS (Ne.symm ne_ob41_b44) nin0))
      have F_b44_max_46 := c45_4.keep K46q (ninS (Ne.symm ne_b40_b44) (ninS (Ne.symm ne_ob41_b44) nin0))
      have V_ob45_46 := c45_5.keep K46q (ninS (Ne.symm ne_b40_ob45) (ninS (Ne.symm ne_ob41_ob45) nin0))
      have Z46 := Nat.le_trans Z45 K46q.1
      show own_Fin _ _ _ _ _ _ _ (T46.setTop (mkF m 72 #[.val (.long va), .second, .val (.long vb), .second, .val (.int vc), .val (.int (1 : Int32)), .val (.int (1 : Int32)), .val (.ref b40), .val (.ref b42), .val (.ref b44), .val (.long (0 : Int64)), .second, .val (.long (0 : Int64)), .second] []))
      refine own_Fin.go (fun t k => XS.aload X46.here hx rfl (hb hby at_72) rfl rfl k) ?_
      show own_Fin _ _ _ _ _ _ _ (T46.setTop (mkF m 74 #[.val (.long va), .second, .val (.long vb), .second, .val (.int vc), .val (.int (1 : Int32)), .val (.int (1 : Int32)), .val (.ref b40), .val (.ref b42), .val (.ref b44), .val (.long (0 : Int64)), .second, .val (.long (0 : Int64)), .second] [(.ref b44)]))
      refine own_Fin.go (fun t k => XS.lloadN X46.here hx rfl (hb hby at_74) rfl k) ?_
      show own_Fin _ _ _ _ _ _ _ (T46.setTop (mkF m 75 #[.val (.long va), .second, .val (.long vb), .second, .val (.int vc), .val (.int (1 : Int32)), .val (.int (1 : Int32)), .val (.ref b40), .val (.ref b42), .val (.ref b44), .val (.long (0 : Int64)), .second, .val (.long (0 : Int64)), .second] [(.long va), (.ref b44)]))
      obtain ⟨cq47, kq47, q47a, q47b, q47c⟩ := isOf hZ rfl E_b44_46
      obtain ⟨_, _, ⟨T47, L47, k47, n47⟩, -, X47, ⟨Lc47, hQ47, l47, y47, z47⟩, st47⟩ := X46.virtualBack hx (y := (⟨"com/example/canopy/canopy/bench/LatencyHistogram", "record", "(J)V"⟩ : MethodName)) (z := (⟨"com/example/canopy/canopy/bench/LatencyHistogram", "record", "(J)V"⟩ : MethodName)) hown (mvT hZ (hw _ (List.mem_of_getElem? (i := 40) rfl))) (mvT hZ (hw _ (List.mem_of_getElem? (i := 41) rfl))) (notFace_of_selects (args := #[]) (mvT hZ (hw _ (List.mem_of_getElem? (i := 43) rfl)))) (mvT hZ (hw _ (List.mem_of_getElem? (i := 43) rfl))) (mvT hZ (hw _ (List.mem_of_getElem? (i := 42) rfl))) (by decide) (backOf (W := 0) (own_rm_rec l Z a0 hw [] b44 va ob45 kb45 (0 : Int64) (0 : Int64) own_zero T46.heap n0 Z46 E_b44_46 F_b44_counts_46 F_b44_count_46 F_b44_max_46 V_ob45_46 g_b44 g_ob45 c45_7) hZ (hw _ (List.mem_of_getElem? (i := 44) rfl)) (hw _ (List.mem_of_getElem? (i := 2) rfl)) (by decide) (by decide)) q47a q47c (g := (mkF m 75 #[.val (.long va), .second, .val (.long vb), .second, .val (.int vc), .val (.int (1 : Int32)), .val (.int (1 : Int32)), .val (.ref b40), .val (.ref b42), .val (.ref b44), .val (.long (0 : Int64)), .second, .val (.long (0 : Int64)), .second] [(.long va), (.ref b44)])) rfl (by rw [hml]; rfl) (Steps.refl _) (argsL := [(.long va)]) (rest := []) (lenOf own_pd8 rfl) rfl (by show 2 * 0 + _ ≤ _; exact Nat.le_of_eq rfl) (hb hby at_75) (fun _ _ => ⟨rfl, rfl, (by decide : 6 + 0 ≤ _), (by decide : 11337 + 0 ≤ _)⟩)
      dsimp only [Pt.U, Pt.locs, Pt.cells, Pt.slots] at X47 l47 y47 z47 st47 hQ47
      subst l47 y47 z47
      obtain ⟨rfl, N47q, K47q, c47_1, c47_2, c47_3, c47_4, c47_5⟩ := hQ47
      refine own_Fin.go (fun t k => st47.trans k) ?_
      have N47 := Fr.app N46 N47q
      have E_b42_47 := E_b42_46.keep K47q
      have F_b42_counts_47 := F_b42_counts_46.keep K47q (ninS ne_b42_b44 (ninS ne_b42_ob45 nin0))
      have F_b42_count_47 := F_b42_count_46.keep K47q (ninS ne_b42_b44 (ninS ne_b42_ob45 nin0))
      have F_b42_max_47 := F_b42_max_46.keep K47q (ninS ne_b42_b44 (ninS ne_b42_ob45 nin0))
      have V_ob43_47 := V_ob43_46.keep K47q (ninS ne_ob43_b44 (ninS ne_ob43_ob45 nin0))
      have E_b40_47 := c46_1.keep K47q
      have F_b40_counts_47 := c46_2.keep K47q (ninS ne_b40_b44 (ninS ne_b40_ob45 nin0))
      have F_b40_count_47 := c46_3.keep K47q (ninS ne_b40_b44 (ninS ne_b40_ob45 nin0))
      have F_b40_max_47 := c46_4.keep K47q (ninS ne_b40_b44 (ninS ne_b40_ob45 nin0))
      have V_ob41_47 := c46_5.keep K47q (ninS ne_ob41_b44 (ninS ne_ob41_ob45 nin0))
      have Z47 := Nat.le_trans Z46 K47q.1
      show own_Fin _ _ _ _ _ _ _ (T47.setTop (mkF m 78 #[.val (.long va), .second, .val (.long vb), .second, .val (.int vc), .val (.int (1 : Int32)), .val (.int (1 : Int32)), .val (.ref b40), .val (.ref b42), .val (.ref b44), .val (.long (0 : Int64)), .second, .val (.long (0 : Int64)), .second] []))
      refine own_Fin.go (fun t k => XS.lload X47.here hx rfl (hb hby at_78) rfl k) ?_
      show own_Fin _ _ _ _ _ _ _ (T47.setTop (mkF m 80 #[.val (.long va), .second, .val (.long vb), .second, .val (.int vc), .val (.int (1 : Int32)), .val (.int (1 : Int32)), .val (.ref b40), .val (.ref b42), .val (.ref b44), .val (.long (0 : Int64)), .second, .val (.long (0 : Int64)), .second] [(.long (0 : Int64))]))
      refine own_Fin.go (fun t k => XS.lconst X47.here hx rfl (hb hby at_80) k) ?_
      show own_Fin _ _ _ _ _ _ _ (T47.setTop (mkF m 81 #[.val (.long va), .second, .val (.long vb), .second, .val (.int vc), .val (.int (1 : Int32)), .val (.int (1 : Int32)), .val (.ref b40), .val (.ref b42), .val (.ref b44), .val (.long (0 : Int64)), .second, .val (.long (0 : Int64)), .second] [(.long (1 : Int64)), (.long (0 : Int64))]))
      refine own_Fin.go (fun t k => XS.ladd X47.here hx rfl (hb hby at_81) rfl k) ?_
      show own_Fin _ _ _ _ _ _ _ (T47.setTop (mkF m 82 #[.val (.long va), .second, .val (.long vb), .second, .val (.int vc), .val (.int (1 : Int32)), .val (.int (1 : Int32)), .val (.ref b40), .val (.ref b42), .val (.ref b44), .val (.long (0 : Int64)), .second, .val (.long (0 : Int64)), .second] [(.long ((0 : Int64) + (1 : Int64)))]))
      rw [show ((0 : Int64) + (1 : Int64)) = (1 : Int64) from by decide +kernel]
      show own_Fin _ _ _ _ _ _ _ (T47.setTop (mkF m 82 #[.val (.long va), .second, .val (.long vb), .second, .val (.int vc), .val (.int (1 : Int32)), .val (.int (1 : Int32)), .val (.ref b40), .val (.ref b42), .val (.ref b44), .val (.long (0 : Int64)), .second, .val (.long (0 : Int64)), .second] [(.long (1 : Int64))]))
      refine own_Fin.go (fun t k => XS.lstore X47.here hx rfl (hb hby at_82) rfl (l' := #[.val (.long va), .second, .val (.long vb), .second, .val (.int vc), .val (.int (1 : Int32)), .val (.int (1 : Int32)), .val (.ref b40), .val (.ref b42), .val (.ref b44), .val (.long (1 : Int64)), .second, .val (.long (0 : Int64)), .second]) rfl k) ?_
      show own_Fin _ _ _ _ _ _ _ (T47.setTop (mkF m 84 #[.val (.long va), .second, .val (.long vb), .second, .val (.int vc), .val (.int (1 : Int32)), .val (.int (1 : Int32)), .val (.ref b40), .val (.ref b42), .val (.ref b44), .val (.long (1 : Int64)), .second, .val (.long (0 : Int64)), .second] []))
      refine own_Fin.go (fun t k => XS.lload X47.here hx rfl (hb hby at_84) rfl k) ?_
      show own_Fin _ _ _ _ _ _ _ (T47.setTop (mkF m 86 #[.val (.long va), .second, .val (.long vb), .second, .val (.int vc), .val (.int (1 : Int32)), .val (.int (1 : Int32)), .val (.ref b40), .val (.ref b42), .val (.ref b44), .val (.long (1 : Int64)), .second, .val (.long (0 : Int64)), .second] [(.long (0 : Int64))]))
      refine own_Fin.go (fun t k => XS.lloadN X47.here hx rfl (hb hby at_86) rfl k) ?_
      show own_Fin _ _ _ _ _ _ _ (T47.setTop (mkF m 87 #[.val (.long va), .second, .val (.long vb), .second, .val (.int vc), .val (.int (1 : Int32)), .val (.int (1 : Int32)), .val (.ref b40), .val (.ref b42), .val (.ref b44), .val (.long (1 : Int64)), .second, .val (.long (0 : Int64)), .second] [(.long va), (.long (0 : Int64))]))
      obtain ⟨_, _, ⟨T48, L48, k48, n48⟩, -, X48, ⟨Lc48, hQ48, l48, y48, z48⟩, st48⟩ := Jvm.LawKit.callS X47 hx (y := (⟨"java/lang/Math", "max", "(JJ)J"⟩ : MethodName)) hown (mvT hZ (hw _ (List.mem_of_getElem? (i := 49) rfl))) (mvT hZ (hw _ (List.mem_of_getElem? (i := 22) rfl))) (mvT hZ (hw _ (List.mem_of_getElem? (i := 23) rfl))) (mvT hZ (hw _ (List.mem_of_getElem? (i := 24) rfl))) (by decide) (backOf (W := 0) (own_rm_mx l Z a0 hw [] (0 : Int64) va  T47.heap n0 Z47 ) hZ (hw _ (List.mem_of_getElem? (i := 24) rfl)) (hw _ (List.mem_of_getElem? (i := 23) rfl)) (by decide) (by decide)) (g := (mkF m 87 #[.val (.long va), .second, .val (.long vb), .second, .val (.int vc), .val (.int (1 : Int32)), .val (.int (1 : Int32)), .val (.ref b40), .val (.ref b42), .val (.ref b44), .val (.long (1 : Int64)), .second, .val (.long (0 : Int64)), .second] [(.long va), (.long (0 : Int64))])) rfl (by rw [hml]; rfl) (argsL := [(.long (0 : Int64)), (.long va)]) (rest := []) (lenOf own_pd2 rfl) rfl (by show 2 * 0 + _ ≤ _; exact Nat.le_of_eq rfl) (hb hby at_87) (fun _ _ => ⟨rfl, rfl, (by decide : 6 + 0 ≤ _), (by decide : 11337 + 0 ≤ _)⟩)
      dsimp only [Pt.U, Pt.locs, Pt.cells, Pt.slots] at X48 l48 y48 z48 st48 hQ48
      subst l48 y48 z48
      obtain ⟨rfl, N48q, e48⟩ := hQ48
      refine own_Fin.go (fun t k => st48 t k) ?_
      have N48 := Fr.app N47 N48q
      show own_Fin _ _ _ _ _ _ _ (T48.setTop (mkF m 90 #[.val (.long va), .second, .val (.long vb), .second, .val (.int vc), .val (.int (1 : Int32)), .val (.int (1 : Int32)), .val (.ref b40), .val (.ref b42), .val (.ref b44), .val (.long (1 : Int64)), .second, .val (.long (0 : Int64)), .second] [(.long (own_mx (0 : Int64) va))]))
      refine own_Fin.go (fun t k => XS.lstore X48.here hx rfl (hb hby at_90) rfl (l' := #[.val (.long va), .second, .val (.long vb), .second, .val (.int vc), .val (.int (1 : Int32)), .val (.int (1 : Int32)), .val (.ref b40), .val (.ref b42), .val (.ref b44), .val (.long (1 : Int64)), .second, .val (.long (own_mx (0 : Int64) va)), .second]) rfl k) ?_
      show own_Fin _ _ _ _ _ _ _ (T48.setTop (mkF m 92 #[.val (.long va), .second, .val (.long vb), .second, .val (.int vc), .val (.int (1 : Int32)), .val (.int (1 : Int32)), .val (.ref b40), .val (.ref b42), .val (.ref b44), .val (.long (1 : Int64)), .second, .val (.long (own_mx (0 : Int64) va)), .second] []))
      refine own_Fin.go (fun t k => XS.iload X48.here hx rfl (hb hby at_92) rfl k) ?_
      show own_Fin _ _ _ _ _ _ _ (T48.setTop (mkF m 94 #[.val (.long va), .second, .val (.long vb), .second, .val (.int vc), .val (.int (1 : Int32)), .val (.int (1 : Int32)), .val (.ref b40), .val (.ref b42), .val (.ref b44), .val (.long (1 : Int64)), .second, .val (.long (own_mx (0 : Int64) va)), .second] [(.int (1 : Int32))]))
      refine own_Fin.go (fun t k => XS.ifNo X48.here hx rfl (hb hby at_94) rfl (by decide) k) ?_
      show own_Fin _ _ _ _ _ _ _ (T48.setTop (mkF m 97 #[.val (.long va), .second, .val (.long vb), .second, .val (.int vc), .val (.int (1 : Int32)), .val (.int (1 : Int32)), .val (.ref b40), .val (.ref b42), .val (.ref b44), .val (.long (1 : Int64)), .second, .val (.long (own_mx (0 : Int64) va)), .second] []))
      refine own_Fin.go (fun t k => XS.aload X48.here hx rfl (hb hby at_97) rfl rfl k) ?_
      show own_Fin _ _ _ _ _ _ _ (T48.setTop (mkF m 99 #[.val (.long va), .second, .val (.long vb), .second, .val (.int vc), .val (.int (1 : Int32)), .val (.int (1 : Int32)), .val (.ref b40), .val (.ref b42), .val (.ref b44), .val (.long (1 : Int64)), .second, .val (.long (own_mx (0 : Int64) va)), .second] [(.ref b42)]))
      refine own_Fin.go (fun t k => XS.lloadN X48.here hx rfl (hb hby at_99) rfl k) ?_
      show own_Fin _ _ _ _ _ _ _ (T48.setTop (mkF m 100 #[.val (.long va), .second, .val (.long vb), .second, .val (.int vc), .val (.int (1 : Int32)), .val (.int (1 : Int32)), .val (.ref b40), .val (.ref b42), .val (.ref b44), .val (.long (1 : Int64)), .second, .val (.long (own_mx (0 : Int64) va)), .second] [(.long vb), (.ref b42)]))
      obtain ⟨cq49, kq49, q49a, q49b, q49c⟩ := isOf hZ e48 E_b42_47
      obtain ⟨_, _, ⟨T49, L49, k49, n49⟩, -, X49, ⟨Lc49, hQ49, l49, y49, z49⟩, st49⟩ := X48.virtualBack hx (y := (⟨"com/example/canopy/canopy/bench/LatencyHistogram", "record", "(J)V"⟩ : MethodName)) (z := (⟨"com/example/canopy/canopy/bench/LatencyHistogram", "record", "(J)V"⟩ : MethodName)) hown (mvT hZ (hw _ (List.mem_of_getElem? (i := 40) rfl))) (mvT hZ (hw _ (List.mem_of_getElem? (i := 41) rfl))) (notFace_of_selects (args := #[]) (mvT hZ (hw _ (List.mem_of_getElem? (i := 43) rfl)))) (mvT hZ (hw _ (List.mem_of_getElem? (i := 43) rfl))) (mvT hZ (hw _ (List.mem_of_getElem? (i := 42) rfl))) (by decide) (backOf (W := 0) (own_rm_rec l Z a0 hw [] b42 vb ob43 kb43 (0 : Int64) (0 : Int64) own_zero T47.heap n0 Z47 E_b42_47 F_b42_counts_47 F_b42_count_47 F_b42_max_47 V_ob43_47 g_b42 g_ob43 c43_7) hZ (hw _ (List.mem_of_getElem? (i := 44) rfl)) (hw _ (List.mem_of_getElem? (i := 2) rfl)) (by decide) (by decide)) q49a q49c (g := (mkF m 100 #[.val (.long va), .second, .val (.long vb), .second, .val (.int vc), .val (.int (1 : Int32)), .val (.int (1 : Int32)), .val (.ref b40), .val (.ref b42), .val (.ref b44), .val (.long (1 : Int64)), .second, .val (.long (own_mx (0 : Int64) va)), .second] [(.long vb), (.ref b42)])) rfl (by rw [hml]; rfl) (Steps.refl _) (argsL := [(.long vb)]) (rest := []) (lenOf own_pd8 rfl) rfl (by show 2 * 0 + _ ≤ _; exact Nat.le_of_eq rfl) (hb hby at_100) (fun _ _ => ⟨rfl, e48, (by decide : 6 + 0 ≤ _), (by decide : 11337 + 0 ≤ _)⟩)
      dsimp only [Pt.U, Pt.locs, Pt.cells, Pt.slots] at X49 l49 y49 z49 st49 hQ49
      subst l49 y49 z49
      obtain ⟨rfl, N49q, K49q, c49_1, c49_2, c49_3, c49_4, c49_5⟩ := hQ49
      refine own_Fin.go (fun t k => st49.trans k) ?_
      have N49 := Fr.app N48 N49q
      have E_b40_49 := E_b40_47.keep K49q
      have F_b40_counts_49 := F_b40_counts_47.keep K49q (ninS ne_b40_b42 (ninS ne_b40_ob43 nin0))
      have F_b40_count_49 := F_b40_count_47.keep K49q (ninS ne_b40_b42 (ninS ne_b40_ob43 nin0))
      have F_b40_max_49 := F_b40_max_47.keep K49q (ninS ne_b40_b42 (ninS ne_b40_ob43 nin0))
      have V_ob41_49 := V_ob41_47.keep K49q (ninS ne_ob41_b42 (ninS ne_ob41_ob43 nin0))
      have E_b44_49 := c47_1.keep K49q
      have F_b44_counts_49 := c47_2.keep K49q (ninS (Ne.symm ne_b42_b44) (ninS (Ne.symm ne_ob43_b44) nin0))
      have F_b44_count_49 := c47_3.keep K49q (ninS (Ne.symm ne_b42_b44) (ninS (Ne.symm ne_ob43_b44) nin0))
      have F_b44_max_49 := c47_4.keep K49q (ninS (Ne.symm ne_b42_b44) (ninS (Ne.symm ne_ob43_b44) nin0))
      have V_ob45_49 := c47_5.keep K49q (ninS (Ne.symm ne_b42_ob45) (ninS (Ne.symm ne_ob43_ob45) nin0))
      have Z49 := Nat.le_trans Z47 K49q.1
      show own_Fin _ _ _ _ _ _ _ (T49.setTop (mkF m 103 #[.val (.long va), .second, .val (.long vb), .second, .val (.int vc), .val (.int (1 : Int32)), .val (.int (1 : Int32)), .val (.ref b40), .val (.ref b42), .val (.ref b44), .val (.long (1 : Int64)), .second, .val (.long (own_mx (0 : Int64) va)), .second] []))
      refine own_Fin.go (fun t k => XS.aload X49.here hx rfl (hb hby at_103) rfl rfl k) ?_
      show own_Fin _ _ _ _ _ _ _ (T49.setTop (mkF m 105 #[.val (.long va), .second, .val (.long vb), .second, .val (.int vc), .val (.int (1 : Int32)), .val (.int (1 : Int32)), .val (.ref b40), .val (.ref b42), .val (.ref b44), .val (.long (1 : Int64)), .second, .val (.long (own_mx (0 : Int64) va)), .second] [(.ref b44)]))
      refine own_Fin.go (fun t k => XS.lloadN X49.here hx rfl (hb hby at_105) rfl k) ?_
      show own_Fin _ _ _ _ _ _ _ (T49.setTop (mkF m 106 #[.val (.long va), .second, .val (.long vb), .second, .val (.int vc), .val (.int (1 : Int32)), .val (.int (1 : Int32)), .val (.ref b40), .val (.ref b42), .val (.ref b44), .val (.long (1 : Int64)), .second, .val (.long (own_mx (0 : Int64) va)), .second] [(.long vb), (.ref b44)]))
      obtain ⟨cq50, kq50, q50a, q50b, q50c⟩ := isOf hZ rfl E_b44_49
      obtain ⟨_, _, ⟨T50, L50, k50, n50⟩, -, X50, ⟨Lc50, hQ50, l50, y50, z50⟩, st50⟩ := X49.virtualBack hx (y := (⟨"com/example/canopy/canopy/bench/LatencyHistogram", "record", "(J)V"⟩ : MethodName)) (z := (⟨"com/example/canopy/canopy/bench/LatencyHistogram", "record", "(J)V"⟩ : MethodName)) hown (mvT hZ (hw _ (List.mem_of_getElem? (i := 40) rfl))) (mvT hZ (hw _ (List.mem_of_getElem? (i := 41) rfl))) (notFace_of_selects (args := #[]) (mvT hZ (hw _ (List.mem_of_getElem? (i := 43) rfl)))) (mvT hZ (hw _ (List.mem_of_getElem? (i := 43) rfl))) (mvT hZ (hw _ (List.mem_of_getElem? (i := 42) rfl))) (by decide) (backOf (W := 0) (own_rm_rec l Z a0 hw [] b44 vb ob45 kb45 ((0 : Int64) + (1 : Int64)) (own_mx (0 : Int64) (own_mx (0 : Int64) va)) (own_up own_zero (own_bkt (own_mx (0 : Int64) va)).toNatClampNeg (own_zero (own_bkt (own_mx (0 : Int64) va)).toNatClampNeg + (1 : Int64))) T49.heap n0 Z49 E_b44_49 F_b44_counts_49 F_b44_count_49 F_b44_max_49 V_ob45_49 g_b44 g_ob45 c45_7) hZ (hw _ (List.mem_of_getElem? (i := 44) rfl)) (hw _ (List.mem_of_getElem? (i := 2) rfl)) (by decide) (by decide)) q50a q50c (g := (mkF m 106 #[.val (.long va), .second, .val (.long vb), .second, .val (.int vc), .val (.int (1 : Int32)), .val (.int (1 : Int32)), .val (.ref b40), .val (.ref b42), .val (.ref b44), .val (.long (1 : Int64)), .second, .val (.long (own_mx (0 : Int64) va)), .second] [(.long vb), (.ref b44)])) rfl (by rw [hml]; rfl) (Steps.refl _) (argsL := [(.long vb)]) (rest := []) (lenOf own_pd8 rfl) rfl (by show 2 * 0 + _ ≤ _; exact Nat.le_of_eq rfl) (hb hby at_106) (fun _ _ => ⟨rfl, rfl, (by decide : 6 + 0 ≤ _), (by decide : 11337 + 0 ≤ _)⟩)
      dsimp only [Pt.U, Pt.locs, Pt.cells, Pt.slots] at X50 l50 y50 z50 st50 hQ50
      subst l50 y50 z50
      obtain ⟨rfl, N50q, K50q, c50_1, c50_2, c50_3, c50_4, c50_5⟩ := hQ50
      refine own_Fin.go (fun t k => st50.trans k) ?_
      have N50 := Fr.app N49 N50q
      have E_b40_50 := E_b40_49.keep K50q
      have F_b40_counts_50 := F_b40_counts_49.keep K50q (ninS ne_b40_b44 (ninS ne_b40_ob45 nin0))
      have F_b40_count_50 := F_b40_count_49.keep K50q (ninS ne_b40_b44 (ninS ne_b40_ob45 nin0))
      have F_b40_max_50 := F_b40_max_49.keep K50q (ninS ne_b40_b44 (ninS ne_b40_ob45 nin0))
      have V_ob41_50 := V_ob41_49.keep K50q (ninS ne_ob41_b44 (ninS ne_ob41_ob45 nin0))
      have E_b42_50 := c49_1.keep K50q
      have F_b42_counts_50 := c49_2.keep K50q (ninS ne_b42_b44 (ninS ne_b42_ob45 nin0))
      have F_b42_count_50 := c49_3.keep K50q (ninS ne_b42_b44 (ninS ne_b42_ob45 nin0))
      have F_b42_max_50 := c49_4.keep K50q (ninS ne_b42_b44 (ninS ne_b42_ob45 nin0))
      have V_ob43_50 := c49_5.keep K50q (ninS ne_ob43_b44 (ninS ne_ob43_ob45 nin0))
      have Z50 := Nat.le_trans Z49 K50q.1
      show own_Fin _ _ _ _ _ _ _ (T50.setTop (mkF m 109 #[.val (.long va), .second, .val (.long vb), .second, .val (.int vc), .val (.int (1 : Int32)), .val (.int (1 : Int32)), .val (.ref b40), .val (.ref b42), .val (.ref b44), .val (.long (1 : Int64)), .second, .val (.long (own_mx (0 : Int64) va)), .second] []))
      refine own_Fin.go (fun t k => XS.lload X50.here hx rfl (hb hby at_109) rfl k) ?_
      show own_Fin _ _ _ _ _ _ _ (T50.setTop (mkF m 111 #[.val (.long va), .second, .val (.long vb), .second, .val (.int vc), .val (.int (1 : Int32)), .val (.int (1 : Int32)), .val (.ref b40), .val (.ref b42), .val (.ref b44), .val (.long (1 : Int64)), .second, .val (.long (own_mx (0 : Int64) va)), .second] [(.long (1 : Int64))]))
      refine own_Fin.go (fun t k => XS.lconst X50.here hx rfl (hb hby at_111) k) ?_
      show own_Fin _ _ _ _ _ _ _ (T50.setTop (mkF m 112 #[.val (.long va), .second, .val (.long vb), .second, .val (.int vc), .val (.int (1 : Int32)), .val (.int (1 : Int32)), .val (.ref b40), .val (.ref b42), .val (.ref b44), .val (.long (1 : Int64)), .second, .val (.long (own_mx (0 : Int64) va)), .second] [(.long (1 : Int64)), (.long (1 : Int64))]))
      refine own_Fin.go (fun t k => XS.ladd X50.here hx rfl (hb hby at_112) rfl k) ?_
      show own_Fin _ _ _ _ _ _ _ (T50.setTop (mkF m 113 #[.val (.long va), .second, .val (.long vb), .second, .val (.int vc), .val (.int (1 : Int32)), .val (.int (1 : Int32)), .val (.ref b40), .val (.ref b42), .val (.ref b44), .val (.long (1 : Int64)), .second, .val (.long (own_mx (0 : Int64) va)), .second] [(.long ((1 : Int64) + (1 : Int64)))]))
      rw [show ((1 : Int64) + (1 : Int64)) = (2 : Int64) from by decide +kernel]
      show own_Fin _ _ _ _ _ _ _ (T50.setTop (mkF m 113 #[.val (.long va), .second, .val (.long vb), .second, .val (.int vc), .val (.int (1 : Int32)), .val (.int (1 : Int32)), .val (.ref b40), .val (.ref b42), .val (.ref b44), .val (.long (1 : Int64)), .second, .val (.long (own_mx (0 : Int64) va)), .second] [(.long (2 : Int64))]))
      refine own_Fin.go (fun t k => XS.lstore X50.here hx rfl (hb hby at_113) rfl (l' := #[.val (.long va), .second, .val (.long vb), .second, .val (.int vc), .val (.int (1 : Int32)), .val (.int (1 : Int32)), .val (.ref b40), .val (.ref b42), .val (.ref b44), .val (.long (2 : Int64)), .second, .val (.long (own_mx (0 : Int64) va)), .second]) rfl k) ?_
      show own_Fin _ _ _ _ _ _ _ (T50.setTop (mkF m 115 #[.val (.long va), .second, .val (.long vb), .second, .val (.int vc), .val (.int (1 : Int32)), .val (.int (1 : Int32)), .val (.ref b40), .val (.ref b42), .val (.ref b44), .val (.long (2 : Int64)), .second, .val (.long (own_mx (0 : Int64) va)), .second] []))
      refine own_Fin.go (fun t k => XS.lload X50.here hx rfl (hb hby at_115) rfl k) ?_
      show own_Fin _ _ _ _ _ _ _ (T50.setTop (mkF m 117 #[.val (.long va), .second, .val (.long vb), .second, .val (.int vc), .val (.int (1 : Int32)), .val (.int (1 : Int32)), .val (.ref b40), .val (.ref b42), .val (.ref b44), .val (.long (2 : Int64)), .second, .val (.long (own_mx (0 : Int64) va)), .second] [(.long (own_mx (0 : Int64) va))]))
      refine own_Fin.go (fun t k => XS.lloadN X50.here hx rfl (hb hby at_117) rfl k) ?_
      show own_Fin _ _ _ _ _ _ _ (T50.setTop (mkF m 118 #[.val (.long va), .second, .val (.long vb), .second, .val (.int vc), .val (.int (1 : Int32)), .val (.int (1 : Int32)), .val (.ref b40), .val (.ref b42), .val (.ref b44), .val (.long (2 : Int64)), .second, .val (.long (own_mx (0 : Int64) va)), .second] [(.long vb), (.long (own_mx (0 : Int64) va))]))
      obtain ⟨_, _, ⟨T51, L51, k51, n51⟩, -, X51, ⟨Lc51, hQ51, l51, y51, z51⟩, st51⟩ := Jvm.LawKit.callS X50 hx (y := (⟨"java/lang/Math", "max", "(JJ)J"⟩ : MethodName)) hown (mvT hZ (hw _ (List.mem_of_getElem? (i := 49) rfl))) (mvT hZ (hw _ (List.mem_of_getElem? (i := 22) rfl))) (mvT hZ (hw _ (List.mem_of_getElem? (i := 23) rfl))) (mvT hZ (hw _ (List.mem_of_getElem? (i := 24) rfl))) (by decide) (backOf (W := 0) (own_rm_mx l Z a0 hw [] (own_mx (0 : Int64) va) vb  T50.heap n0 Z50 ) hZ (hw _ (List.mem_of_getElem? (i := 24) rfl)) (hw _ (List.mem_of_getElem? (i := 23) rfl)) (by decide) (by decide)) (g := (mkF m 118 #[.val (.long va), .second, .val (.long vb), .second, .val (.int vc), .val (.int (1 : Int32)), .val (.int (1 : Int32)), .val (.ref b40), .val (.ref b42), .val (.ref b44), .val (.long (2 : Int64)), .second, .val (.long (own_mx (0 : Int64) va)), .second] [(.long vb), (.long (own_mx (0 : Int64) va))])) rfl (by rw [hml]; rfl) (argsL := [(.long (own_mx (0 : Int64) va)), (.long vb)]) (rest := []) (lenOf own_pd2 rfl) rfl (by show 2 * 0 + _ ≤ _; exact Nat.le_of_eq rfl) (hb hby at_118) (fun _ _ => ⟨rfl, rfl, (by decide : 6 + 0 ≤ _), (by decide : 11337 + 0 ≤ _)⟩)
      dsimp only [Pt.U, Pt.locs, Pt.cells, Pt.slots] at X51 l51 y51 z51 st51 hQ51
      subst l51 y51 z51
      obtain ⟨rfl, N51q, e51⟩ := hQ51
      refine own_Fin.go (fun t k => st51 t k) ?_
      have N51 := Fr.app N50 N51q
      show own_Fin _ _ _ _ _ _ _ (T51.setTop (mkF m 121 #[.val (.long va), .second, .val (.long vb), .second, .val (.int vc), .val (.int (1 : Int32)), .val (.int (1 : Int32)), .val (.ref b40), .val (.ref b42), .val (.ref b44), .val (.long (2 : Int64)), .second, .val (.long (own_mx (0 : Int64) va)), .second] [(.long (own_mx (own_mx (0 : Int64) va) vb))]))
      refine own_Fin.go (fun t k => XS.lstore X51.here hx rfl (hb hby at_121) rfl (l' := #[.val (.long va), .second, .val (.long vb), .second, .val (.int vc), .val (.int (1 : Int32)), .val (.int (1 : Int32)), .val (.ref b40), .val (.ref b42), .val (.ref b44), .val (.long (2 : Int64)), .second, .val (.long (own_mx (own_mx (0 : Int64) va) vb)), .second]) rfl k) ?_
      show own_Fin _ _ _ _ _ _ _ (T51.setTop (mkF m 123 #[.val (.long va), .second, .val (.long vb), .second, .val (.int vc), .val (.int (1 : Int32)), .val (.int (1 : Int32)), .val (.ref b40), .val (.ref b42), .val (.ref b44), .val (.long (2 : Int64)), .second, .val (.long (own_mx (own_mx (0 : Int64) va) vb)), .second] []))
      refine own_Fin.go (fun t k => XS.aload X51.here hx rfl (hb hby at_123) rfl rfl k) ?_
      show own_Fin _ _ _ _ _ _ _ (T51.setTop (mkF m 125 #[.val (.long va), .second, .val (.long vb), .second, .val (.int vc), .val (.int (1 : Int32)), .val (.int (1 : Int32)), .val (.ref b40), .val (.ref b42), .val (.ref b44), .val (.long (2 : Int64)), .second, .val (.long (own_mx (own_mx (0 : Int64) va) vb)), .second] [(.ref b40)]))
      refine own_Fin.go (fun t k => XS.aload X51.here hx rfl (hb hby at_125) rfl rfl k) ?_
      show own_Fin _ _ _ _ _ _ _ (T51.setTop (mkF m 127 #[.val (.long va), .second, .val (.long vb), .second, .val (.int vc), .val (.int (1 : Int32)), .val (.int (1 : Int32)), .val (.ref b40), .val (.ref b42), .val (.ref b44), .val (.long (2 : Int64)), .second, .val (.long (own_mx (own_mx (0 : Int64) va) vb)), .second] [(.ref b42), (.ref b40)]))
      obtain ⟨cq52, kq52, q52a, q52b, q52c⟩ := isOf hZ e51 E_b40_50
      obtain ⟨_, _, ⟨T52, L52, k52, n52⟩, -, X52, ⟨Lc52, hQ52, l52, y52, z52⟩, st52⟩ := X51.virtualBack hx (y := (⟨"com/example/canopy/canopy/bench/LatencyHistogram", "add", "(Lcom/example/canopy/canopy/bench/LatencyHistogram;)V"⟩ : MethodName)) (z := (⟨"com/example/canopy/canopy/bench/LatencyHistogram", "add", "(Lcom/example/canopy/canopy/bench/LatencyHistogram;)V"⟩ : MethodName)) hown (mvT hZ (hw _ (List.mem_of_getElem? (i := 12) rfl))) (mvT hZ (hw _ (List.mem_of_getElem? (i := 13) rfl))) (notFace_of_selects (args := #[]) (mvT hZ (hw _ (List.mem_of_getElem? (i := 15) rfl)))) (mvT hZ (hw _ (List.mem_of_getElem? (i := 15) rfl))) (mvT hZ (hw _ (List.mem_of_getElem? (i := 14) rfl))) (by decide) (backOf (W := 0) (own_rm_add l Z a0 hw [] b40 b42 ob41 kb41 ((0 : Int64) + (1 : Int64)) (own_mx (0 : Int64) (own_mx (0 : Int64) va)) (own_up own_zero (own_bkt (own_mx (0 : Int64) va)).toNatClampNeg (own_zero (own_bkt (own_mx (0 : Int64) va)).toNatClampNeg + (1 : Int64))) ob43 kb43 ((0 : Int64) + (1 : Int64)) (own_mx (0 : Int64) (own_mx (0 : Int64) vb)) (own_up own_zero (own_bkt (own_mx (0 : Int64) vb)).toNatClampNeg (own_zero (own_bkt (own_mx (0 : Int64) vb)).toNatClampNeg + (1 : Int64))) T50.heap n0 Z50 E_b40_50 F_b40_counts_50 F_b40_count_50 F_b40_max_50 V_ob41_50 g_b40 g_ob41 c41_7 E_b42_50 F_b42_counts_50 F_b42_count_50 F_b42_max_50 V_ob43_50 ne_b40_b42 (Ne.symm ne_ob41_b42) ne_b40_ob43 (Ne.symm ne_ob41_ob43)) hZ (hw _ (List.mem_of_getElem? (i := 16) rfl)) (hw _ (List.mem_of_getElem? (i := 2) rfl)) (by decide) (by decide)) q52a q52c (g := (mkF m 127 #[.val (.long va), .second, .val (.long vb), .second, .val (.int vc), .val (.int (1 : Int32)), .val (.int (1 : Int32)), .val (.ref b40), .val (.ref b42), .val (.ref b44), .val (.long (2 : Int64)), .second, .val (.long (own_mx (own_mx (0 : Int64) va) vb)), .second] [(.ref b42), (.ref b40)])) rfl (by rw [hml]; rfl) (Steps.refl _) (argsL := [(.ref b42)]) (rest := []) (lenOf own_pd5 rfl) rfl (by show 2 * 0 + _ ≤ _; exact Nat.le_of_eq rfl) (hb hby at_127) (fun _ _ => ⟨rfl, e51, (by decide : 6 + 0 ≤ _), (by decide : 11337 + 0 ≤ _)⟩)
      dsimp only [Pt.U, Pt.locs, Pt.cells, Pt.slots] at X52 l52 y52 z52 st52 hQ52
      subst l52 y52 z52
      obtain ⟨rfl, N52q, K52q, c52_1, c52_2, c52_3, c52_4, c52_5⟩ := hQ52
      refine own_Fin.go (fun t k => st52.trans k) ?_
      have N52 := Fr.app N51 N52q
      have E_b42_52 := E_b42_50.keep K52q
      have F_b42_counts_52 := F_b42_counts_50.keep K52q (ninS (Ne.symm ne_b40_b42) (ninS (Ne.symm ne_ob41_b42) nin0))
      have F_b42_count_52 := F_b42_count_50.keep K52q (ninS (Ne.symm ne_b40_b42) (ninS (Ne.symm ne_ob41_b42) nin0))
      have F_b42_max_52 := F_b42_max_50.keep K52q (ninS (Ne.symm ne_b40_b42) (ninS (Ne.symm ne_ob41_b42) nin0))
      have V_ob43_52 := V_ob43_50.keep K52q (ninS (Ne.symm ne_b40_ob43) (ninS (Ne.symm ne_ob41_ob43) nin0))
      have E_b44_52 := c50_1.keep K52q
      have F_b44_counts_52 := c50_2.keep K52q (ninS (Ne.symm ne_b40_b44) (ninS (Ne.symm ne_ob41_b44) nin0))
      have F_b44_count_52 := c50_3.keep K52q (ninS (Ne.symm ne_b40_b44) (ninS (Ne.symm ne_ob41_b44) nin0))
      have F_b44_max_52 := c50_4.keep K52q (ninS (Ne.symm ne_b40_b44) (ninS (Ne.symm ne_ob41_b44) nin0))
      have V_ob45_52 := c50_5.keep K52q (ninS (Ne.symm ne_b40_ob45) (ninS (Ne.symm ne_ob41_ob45) nin0))
      have Z52 := Nat.le_trans Z50 K52q.1
      show own_Fin _ _ _ _ _ _ _ (T52.setTop (mkF m 130 #[.val (.long va), .second, .val (.long vb), .second, .val (.int vc), .val (.int (1 : Int32)), .val (.int (1 : Int32)), .val (.ref b40), .val (.ref b42), .val (.ref b44), .val (.long (2 : Int64)), .second, .val (.long (own_mx (own_mx (0 : Int64) va) vb)), .second] []))
      refine own_Fin.go (fun t k => XS.aload X52.here hx rfl (hb hby at_130) rfl rfl k) ?_
      show own_Fin _ _ _ _ _ _ _ (T52.setTop (mkF m 132 #[.val (.long va), .second, .val (.long vb), .second, .val (.int vc), .val (.int (1 : Int32)), .val (.int (1 : Int32)), .val (.ref b40), .val (.ref b42), .val (.ref b44), .val (.long (2 : Int64)), .second, .val (.long (own_mx (own_mx (0 : Int64) va) vb)), .second] [(.ref b40)]))
      obtain ⟨cq53, kq53, q53a, q53b, q53c⟩ := isOf hZ rfl c52_1
      obtain ⟨_, _, ⟨T53, L53, k53, n53⟩, -, X53, ⟨Lc53, hQ53, l53, y53, z53⟩, st53⟩ := X52.virtualBack hx (y := (⟨"com/example/canopy/canopy/bench/LatencyHistogram", "count", "()J"⟩ : MethodName)) (z := (⟨"com/example/canopy/canopy/bench/LatencyHistogram", "count", "()J"⟩ : MethodName)) hown (mvT hZ (hw _ (List.mem_of_getElem? (i := 25) rfl))) (mvT hZ (hw _ (List.mem_of_getElem? (i := 26) rfl))) (notFace_of_selects (args := #[]) (mvT hZ (hw _ (List.mem_of_getElem? (i := 28) rfl)))) (mvT hZ (hw _ (List.mem_of_getElem? (i := 28) rfl))) (mvT hZ (hw _ (List.mem_of_getElem? (i := 27) rfl))) (by decide) (backOf (W := 0) (own_rm_cnt l Z a0 hw [] b40 (((0 : Int64) + (1 : Int64)) + ((0 : Int64) + (1 : Int64))) T52.heap n0 Z52 c52_1 c52_3) hZ (hw _ (List.mem_of_getElem? (i := 29) rfl)) (hw _ (List.mem_of_getElem? (i := 2) rfl)) (by decide) (by decide)) q53a q53c (g := (mkF m 132 #[.val (.long va), .second, .val (.long vb), .second, .val (.int vc), .val (.int (1 : Int32)), .val (.int (1 : Int32)), .val (.ref b40), .val (.ref b42), .val (.ref b44), .val (.long (2 : Int64)), .second, .val (.long (own_mx (own_mx (0 : Int64) va) vb)), .second] [(.ref b40)])) rfl (by rw [hml]; rfl) (Steps.refl _) (argsL := []) (rest := []) (lenOf own_pd6 rfl) rfl (by show 2 * 0 + _ ≤ _; exact Nat.le_of_eq rfl) (hb hby at_132) (fun _ _ => ⟨rfl, rfl, (by decide : 6 + 0 ≤ _), (by decide : 11337 + 0 ≤ _)⟩)
      dsimp only [Pt.U, Pt.locs, Pt.cells, Pt.slots] at X53 l53 y53 z53 st53 hQ53
      subst l53 y53 z53
      obtain ⟨rfl, N53q, e53⟩ := hQ53
      refine own_Fin.go (fun t k => st53.trans k) ?_
      have N53 := Fr.app N52 N53q
      show own_Fin _ _ _ _ _ _ _ (T53.setTop (mkF m 135 #[.val (.long va), .second, .val (.long vb), .second, .val (.int vc), .val (.int (1 : Int32)), .val (.int (1 : Int32)), .val (.ref b40), .val (.ref b42), .val (.ref b44), .val (.long (2 : Int64)), .second, .val (.long (own_mx (own_mx (0 : Int64) va) vb)), .second] [(.long (((0 : Int64) + (1 : Int64)) + ((0 : Int64) + (1 : Int64))))]))
      refine own_Fin.go (fun t k => XS.lload X53.here hx rfl (hb hby at_135) rfl k) ?_
      show own_Fin _ _ _ _ _ _ _ (T53.setTop (mkF m 137 #[.val (.long va), .second, .val (.long vb), .second, .val (.int vc), .val (.int (1 : Int32)), .val (.int (1 : Int32)), .val (.ref b40), .val (.ref b42), .val (.ref b44), .val (.long (2 : Int64)), .second, .val (.long (own_mx (own_mx (0 : Int64) va) vb)), .second] [(.long (2 : Int64)), (.long (((0 : Int64) + (1 : Int64)) + ((0 : Int64) + (1 : Int64))))]))
      refine own_Fin.go (fun t k => XS.lcmp X53.here hx rfl (hb hby at_137) rfl k) ?_
      show own_Fin _ _ _ _ _ _ _ (T53.setTop (mkF m 138 #[.val (.long va), .second, .val (.long vb), .second, .val (.int vc), .val (.int (1 : Int32)), .val (.int (1 : Int32)), .val (.ref b40), .val (.ref b42), .val (.ref b44), .val (.long (2 : Int64)), .second, .val (.long (own_mx (own_mx (0 : Int64) va) vb)), .second] [(.int (lcmpW (((0 : Int64) + (1 : Int64)) + ((0 : Int64) + (1 : Int64))) (2 : Int64)))]))
      have hc138 : (((0 : Int64) + (1 : Int64)) + ((0 : Int64) + (1 : Int64))) = (2 : Int64) := (by decide)
      refine own_Fin.go (fun t k => XS.ifNo X53.here hx rfl (hb hby at_138) rfl (Jvm.Free.XT.ll_ne_f hc138) k) ?_
      show own_Fin _ _ _ _ _ _ _ (T53.setTop (mkF m 141 #[.val (.long va), .second, .val (.long vb), .second, .val (.int vc), .val (.int (1 : Int32)), .val (.int (1 : Int32)), .val (.ref b40), .val (.ref b42), .val (.ref b44), .val (.long (2 : Int64)), .second, .val (.long (own_mx (own_mx (0 : Int64) va) vb)), .second] []))
      refine own_Fin.go (fun t k => XS.aload X53.here hx rfl (hb hby at_141) rfl rfl k) ?_
      show own_Fin _ _ _ _ _ _ _ (T53.setTop (mkF m 143 #[.val (.long va), .second, .val (.long vb), .second, .val (.int vc), .val (.int (1 : Int32)), .val (.int (1 : Int32)), .val (.ref b40), .val (.ref b42), .val (.ref b44), .val (.long (2 : Int64)), .second, .val (.long (own_mx (own_mx (0 : Int64) va) vb)), .second] [(.ref b40)]))
      obtain ⟨cq54, kq54, q54a, q54b, q54c⟩ := isOf hZ e53 c52_1
      obtain ⟨_, _, ⟨T54, L54, k54, n54⟩, -, X54, ⟨Lc54, hQ54, l54, y54, z54⟩, st54⟩ := X53.virtualBack hx (y := (⟨"com/example/canopy/canopy/bench/LatencyHistogram", "max", "()J"⟩ : MethodName)) (z := (⟨"com/example/canopy/canopy/bench/LatencyHistogram", "max", "()J"⟩ : MethodName)) hown (mvT hZ (hw _ (List.mem_of_getElem? (i := 30) rfl))) (mvT hZ (hw _ (List.mem_of_getElem? (i := 31) rfl))) (notFace_of_selects (args := #[]) (mvT hZ (hw _ (List.mem_of_getElem? (i := 33) rfl)))) (mvT hZ (hw _ (List.mem_of_getElem? (i := 33) rfl))) (mvT hZ (hw _ (List.mem_of_getElem? (i := 32) rfl))) (by decide) (backOf (W := 0) (own_rm_max l Z a0 hw [] b40 (own_mx (own_mx (0 : Int64) (own_mx (0 : Int64) va)) (own_mx (0 : Int64) (own_mx (0 : Int64) vb))) T52.heap n0 Z52 c52_1 c52_4) hZ (hw _ (List.mem_of_getElem? (i := 34) rfl)) (hw _ (List.mem_of_getElem? (i := 2) rfl)) (by decide) (by decide)) q54a q54c (g := (mkF m 143 #[.val (.long va), .second, .val (.long vb), .second, .val (.int vc), .val (.int (1 : Int32)), .val (.int (1 : Int32)), .val (.ref b40), .val (.ref b42), .val (.ref b44), .val (.long (2 : Int64)), .second, .val (.long (own_mx (own_mx (0 : Int64) va) vb)), .second] [(.ref b40)])) rfl (by rw [hml]; rfl) (Steps.refl _) (argsL := []) (rest := []) (lenOf own_pd6 rfl) rfl (by show 2 * 0 + _ ≤ _; exact Nat.le_of_eq rfl) (hb hby at_143) (fun _ _ => ⟨rfl, e53, (by decide : 6 + 0 ≤ _), (by decide : 11337 + 0 ≤ _)⟩)
      dsimp only [Pt.U, Pt.locs, Pt.cells, Pt.slots] at X54 l54 y54 z54 st54 hQ54
      subst l54 y54 z54
      obtain ⟨rfl, N54q, e54⟩ := hQ54
      refine own_Fin.go (fun t k => st54.trans k) ?_
      have N54 := Fr.app N53 N54q
      show own_Fin _ _ _ _ _ _ _ (T54.setTop (mkF m 146 #[.val (.long va), .second, .val (.long vb), .second, .val (.int vc), .val (.int (1 : Int32)), .val (.int (1 : Int32)), .val (.ref b40), .val (.ref b42), .val (.ref b44), .val (.long (2 : Int64)), .second, .val (.long (own_mx (own_mx (0 : Int64) va) vb)), .second] [(.long (own_mx (own_mx (0 : Int64) (own_mx (0 : Int64) va)) (own_mx (0 : Int64) (own_mx (0 : Int64) vb))))]))
      refine own_Fin.go (fun t k => XS.lload X54.here hx rfl (hb hby at_146) rfl k) ?_
      show own_Fin _ _ _ _ _ _ _ (T54.setTop (mkF m 148 #[.val (.long va), .second, .val (.long vb), .second, .val (.int vc), .val (.int (1 : Int32)), .val (.int (1 : Int32)), .val (.ref b40), .val (.ref b42), .val (.ref b44), .val (.long (2 : Int64)), .second, .val (.long (own_mx (own_mx (0 : Int64) va) vb)), .second] [(.long (own_mx (own_mx (0 : Int64) va) vb)), (.long (own_mx (own_mx (0 : Int64) (own_mx (0 : Int64) va)) (own_mx (0 : Int64) (own_mx (0 : Int64) vb))))]))
      refine own_Fin.go (fun t k => XS.lcmp X54.here hx rfl (hb hby at_148) rfl k) ?_
      show own_Fin _ _ _ _ _ _ _ (T54.setTop (mkF m 149 #[.val (.long va), .second, .val (.long vb), .second, .val (.int vc), .val (.int (1 : Int32)), .val (.int (1 : Int32)), .val (.ref b40), .val (.ref b42), .val (.ref b44), .val (.long (2 : Int64)), .second, .val (.long (own_mx (own_mx (0 : Int64) va) vb)), .second] [(.int (lcmpW (own_mx (own_mx (0 : Int64) (own_mx (0 : Int64) va)) (own_mx (0 : Int64) (own_mx (0 : Int64) vb))) (own_mx (own_mx (0 : Int64) va) vb)))]))
      have hc149 : (own_mx (own_mx (0 : Int64) (own_mx (0 : Int64) va)) (own_mx (0 : Int64) (own_mx (0 : Int64) vb))) = (own_mx (own_mx (0 : Int64) va) vb) := own_m3 va vb
      refine own_Fin.go (fun t k => XS.ifNo X54.here hx rfl (hb hby at_149) rfl (Jvm.Free.XT.ll_ne_f hc149) k) ?_
      show own_Fin _ _ _ _ _ _ _ (T54.setTop (mkF m 152 #[.val (.long va), .second, .val (.long vb), .second, .val (.int vc), .val (.int (1 : Int32)), .val (.int (1 : Int32)), .val (.ref b40), .val (.ref b42), .val (.ref b44), .val (.long (2 : Int64)), .second, .val (.long (own_mx (own_mx (0 : Int64) va) vb)), .second] []))
      refine own_Fin.go (fun t k => XS.aload X54.here hx rfl (hb hby at_152) rfl rfl k) ?_
      show own_Fin _ _ _ _ _ _ _ (T54.setTop (mkF m 154 #[.val (.long va), .second, .val (.long vb), .second, .val (.int vc), .val (.int (1 : Int32)), .val (.int (1 : Int32)), .val (.ref b40), .val (.ref b42), .val (.ref b44), .val (.long (2 : Int64)), .second, .val (.long (own_mx (own_mx (0 : Int64) va) vb)), .second] [(.ref b40)]))
      refine own_Fin.go (fun t k => XS.dconst0 X54.here hx rfl (hb hby at_154) rfl k) ?_
      show own_Fin _ _ _ _ _ _ _ (T54.setTop (mkF m 155 #[.val (.long va), .second, .val (.long vb), .second, .val (.int vc), .val (.int (1 : Int32)), .val (.int (1 : Int32)), .val (.ref b40), .val (.ref b42), .val (.ref b44), .val (.long (2 : Int64)), .second, .val (.long (own_mx (own_mx (0 : Int64) va) vb)), .second] [(.double Jvm.FP.dconst0), (.ref b40)]))
      obtain ⟨cq55, kq55, q55a, q55b, q55c⟩ := isOf hZ e54 c52_1
      obtain ⟨_, _, ⟨T55, L55, k55, n55⟩, -, X55, ⟨Lc55, hQ55, l55, y55, z55⟩, st55⟩ := X54.virtualBack hx (y := (⟨"com/example/canopy/canopy/bench/LatencyHistogram", "percentile", "(D)J"⟩ : MethodName)) (z := (⟨"com/example/canopy/canopy/bench/LatencyHistogram", "percentile", "(D)J"⟩ : MethodName)) hown (mvT hZ (hw _ (List.mem_of_getElem? (i := 35) rfl))) (mvT hZ (hw _ (List.mem_of_getElem? (i := 36) rfl))) (notFace_of_selects (args := #[]) (mvT hZ (hw _ (List.mem_of_getElem? (i := 38) rfl)))) (mvT hZ (hw _ (List.mem_of_getElem? (i := 38) rfl))) (mvT hZ (hw _ (List.mem_of_getElem? (i := 37) rfl))) (by decide) (backOf (W := 0) (own_rm_pct l Z a0 hw [] b40 ob41 kb41 (((0 : Int64) + (1 : Int64)) + ((0 : Int64) + (1 : Int64))) (own_mx (own_mx (0 : Int64) (own_mx (0 : Int64) va)) (own_mx (0 : Int64) (own_mx (0 : Int64) vb))) (own_mix (own_up own_zero (own_bkt (own_mx (0 : Int64) va)).toNatClampNeg (own_zero (own_bkt (own_mx (0 : Int64) va)).toNatClampNeg + (1 : Int64))) (own_up own_zero (own_bkt (own_mx (0 : Int64) vb)).toNatClampNeg (own_zero (own_bkt (own_mx (0 : Int64) vb)).toNatClampNeg + (1 : Int64))) 3776) T52.heap n0 Z52 c52_1 c52_2 c52_3 c52_4 c52_5 (by decide)) hZ (hw _ (List.mem_of_getElem? (i := 39) rfl)) (hw _ (List.mem_of_getElem? (i := 2) rfl)) (by decide) (by decide)) q55a q55c (g := (mkF m 155 #[.val (.long va), .second, .val (.long vb), .second, .val (.int vc), .val (.int (1 : Int32)), .val (.int (1 : Int32)), .val (.ref b40), .val (.ref b42), .val (.ref b44), .val (.long (2 : Int64)), .second, .val (.long (own_mx (own_mx (0 : Int64) va) vb)), .second] [(.double Jvm.FP.dconst0), (.ref b40)])) rfl (by rw [hml]; rfl) (Steps.refl _) (argsL := [(.double Jvm.FP.dconst0)]) (rest := []) (lenOf own_pd7 rfl) rfl (by show 2 * 0 + _ ≤ _; exact Nat.le_of_eq rfl) (hb hby at_155) (fun _ _ => ⟨rfl, e54, (by decide : 6 + 0 ≤ _), (by decide : 11337 + 0 ≤ _)⟩)
      dsimp only [Pt.U, Pt.locs, Pt.cells, Pt.slots] at X55 l55 y55 z55 st55 hQ55
      subst l55 y55 z55
      obtain ⟨rfl, N55q, e55⟩ := hQ55
      refine own_Fin.go (fun t k => st55.trans k) ?_
      have N55 := Fr.app N54 N55q
      show own_Fin _ _ _ _ _ _ _ (T55.setTop (mkF m 158 #[.val (.long va), .second, .val (.long vb), .second, .val (.int vc), .val (.int (1 : Int32)), .val (.int (1 : Int32)), .val (.ref b40), .val (.ref b42), .val (.ref b44), .val (.long (2 : Int64)), .second, .val (.long (own_mx (own_mx (0 : Int64) va) vb)), .second] [(.long (own_pct (own_mix (own_up own_zero (own_bkt (own_mx (0 : Int64) va)).toNatClampNeg (own_zero (own_bkt (own_mx (0 : Int64) va)).toNatClampNeg + (1 : Int64))) (own_up own_zero (own_bkt (own_mx (0 : Int64) vb)).toNatClampNeg (own_zero (own_bkt (own_mx (0 : Int64) vb)).toNatClampNeg + (1 : Int64))) 3776) (((0 : Int64) + (1 : Int64)) + ((0 : Int64) + (1 : Int64))) (own_mx (own_mx (0 : Int64) (own_mx (0 : Int64) va)) (own_mx (0 : Int64) (own_mx (0 : Int64) vb)))))]))
      refine own_Fin.go (fun t k => XS.aload X55.here hx rfl (hb hby at_158) rfl rfl k) ?_
      show own_Fin _ _ _ _ _ _ _ (T55.setTop (mkF m 160 #[.val (.long va), .second, .val (.long vb), .second, .val (.int vc), .val (.int (1 : Int32)), .val (.int (1 : Int32)), .val (.ref b40), .val (.ref b42), .val (.ref b44), .val (.long (2 : Int64)), .second, .val (.long (own_mx (own_mx (0 : Int64) va) vb)), .second] [(.ref b44), (.long (own_pct (own_mix (own_up own_zero (own_bkt (own_mx (0 : Int64) va)).toNatClampNeg (own_zero (own_bkt (own_mx (0 : Int64) va)).toNatClampNeg + (1 : Int64))) (own_up own_zero (own_bkt (own_mx (0 : Int64) vb)).toNatClampNeg (own_zero (own_bkt (own_mx (0 : Int64) vb)).toNatClampNeg + (1 : Int64))) 3776) (((0 : Int64) + (1 : Int64)) + ((0 : Int64) + (1 : Int64))) (own_mx (own_mx (0 : Int64) (own_mx (0 : Int64) va)) (own_mx (0 : Int64) (own_mx (0 : Int64) vb)))))]))
      refine own_Fin.go (fun t k => XS.dconst0 X55.here hx rfl (hb hby at_160) rfl k) ?_
      show own_Fin _ _ _ _ _ _ _ (T55.setTop (mkF m 161 #[.val (.long va), .second, .val (.long vb), .second, .val (.int vc), .val (.int (1 : Int32)), .val (.int (1 : Int32)), .val (.ref b40), .val (.ref b42), .val (.ref b44), .val (.long (2 : Int64)), .second, .val (.long (own_mx (own_mx (0 : Int64) va) vb)), .second] [(.double Jvm.FP.dconst0), (.ref b44), (.long (own_pct (own_mix (own_up own_zero (own_bkt (own_mx (0 : Int64) va)).toNatClampNeg (own_zero (own_bkt (own_mx (0 : Int64) va)).toNatClampNeg + (1 : Int64))) (own_up own_zero (own_bkt (own_mx (0 : Int64) vb)).toNatClampNeg (own_zero (own_bkt (own_mx (0 : Int64) vb)).toNatClampNeg + (1 : Int64))) 3776) (((0 : Int64) + (1 : Int64)) + ((0 : Int64) + (1 : Int64))) (own_mx (own_mx (0 : Int64) (own_mx (0 : Int64) va)) (own_mx (0 : Int64) (own_mx (0 : Int64) vb)))))]))
      obtain ⟨cq56, kq56, q56a, q56b, q56c⟩ := isOf hZ e55 E_b44_52
      obtain ⟨_, _, ⟨T56, L56, k56, n56⟩, -, X56, ⟨Lc56, hQ56, l56, y56, z56⟩, st56⟩ := X55.virtualBack hx (y := (⟨"com/example/canopy/canopy/bench/LatencyHistogram", "percentile", "(D)J"⟩ : MethodName)) (z := (⟨"com/example/canopy/canopy/bench/LatencyHistogram", "percentile", "(D)J"⟩ : MethodName)) hown (mvT hZ (hw _ (List.mem_of_getElem? (i := 35) rfl))) (mvT hZ (hw _ (List.mem_of_getElem? (i := 36) rfl))) (notFace_of_selects (args := #[]) (mvT hZ (hw _ (List.mem_of_getElem? (i := 38) rfl)))) (mvT hZ (hw _ (List.mem_of_getElem? (i := 38) rfl))) (mvT hZ (hw _ (List.mem_of_getElem? (i := 37) rfl))) (by decide) (backOf (W := 2) (own_rm_pct l Z a0 hw [] b44 ob45 kb45 (((0 : Int64) + (1 : Int64)) + (1 : Int64)) (own_mx (own_mx (0 : Int64) (own_mx (0 : Int64) va)) (own_mx (0 : Int64) vb)) (own_up (own_up own_zero (own_bkt (own_mx (0 : Int64) va)).toNatClampNeg (own_zero (own_bkt (own_mx (0 : Int64) va)).toNatClampNeg + (1 : Int64))) (own_bkt (own_mx (0 : Int64) vb)).toNatClampNeg ((own_up own_zero (own_bkt (own_mx (0 : Int64) va)).toNatClampNeg (own_zero (own_bkt (own_mx (0 : Int64) va)).toNatClampNeg + (1 : Int64))) (own_bkt (own_mx (0 : Int64) vb)).toNatClampNeg + (1 : Int64))) T52.heap n0 Z52 E_b44_52 F_b44_counts_52 F_b44_count_52 F_b44_max_52 V_ob45_52 (by decide)) hZ (hw _ (List.mem_of_getElem? (i := 39) rfl)) (hw _ (List.mem_of_getElem? (i := 2) rfl)) (by decide) (by decide)) q56a q56c (g := (mkF m 161 #[.val (.long va), .second, .val (.long vb), .second, .val (.int vc), .val (.int (1 : Int32)), .val (.int (1 : Int32)), .val (.ref b40), .val (.ref b42), .val (.ref b44), .val (.long (2 : Int64)), .second, .val (.long (own_mx (own_mx (0 : Int64) va) vb)), .second] [(.double Jvm.FP.dconst0), (.ref b44), (.long (own_pct (own_mix (own_up own_zero (own_bkt (own_mx (0 : Int64) va)).toNatClampNeg (own_zero (own_bkt (own_mx (0 : Int64) va)).toNatClampNeg + (1 : Int64))) (own_up own_zero (own_bkt (own_mx (0 : Int64) vb)).toNatClampNeg (own_zero (own_bkt (own_mx (0 : Int64) vb)).toNatClampNeg + (1 : Int64))) 3776) (((0 : Int64) + (1 : Int64)) + ((0 : Int64) + (1 : Int64))) (own_mx (own_mx (0 : Int64) (own_mx (0 : Int64) va)) (own_mx (0 : Int64) (own_mx (0 : Int64) vb)))))])) rfl (by rw [hml]; rfl) (Steps.refl _) (argsL := [(.double Jvm.FP.dconst0)]) (rest := [(.long (own_pct (own_mix (own_up own_zero (own_bkt (own_mx (0 : Int64) va)).toNatClampNeg (own_zero (own_bkt (own_mx (0 : Int64) va)).toNatClampNeg + (1 : Int64))) (own_up own_zero (own_bkt (own_mx (0 : Int64) vb)).toNatClampNeg (own_zero (own_bkt (own_mx (0 : Int64) vb)).toNatClampNeg + (1 : Int64))) 3776) (((0 : Int64) + (1 : Int64)) + ((0 : Int64) + (1 : Int64))) (own_mx (own_mx (0 : Int64) (own_mx (0 : Int64) va)) (own_mx (0 : Int64) (own_mx (0 : Int64) vb)))))]) (lenOf own_pd7 rfl) rfl (by show 2 * 0 + _ ≤ _; exact Nat.le_of_eq rfl) (hb hby at_161) (fun _ _ => ⟨rfl, e55, (by decide : 6 + 0 ≤ _), (by decide : 11337 + 0 ≤ _)⟩)
      dsimp only [Pt.U, Pt.locs, Pt.cells, Pt.slots] at X56 l56 y56 z56 st56 hQ56
      subst l56 y56 z56
      obtain ⟨rfl, N56q, e56⟩ := hQ56
      refine own_Fin.go (fun t k => st56.trans k) ?_
      have N56 := Fr.app N55 N56q
      show own_Fin _ _ _ _ _ _ _ (T56.setTop (mkF m 164 #[.val (.long va), .second, .val (.long vb), .second, .val (.int vc), .val (.int (1 : Int32)), .val (.int (1 : Int32)), .val (.ref b40), .val (.ref b42), .val (.ref b44), .val (.long (2 : Int64)), .second, .val (.long (own_mx (own_mx (0 : Int64) va) vb)), .second] [(.long (own_pct (own_up (own_up own_zero (own_bkt (own_mx (0 : Int64) va)).toNatClampNeg (own_zero (own_bkt (own_mx (0 : Int64) va)).toNatClampNeg + (1 : Int64))) (own_bkt (own_mx (0 : Int64) vb)).toNatClampNeg ((own_up own_zero (own_bkt (own_mx (0 : Int64) va)).toNatClampNeg (own_zero (own_bkt (own_mx (0 : Int64) va)).toNatClampNeg + (1 : Int64))) (own_bkt (own_mx (0 : Int64) vb)).toNatClampNeg + (1 : Int64))) (((0 : Int64) + (1 : Int64)) + (1 : Int64)) (own_mx (own_mx (0 : Int64) (own_mx (0 : Int64) va)) (own_mx (0 : Int64) vb)))), (.long (own_pct (own_mix (own_up own_zero (own_bkt (own_mx (0 : Int64) va)).toNatClampNeg (own_zero (own_bkt (own_mx (0 : Int64) va)).toNatClampNeg + (1 : Int64))) (own_up own_zero (own_bkt (own_mx (0 : Int64) vb)).toNatClampNeg (own_zero (own_bkt (own_mx (0 : Int64) vb)).toNatClampNeg + (1 : Int64))) 3776) (((0 : Int64) + (1 : Int64)) + ((0 : Int64) + (1 : Int64))) (own_mx (own_mx (0 : Int64) (own_mx (0 : Int64) va)) (own_mx (0 : Int64) (own_mx (0 : Int64) vb)))))]))
      refine own_Fin.go (fun t k => XS.lcmp X56.here hx rfl (hb hby at_164) rfl k) ?_
      show own_Fin _ _ _ _ _ _ _ (T56.setTop (mkF m 165 #[.val (.long va), .second, .val (.long vb), .second, .val (.int vc), .val (.int (1 : Int32)), .val (.int (1 : Int32)), .val (.ref b40), .val (.ref b42), .val (.ref b44), .val (.long (2 : Int64)), .second, .val (.long (own_mx (own_mx (0 : Int64) va) vb)), .second] [(.int (lcmpW (own_pct (own_mix (own_up own_zero (own_bkt (own_mx (0 : Int64) va)).toNatClampNeg (own_zero (own_bkt (own_mx (0 : Int64) va)).toNatClampNeg + (1 : Int64))) (own_up own_zero (own_bkt (own_mx (0 : Int64) vb)).toNatClampNeg (own_zero (own_bkt (own_mx (0 : Int64) vb)).toNatClampNeg + (1 : Int64))) 3776) (((0 : Int64) + (1 : Int64)) + ((0 : Int64) + (1 : Int64))) (own_mx (own_mx (0 : Int64) (own_mx (0 : Int64) va)) (own_mx (0 : Int64) (own_mx (0 : Int64) vb)))) (own_pct (own_up (own_up own_zero (own_bkt (own_mx (0 : Int64) va)).toNatClampNeg (own_zero (own_bkt (own_mx (0 : Int64) va)).toNatClampNeg + (1 : Int64))) (own_bkt (own_mx (0 : Int64) vb)).toNatClampNeg ((own_up own_zero (own_bkt (own_mx (0 : Int64) va)).toNatClampNeg (own_zero (own_bkt (own_mx (0 : Int64) va)).toNatClampNeg + (1 : Int64))) (own_bkt (own_mx (0 : Int64) vb)).toNatClampNeg + (1 : Int64))) (((0 : Int64) + (1 : Int64)) + (1 : Int64)) (own_mx (own_mx (0 : Int64) (own_mx (0 : Int64) va)) (own_mx (0 : Int64) vb)))))]))
      have hc165 : (own_pct (own_mix (own_up own_zero (own_bkt (own_mx (0 : Int64) va)).toNatClampNeg (own_zero (own_bkt (own_mx (0 : Int64) va)).toNatClampNeg + (1 : Int64))) (own_up own_zero (own_bkt (own_mx (0 : Int64) vb)).toNatClampNeg (own_zero (own_bkt (own_mx (0 : Int64) vb)).toNatClampNeg + (1 : Int64))) 3776) (((0 : Int64) + (1 : Int64)) + ((0 : Int64) + (1 : Int64))) (own_mx (own_mx (0 : Int64) (own_mx (0 : Int64) va)) (own_mx (0 : Int64) (own_mx (0 : Int64) vb)))) = (own_pct (own_up (own_up own_zero (own_bkt (own_mx (0 : Int64) va)).toNatClampNeg (own_zero (own_bkt (own_mx (0 : Int64) va)).toNatClampNeg + (1 : Int64))) (own_bkt (own_mx (0 : Int64) vb)).toNatClampNeg ((own_up own_zero (own_bkt (own_mx (0 : Int64) va)).toNatClampNeg (own_zero (own_bkt (own_mx (0 : Int64) va)).toNatClampNeg + (1 : Int64))) (own_bkt (own_mx (0 : Int64) vb)).toNatClampNeg + (1 : Int64))) (((0 : Int64) + (1 : Int64)) + (1 : Int64)) (own_mx (own_mx (0 : Int64) (own_mx (0 : Int64) va)) (own_mx (0 : Int64) vb))) := own_pe (own_c3 _ _ (own_kb vb)) (by decide) (own_m4 va vb)
      refine own_Fin.go (fun t k => XS.ifNo X56.here hx rfl (hb hby at_165) rfl (Jvm.Free.XT.ll_ne_f hc165) k) ?_
      show own_Fin _ _ _ _ _ _ _ (T56.setTop (mkF m 168 #[.val (.long va), .second, .val (.long vb), .second, .val (.int vc), .val (.int (1 : Int32)), .val (.int (1 : Int32)), .val (.ref b40), .val (.ref b42), .val (.ref b44), .val (.long (2 : Int64)), .second, .val (.long (own_mx (own_mx (0 : Int64) va) vb)), .second] []))
      refine own_Fin.go (fun t k => XS.iconst X56.here hx rfl (hb hby at_168) k) ?_
      show own_Fin _ _ _ _ _ _ _ (T56.setTop (mkF m 169 #[.val (.long va), .second, .val (.long vb), .second, .val (.int vc), .val (.int (1 : Int32)), .val (.int (1 : Int32)), .val (.ref b40), .val (.ref b42), .val (.ref b44), .val (.long (2 : Int64)), .second, .val (.long (own_mx (own_mx (0 : Int64) va) vb)), .second] [(.int (1 : Int32))]))
      refine own_Fin.go (fun t k => XS.goto X56.here hx rfl (pc0 := 169) (pc' := 173) rfl (hb hby at_169) (by decide) (by decide) k) ?_
      show own_Fin _ _ _ _ _ _ _ (T56.setTop (mkF m 173 #[.val (.long va), .second, .val (.long vb), .second, .val (.int vc), .val (.int (1 : Int32)), .val (.int (1 : Int32)), .val (.ref b40), .val (.ref b42), .val (.ref b44), .val (.long (2 : Int64)), .second, .val (.long (own_mx (own_mx (0 : Int64) va) vb)), .second] [(.int (1 : Int32))]))
      refine own_retN X56 hx (t := .boolean) (w := (1 : Int32)) Bd.returns (by simp) (hb hby at_173) Bd.notSynchronized rfl (by decide) (by decide) ?_
      rw [e56]
      exact ⟨rfl, N56⟩
set_option maxRecDepth 65536 in
set_option maxHeartbeats 40000000 in
theorem comes_1 {Post : Tables → Env → Array Value → State → Outcome → State → Prop} (hpost : ∀ tb e args s v u, (limb_1_1.after args s (.returned v) u = true ∧ limb_1_2.after args s (.returned v) u = true ∧ True) → FrameEnd s (.returned v) u (Jvm.fieldLocs frame_1_writes args s ++ Jvm.arrayLocs frame_1_arrays args s ++ Jvm.staticLocs frame_1_statics s) 24 22784 → Post tb e args s (.returned v) u) :
    ArmFor flags0 classFile x code maxLocals ret World_1 tables_1 room_1 Calls_1 rest_1 Pre_1 Post := by
  intro l hfl _ _ p e ha hc hk s m args below hf hA hF happ hP
  obtain ⟨hcalls, hrest, hpre⟩ := hP
  obtain ⟨-, -, -, hnamed, -, -, -, hat⟩ := (Spec.applies_iff hf).mp happ
  obtain ⟨hg, hn⟩ := and_e (Cond.before_iff.mp (show (Jvm.Cond.and given_1 narrow_1).before args s = true from hpre))
  obtain ⟨hg0, hr0⟩ := and_e hg
  obtain ⟨hg1, hr1⟩ := and_e hr0
  obtain ⟨hg2, hr2⟩ := and_e hr1
  obtain ⟨w0, w1, w2, rfl⟩ : ∃ w0 w1 w2 : Value, args = #[w0, w1, w2] := by
    have hs : args.size = 3 := by simpa [Cond.value, given_1] using hg0
    obtain ⟨L⟩ := args
    match L, hs with
    | [w0, w1, w2], _ => exact ⟨w0, w1, w2, rfl⟩
  have hw := fun d (hd : d ∈ tables_1) => atoms_spec (ws := Jvm.Cond.code x code maxLocals ret :: tables_1) hat d (List.mem_cons_of_mem _ hd)
  have hfit : Fit s := fun {y c} hc i hi => by
    obtain ⟨ha, rfl⟩ := Array.getElem?_eq_some_iff.mp hc
    have q := List.all_eq_true.mp ((Array.all_eq_true_iff_forall_mem.mp hF) _ (Array.getElem_mem ha)) i (List.mem_range.mpr hi)
    simpa [Array.getElem?_eq_getElem hi] using q
  obtain ⟨i0, ei0⟩ := isL_v hg1
  obtain rfl : w0 = (.long i0) := Option.some.inj ei0
  obtain ⟨i1, ei1⟩ := isL_v hg2
  obtain rfl : w1 = (.long i1) := Option.some.inj ei1
  obtain ⟨i2, ei2⟩ := is_v hr2
  obtain rfl : w2 = (.int i2) := Option.some.inj ei2
  obtain ⟨n, o, h1, h2, h3, _, L, rfl, ⟨rfl, N⟩, hq⟩ := own_rm_law l s _ hw tables_1 i0 i1 i2  s.heap s.heap.size (Nat.le_refl _)  p e ha hc hk s m _ below hf ((Spec.applies_iff_loose hf).mp happ).1 ⟨rfl, State.Warmed39.refl s, rfl⟩ trivial
  refine ⟨n, _, h1, h2, h3, hpost _ _ _ _ _ _ ⟨Cond.after_iff.mpr rfl, Cond.after_iff.mpr (eq_i res_at (Term.int_eval (1)) rfl), trivial⟩ ⟨hq.1, hq.2.1, (hq.2.2.sift fun y hy => Or.inr (N y hy)).mono (by decide) (by decide)⟩⟩
theorem main_1_1 : Claimed_1_1 := comes_1 fun _ _ _ _ _ _ h hF => ⟨h.1, hF⟩
theorem main_1_2 : Claimed_1_2 := comes_1 fun _ _ _ _ _ _ h hF => ⟨h.2.1, hF⟩
end Jvm.Pilot.@@N@@
namespace Jvm.Pilot.@@N@@
open Jvm Jvm.ClassFile Sem Op Lib Jvm.Free Jvm.Stand Jvm.Pilot.@@N@@.Jvm.D
/-! MADE BY PROGRAM (witnessworld.py) out of the Statement's table words and the real class files: 20 classes; the members and pool entries that the words name. The judged class is class 1, her method 1. -/
namespace start1
open Jvm.ClassFile
def u (s : String) : CpInfo := .utf8 (stringToUtf16 s)
/-- a pool by its gaps: so many unusable entries, then the entry; so many at the end -/
def gap : Nat → List CpInfo → List CpInfo
  | 0, r => r
  | n + 1, r => .unusable :: gap n r
def poolList (es : List (Nat × CpInfo)) (last : Nat) : List CpInfo := es.foldr (fun e r => gap e.1 (e.2 :: r)) (gap last [])
def pool (es : List (Nat × CpInfo)) (last : Nat) : Array CpInfo := ⟨poolList es last⟩
def fileOf (pool : Array CpInfo) (this : Nat) (attrs : Array Attribute := #[]) (ms : Array MethodInfo := #[]) (fl : Nat := 33) (sup : Nat := 0) (ifs : Array Nat := #[]) (fds : Array FieldInfo := #[]) : ClassFile where
  minorVersion := 0
  majorVersion := 65
  constantPool := pool
  accessFlags := fl
  thisClass := this
  superClass := sup
  interfaces := ifs
  fields := fds
  methods := ms
  attributes := attrs
def plain (name : String) (sup : Option ClassId) : Class where
  name := name
  kind := .ordinary
  loader := none
  accessFlags := 33
  super := sup
  interfaces := #[]
  cf := none
  fields := #[]
  methods := #[]
  instanceTypes := #[]
  staticTypes := #[]
  resolved := #[]
  callSites := []
  init := .initialized
  statics := none
  mirror := none

def pool0 : Array CpInfo := pool [(5, u "<init>"), (0, u "()V"), (1, .class_ 10), (1, u "java/lang/Object")] 113

def k0c0 : Code := { maxStack := 0, maxLocals := 1, code := object_method_1_code, exceptionTable := #[], attributes := #[] }
def k0m0 : Method := { name := "<init>", desc := "()V", sig := { parameters := [], returnType := none }, accessFlags := 1, code := some k0c0 }
/-- java/lang/Object -/
def k0 : Class := { plain "java/lang/Object" none with
  accessFlags := 33
  interfaces := #[]
  cf := some (fileOf pool0 8 #[] #[{ accessFlags := 1, nameIndex := 5, descriptorIndex := 6, attributes := #[] }] 33 0 #[] #[])
  fields := #[]
  methods := #[k0m0]
  instanceTypes := #[]
  staticTypes := #[]
  resolved := Array.replicate 124 none
  statics := none }

def pool1 : Array CpInfo := pool [(2, .class_ 4), (0, .nameAndType 5 6), (0, u "java/lang/Object"), (0, u "<init>"), (0, u "()V"), (0, .class_ 8), (0, u "com/example/canopy/canopy/bench/LatencyHistogram"), (0, .methodref 7 3), (0, .methodref 7 11), (0, .nameAndType 12 13), (0, u "record"), (0, u "(J)V"), (0, .methodref 15 16), (0, .class_ 17), (0, .nameAndType 18 19), (0, u "java/lang/Math"), (0, u "max"), (0, u "(JJ)J"), (0, .methodref 7 21), (0, .nameAndType 22 23), (0, u "add"), (0, u "(Lcom/example/canopy/canopy/bench/LatencyHistogram;)V"), (0, .methodref 7 25), (0, .nameAndType 26 27), (0, u "count"), (0, u "()J"), (0, .methodref 7 29), (0, .nameAndType 18 27), (0, .methodref 7 31), (0, .nameAndType 32 33), (0, u "percentile"), (0, u "(D)J"), (0, .class_ 35), (0, u "com/example/canopy/canopy/bench/LatencyHistogramAddPinLaw"), (2, u "law"), (0, u "(JJI)Z")] 3

def k1m0 : Method := { name := "<init>", desc := "()V", sig := { parameters := [], returnType := none }, accessFlags := 1, code := none }
def k1c1 : Code := { maxStack := 5, maxLocals := 14, code := code, exceptionTable := #[], attributes := #[] }
def k1m1 : Method := { name := "law", desc := "(JJI)Z", sig := { parameters := [.long, .long, .int], returnType := some .boolean }, accessFlags := 9, code := some k1c1 }
/-- com/example/canopy/canopy/bench/LatencyHistogramAddPinLaw -/
def k1 : Class := { plain "com/example/canopy/canopy/bench/LatencyHistogramAddPinLaw" (some 0) with
  accessFlags := 49
  interfaces := #[]
  cf := some (fileOf pool1 34 #[] #[{ accessFlags := 1, nameIndex := 5, descriptorIndex := 6, attributes := #[] }, { accessFlags := 9, nameIndex := 38, descriptorIndex := 39, attributes := #[] }] 49 2 #[] #[])
  fields := #[]
  methods := #[k1m0, k1m1]
  instanceTypes := #[]
  staticTypes := #[]
  resolved := Array.replicate 43 none
  statics := none }

def pool2 : Array CpInfo := pool [(1, .methodref 2 3), (0, .class_ 4), (0, .nameAndType 5 6), (0, u "java/lang/Object"), (0, u "<init>"), (0, u "()V"), (0, .class_ 8), (0, u "com/example/canopy/canopy/bench/LatencyHistogram"), (0, .class_ 10), (0, u "java/lang/Long"), (0, .fieldref 7 12), (0, .nameAndType 13 14), (0, u "counts"), (0, u "[J"), (0, .methodref 16 17), (0, .class_ 18), (0, .nameAndType 19 20), (0, u "java/lang/Math"), (0, u "max"), (0, u "(JJ)J"), (0, .methodref 7 22), (0, .nameAndType 23 24), (0, u "bucket"), (0, u "(J)I"), (0, .fieldref 7 26), (0, .nameAndType 27 28), (0, u "count"), (0, u "J"), (0, .fieldref 7 30), (0, .nameAndType 19 28), (0, .methodref 16 32), (0, .nameAndType 33 34), (0, u "ceil"), (0, u "(D)D"), (0, .methodref 7 36), (0, .nameAndType 37 38), (0, u "top"), (0, u "(I)J"), (0, .methodref 16 40), (0, .nameAndType 41 20), (0, u "min"), (0, .long 128), (1, .methodref 9 45), (0, .nameAndType 46 24), (0, u "numberOfLeadingZeros"), (0, u "EXACT"), (0, u "I"), (2, u "SUB_BUCKETS"), (1, u "EXACT_BITS"), (1, u "SUB_BITS"), (3, u "record"), (0, u "(J)V"), (0, u "add"), (0, u "(Lcom/example/canopy/canopy/bench/LatencyHistogram;)V"), (1, u "()J"), (0, u "percentile"), (0, u "(D)J")] 2

def k2c0 : Code := { maxStack := 2, maxLocals := 1, code := prog_3_method_1_code, exceptionTable := #[], attributes := #[] }
def k2m0 : Method := { name := "<init>", desc := "()V", sig := { parameters := [], returnType := none }, accessFlags := 0, code := some k2c0 }
def k2c1 : Code := { maxStack := 6, maxLocals := 5, code := prog_3_method_2_code, exceptionTable := #[], attributes := #[] }
def k2m1 : Method := { name := "record", desc := "(J)V", sig := { parameters := [.long], returnType := none }, accessFlags := 0, code := some k2c1 }
def k2c2 : Code := { maxStack := 6, maxLocals := 3, code := prog_3_method_3_code, exceptionTable := #[], attributes := #[] }
def k2m2 : Method := { name := "add", desc := "(Lcom/example/canopy/canopy/bench/LatencyHistogram;)V", sig := { parameters := [(.object "com/example/canopy/canopy/bench/LatencyHistogram")], returnType := none }, accessFlags := 0, code := some k2c2 }
def k2c3 : Code := { maxStack := 2, maxLocals := 1, code := prog_3_method_4_code, exceptionTable := #[], attributes := #[] }
def k2m3 : Method := { name := "count", desc := "()J", sig := { parameters := [], returnType := some .long }, accessFlags := 0, code := some k2c3 }
def k2c4 : Code := { maxStack := 2, maxLocals := 1, code := prog_3_method_5_code, exceptionTable := #[], attributes := #[] }
def k2m4 : Method := { name := "max", desc := "()J", sig := { parameters := [], returnType := some .long }, accessFlags := 0, code := some k2c4 }
def k2c5 : Code := { maxStack := 6, maxLocals := 8, code := prog_3_method_6_code, exceptionTable := #[], attributes := #[] }
def k2m5 : Method := { name := "percentile", desc := "(D)J", sig := { parameters := [.double], returnType := some .long }, accessFlags := 0, code := some k2c5 }
def k2c6 : Code := { maxStack := 4, maxLocals := 5, code := prog_3_method_7_code, exceptionTable := #[], attributes := #[] }
def k2m6 : Method := { name := "bucket", desc := "(J)I", sig := { parameters := [.long], returnType := some .int }, accessFlags := 10, code := some k2c6 }
def k2c7 : Code := { maxStack := 4, maxLocals := 5, code := prog_3_method_8_code, exceptionTable := #[], attributes := #[] }
def k2m7 : Method := { name := "top", desc := "(I)J", sig := { parameters := [.int], returnType := some .long }, accessFlags := 10, code := some k2c7 }
/-- com/example/canopy/canopy/bench/LatencyHistogram -/
def k2 : Class := { plain "com/example/canopy/canopy/bench/LatencyHistogram" (some 0) with
  accessFlags := 48
  interfaces := #[]
  cf := some (fileOf pool2 7 #[] #[{ accessFlags := 0, nameIndex := 5, descriptorIndex := 6, attributes := #[] }, { accessFlags := 0, nameIndex := 59, descriptorIndex := 60, attributes := #[] }, { accessFlags := 0, nameIndex := 61, descriptorIndex := 62, attributes := #[] }, { accessFlags := 0, nameIndex := 27, descriptorIndex := 64, attributes := #[] }, { accessFlags := 0, nameIndex := 19, descriptorIndex := 64, attributes := #[] }, { accessFlags := 0, nameIndex := 65, descriptorIndex := 66, attributes := #[] }, { accessFlags := 10, nameIndex := 23, descriptorIndex := 24, attributes := #[] }, { accessFlags := 10, nameIndex := 37, descriptorIndex := 38, attributes := #[] }] 48 2 #[] #[{ accessFlags := 26, nameIndex := 47, descriptorIndex := 48, attributes := #[] }, { accessFlags := 26, nameIndex := 51, descriptorIndex := 48, attributes := #[] }, { accessFlags := 26, nameIndex := 53, descriptorIndex := 48, attributes := #[] }, { accessFlags := 26, nameIndex := 55, descriptorIndex := 48, attributes := #[] }, { accessFlags := 18, nameIndex := 13, descriptorIndex := 14, attributes := #[] }, { accessFlags := 2, nameIndex := 27, descriptorIndex := 28, attributes := #[] }, { accessFlags := 2, nameIndex := 19, descriptorIndex := 28, attributes := #[] }])
  fields := #[{ name := "EXACT", type := .int, accessFlags := 26, slot := 0, constantValue := 0 }, { name := "SUB_BUCKETS", type := .int, accessFlags := 26, slot := 1, constantValue := 0 }, { name := "EXACT_BITS", type := .int, accessFlags := 26, slot := 2, constantValue := 0 }, { name := "SUB_BITS", type := .int, accessFlags := 26, slot := 3, constantValue := 0 }, { name := "counts", type := (.array .long), accessFlags := 18, slot := 0, constantValue := 0 }, { name := "count", type := .long, accessFlags := 2, slot := 1, constantValue := 0 }, { name := "max", type := .long, accessFlags := 2, slot := 2, constantValue := 0 }]
  methods := #[k2m0, k2m1, k2m2, k2m3, k2m4, k2m5, k2m6, k2m7]
  instanceTypes := #[(.array .long), .long, .long]
  staticTypes := #[.int, .int, .int, .int]
  resolved := Array.replicate 69 none
  statics := none }

def pool3 : Array CpInfo := pool [(1, .class_ 2), (0, u "java/lang/Math"), (1, .class_ 6), (1, u "java/lang/Object"), (0, u "<init>"), (0, u "()V"), (1, .class_ 12), (1, u "java/lang/StrictMath"), (1, u "(D)D"), (38, .methodref 10 54), (0, .nameAndType 55 14), (0, u "ceil"), (23, .methodref 80 81), (0, .class_ 82), (0, .nameAndType 83 84), (0, u "java/lang/Double"), (0, u "doubleToRawLongBits"), (0, u "(D)J"), (2, .long 9218868437227405312), (10, .class_ 100), (1, u "java/lang/Math$RandomNumberGeneratorHolder"), (20, u "(JJ)J"), (50, u "negativeZeroFloatBits"), (0, u "J"), (2, u "negativeZeroDoubleBits"), (21, u "max"), (2, u "min"), (43, u "$assertionsDisabled"), (0, u "Z"), (33, u "getExponent"), (0, u "(D)I"), (40, .long 1023), (15, u "twoToTheDoubleScaleDown"), (0, u "D"), (4, u "twoToTheDoubleScaleUp"), (9, u "E"), (3, u "PI"), (2, u "TAU"), (2, u "DEGREES_TO_RADIANS"), (0, u "RADIANS_TO_DEGREES")] 94

def k3m0 : Method := { name := "<init>", desc := "()V", sig := { parameters := [], returnType := none }, accessFlags := 2, code := none }
def k3c1 : Code := { maxStack := 2, maxLocals := 2, code := jdk_29_method_16_code, exceptionTable := #[], attributes := #[] }
def k3m1 : Method := { name := "ceil", desc := "(D)D", sig := { parameters := [.double], returnType := some .double }, accessFlags := 9, code := some k3c1 }
def k3c2 : Code := { maxStack := 4, maxLocals := 4, code := jdk_29_method_66_code, exceptionTable := #[], attributes := #[] }
def k3m2 : Method := { name := "max", desc := "(JJ)J", sig := { parameters := [.long, .long], returnType := some .long }, accessFlags := 9, code := some k3c2 }
def k3c3 : Code := { maxStack := 4, maxLocals := 4, code := jdk_29_method_70_code, exceptionTable := #[], attributes := #[] }
def k3m3 : Method := { name := "min", desc := "(JJ)J", sig := { parameters := [.long, .long], returnType := some .long }, accessFlags := 9, code := some k3c3 }
def k3c4 : Code := { maxStack := 4, maxLocals := 2, code := jdk_29_method_92_code, exceptionTable := #[], attributes := #[] }
def k3m4 : Method := { name := "getExponent", desc := "(D)I", sig := { parameters := [.double], returnType := some .int }, accessFlags := 9, code := some k3c4 }
/-- java/lang/Math -/
def k3 : Class := { plain "java/lang/Math" (some 0) with
  accessFlags := 49
  interfaces := #[]
  cf := some (fileOf pool3 1 #[.nestMembers #[98]] #[{ accessFlags := 2, nameIndex := 7, descriptorIndex := 8, attributes := #[] }, { accessFlags := 9, nameIndex := 55, descriptorIndex := 14, attributes := #[] }, { accessFlags := 9, nameIndex := 198, descriptorIndex := 121, attributes := #[] }, { accessFlags := 9, nameIndex := 201, descriptorIndex := 121, attributes := #[] }, { accessFlags := 9, nameIndex := 280, descriptorIndex := 281, attributes := #[] }] 49 4 #[] #[{ accessFlags := 25, nameIndex := 354, descriptorIndex := 339, attributes := #[] }, { accessFlags := 25, nameIndex := 358, descriptorIndex := 339, attributes := #[] }, { accessFlags := 25, nameIndex := 361, descriptorIndex := 339, attributes := #[] }, { accessFlags := 26, nameIndex := 364, descriptorIndex := 339, attributes := #[] }, { accessFlags := 26, nameIndex := 365, descriptorIndex := 339, attributes := #[] }, { accessFlags := 26, nameIndex := 172, descriptorIndex := 173, attributes := #[] }, { accessFlags := 26, nameIndex := 176, descriptorIndex := 173, attributes := #[] }, { accessFlags := 8, nameIndex := 344, descriptorIndex := 339, attributes := #[] }, { accessFlags := 8, nameIndex := 338, descriptorIndex := 339, attributes := #[] }, { accessFlags := 4120, nameIndex := 245, descriptorIndex := 246, attributes := #[] }])
  fields := #[{ name := "E", type := .double, accessFlags := 25, slot := 0, constantValue := 0 }, { name := "PI", type := .double, accessFlags := 25, slot := 1, constantValue := 0 }, { name := "TAU", type := .double, accessFlags := 25, slot := 2, constantValue := 0 }, { name := "DEGREES_TO_RADIANS", type := .double, accessFlags := 26, slot := 3, constantValue := 0 }, { name := "RADIANS_TO_DEGREES", type := .double, accessFlags := 26, slot := 4, constantValue := 0 }, { name := "negativeZeroFloatBits", type := .long, accessFlags := 26, slot := 5, constantValue := 0 }, { name := "negativeZeroDoubleBits", type := .long, accessFlags := 26, slot := 6, constantValue := 0 }, { name := "twoToTheDoubleScaleUp", type := .double, accessFlags := 8, slot := 7, constantValue := 0 }, { name := "twoToTheDoubleScaleDown", type := .double, accessFlags := 8, slot := 8, constantValue := 0 }, { name := "$assertionsDisabled", type := .boolean, accessFlags := 4120, slot := 9, constantValue := 0 }]
  methods := #[k3m0, k3m1, k3m2, k3m3, k3m4]
  instanceTypes := #[]
  staticTypes := #[.double, .double, .double, .double, .double, .long, .long, .double, .double, .boolean]
  resolved := Array.replicate 460 none
  statics := none }

def pool4 : Array CpInfo := pool [(1, .class_ 2), (0, u "java/lang/StrictMath"), (1, .class_ 6), (1, u "java/lang/Object"), (0, u "<init>"), (0, u "()V"), (5, u "(D)D"), (16, .class_ 33), (1, u "java/lang/Math"), (24, .double 9223372036854775808), (1, .methodref 1 61), (0, .nameAndType 62 63), (0, u "floorOrCeil"), (0, u "(DDDD)D"), (2, .methodref 31 67), (0, .nameAndType 68 69), (0, u "getExponent"), (0, u "(D)I"), (2, u "$assertionsDisabled"), (0, u "Z"), (40, .class_ 116), (1, u "java/lang/StrictMath$RandomNumberGeneratorHolder"), (222, u "E"), (0, u "D"), (3, u "PI"), (2, u "TAU"), (26, u "ceil")] 61

def k4m0 : Method := { name := "<init>", desc := "()V", sig := { parameters := [], returnType := none }, accessFlags := 2, code := none }
def k4c1 : Code := { maxStack := 8, maxLocals := 2, code := jdk_128_method_16_code, exceptionTable := #[], attributes := #[] }
def k4m1 : Method := { name := "ceil", desc := "(D)D", sig := { parameters := [.double], returnType := some .double }, accessFlags := 9, code := some k4c1 }
def k4c2 : Code := { maxStack := 6, maxLocals := 15, code := jdk_128_method_18_code, exceptionTable := #[], attributes := #[] }
def k4m2 : Method := { name := "floorOrCeil", desc := "(DDDD)D", sig := { parameters := [.double, .double, .double, .double], returnType := some .double }, accessFlags := 10, code := some k4c2 }
/-- java/lang/StrictMath -/
def k4 : Class := { plain "java/lang/StrictMath" (some 0) with
  accessFlags := 49
  interfaces := #[]
  cf := some (fileOf pool4 1 #[.nestMembers #[114]] #[{ accessFlags := 2, nameIndex := 7, descriptorIndex := 8, attributes := #[] }, { accessFlags := 9, nameIndex := 374, descriptorIndex := 14, attributes := #[] }, { accessFlags := 10, nameIndex := 62, descriptorIndex := 63, attributes := #[] }] 49 4 #[] #[{ accessFlags := 25, nameIndex := 339, descriptorIndex := 340, attributes := #[] }, { accessFlags := 25, nameIndex := 344, descriptorIndex := 340, attributes := #[] }, { accessFlags := 25, nameIndex := 347, descriptorIndex := 340, attributes := #[] }, { accessFlags := 4120, nameIndex := 72, descriptorIndex := 73, attributes := #[] }])
  fields := #[{ name := "E", type := .double, accessFlags := 25, slot := 0, constantValue := 0 }, { name := "PI", type := .double, accessFlags := 25, slot := 1, constantValue := 0 }, { name := "TAU", type := .double, accessFlags := 25, slot := 2, constantValue := 0 }, { name := "$assertionsDisabled", type := .boolean, accessFlags := 4120, slot := 3, constantValue := 0 }]
  methods := #[k4m0, k4m1, k4m2]
  instanceTypes := #[]
  staticTypes := #[.double, .double, .double, .boolean]
  resolved := Array.replicate 436 none
  statics := none }

def pool5 : Array CpInfo := pool [(1, .class_ 2), (0, u "java/io/Serializable"), (0, .class_ 4), (0, u "java/lang/Object")] 2

/-- java/io/Serializable -/
def k5 : Class := { plain "java/io/Serializable" (some 0) with
  accessFlags := 1537
  interfaces := #[]
  cf := some (fileOf pool5 1 #[] #[] 1537 3 #[] #[])
  fields := #[]
  methods := #[]
  instanceTypes := #[]
  staticTypes := #[]
  resolved := Array.replicate 7 none
  statics := none }

def pool6 : Array CpInfo := pool [(2, .class_ 4), (1, u "java/lang/Object"), (0, u "<init>"), (0, u "()V"), (1, .class_ 10), (1, u "java/lang/Number"), (2, .class_ 14), (0, u "java/io/Serializable"), (0, u "serialVersionUID"), (0, u "J")] 20

def k6m0 : Method := { name := "<init>", desc := "()V", sig := { parameters := [], returnType := none }, accessFlags := 1, code := none }
/-- java/lang/Number -/
def k6 : Class := { plain "java/lang/Number" (some 0) with
  accessFlags := 1057
  interfaces := #[5]
  cf := some (fileOf pool6 8 #[] #[{ accessFlags := 1, nameIndex := 5, descriptorIndex := 6, attributes := #[] }] 1057 2 #[13] #[{ accessFlags := 26, nameIndex := 15, descriptorIndex := 16, attributes := #[] }])
  fields := #[{ name := "serialVersionUID", type := .long, accessFlags := 26, slot := 0, constantValue := 0 }]
  methods := #[k6m0]
  instanceTypes := #[]
  staticTypes := #[.long]
  resolved := Array.replicate 37 none
  statics := none }

def pool7 : Array CpInfo := pool [(1, .class_ 2), (0, u "java/lang/Comparable"), (0, .class_ 4), (0, u "java/lang/Object")] 7

/-- java/lang/Comparable -/
def k7 : Class := { plain "java/lang/Comparable" (some 0) with
  accessFlags := 1537
  interfaces := #[]
  cf := some (fileOf pool7 1 #[] #[] 1537 3 #[] #[])
  fields := #[]
  methods := #[]
  instanceTypes := #[]
  staticTypes := #[]
  resolved := Array.replicate 12 none
  statics := none }

def pool8 : Array CpInfo := pool [(1, .class_ 2), (0, u "java/lang/constant/Constable"), (0, .class_ 4), (0, u "java/lang/Object")] 6

/-- java/lang/constant/Constable -/
def k8 : Class := { plain "java/lang/constant/Constable" (some 0) with
  accessFlags := 1537
  interfaces := #[]
  cf := some (fileOf pool8 1 #[] #[] 1537 3 #[] #[])
  fields := #[]
  methods := #[]
  instanceTypes := #[]
  staticTypes := #[]
  resolved := Array.replicate 11 none
  statics := none }

def pool9 : Array CpInfo := pool [(1, .class_ 2), (0, u "java/lang/constant/ConstantDesc"), (0, .class_ 4), (0, u "java/lang/Object")] 32

/-- java/lang/constant/ConstantDesc -/
def k9 : Class := { plain "java/lang/constant/ConstantDesc" (some 0) with
  accessFlags := 1537
  interfaces := #[]
  cf := some (fileOf pool9 1 #[] #[] 1537 3 #[] #[])
  fields := #[]
  methods := #[]
  instanceTypes := #[]
  staticTypes := #[]
  resolved := Array.replicate 37 none
  statics := none }

def pool10 : Array CpInfo := pool [(1, .class_ 2), (0, u "java/lang/Double"), (46, u "(D)J"), (64, .class_ 116), (1, u "java/lang/Number"), (3, u "value"), (0, u "D"), (14, u "doubleToRawLongBits"), (36, u "TYPE"), (0, u "Ljava/lang/Class;"), (0, .class_ 176), (0, u "java/lang/Comparable"), (0, .class_ 178), (0, u "java/lang/constant/Constable"), (0, .class_ 180), (0, u "java/lang/constant/ConstantDesc"), (0, u "POSITIVE_INFINITY"), (3, u "NEGATIVE_INFINITY"), (2, u "NaN"), (2, u "MAX_VALUE"), (0, u "MIN_NORMAL"), (0, u "MIN_VALUE"), (2, u "SIZE"), (0, u "I"), (1, u "PRECISION"), (1, u "MAX_EXPONENT"), (1, u "MIN_EXPONENT"), (1, u "BYTES"), (3, u "serialVersionUID"), (0, u "J")] 79

def k10m0 : Method := { name := "doubleToRawLongBits", desc := "(D)J", sig := { parameters := [.double], returnType := some .long }, accessFlags := 265, code := none }
/-- java/lang/Double -/
def k10 : Class := { plain "java/lang/Double" (some 6) with
  accessFlags := 49
  interfaces := #[7, 8, 9]
  cf := some (fileOf pool10 1 #[] #[{ accessFlags := 265, nameIndex := 136, descriptorIndex := 49, attributes := #[] }] 49 114 #[175, 177, 179] #[{ accessFlags := 25, nameIndex := 181, descriptorIndex := 121, attributes := #[] }, { accessFlags := 25, nameIndex := 185, descriptorIndex := 121, attributes := #[] }, { accessFlags := 25, nameIndex := 188, descriptorIndex := 121, attributes := #[] }, { accessFlags := 25, nameIndex := 191, descriptorIndex := 121, attributes := #[] }, { accessFlags := 25, nameIndex := 192, descriptorIndex := 121, attributes := #[] }, { accessFlags := 25, nameIndex := 193, descriptorIndex := 121, attributes := #[] }, { accessFlags := 25, nameIndex := 196, descriptorIndex := 197, attributes := #[] }, { accessFlags := 25, nameIndex := 199, descriptorIndex := 197, attributes := #[] }, { accessFlags := 25, nameIndex := 201, descriptorIndex := 197, attributes := #[] }, { accessFlags := 25, nameIndex := 203, descriptorIndex := 197, attributes := #[] }, { accessFlags := 25, nameIndex := 205, descriptorIndex := 197, attributes := #[] }, { accessFlags := 25, nameIndex := 173, descriptorIndex := 174, attributes := #[] }, { accessFlags := 18, nameIndex := 120, descriptorIndex := 121, attributes := #[] }, { accessFlags := 26, nameIndex := 209, descriptorIndex := 210, attributes := #[] }])
  fields := #[{ name := "POSITIVE_INFINITY", type := .double, accessFlags := 25, slot := 0, constantValue := 0 }, { name := "NEGATIVE_INFINITY", type := .double, accessFlags := 25, slot := 1, constantValue := 0 }, { name := "NaN", type := .double, accessFlags := 25, slot := 2, constantValue := 0 }, { name := "MAX_VALUE", type := .double, accessFlags := 25, slot := 3, constantValue := 0 }, { name := "MIN_NORMAL", type := .double, accessFlags := 25, slot := 4, constantValue := 0 }, { name := "MIN_VALUE", type := .double, accessFlags := 25, slot := 5, constantValue := 0 }, { name := "SIZE", type := .int, accessFlags := 25, slot := 6, constantValue := 0 }, { name := "PRECISION", type := .int, accessFlags := 25, slot := 7, constantValue := 0 }, { name := "MAX_EXPONENT", type := .int, accessFlags := 25, slot := 8, constantValue := 0 }, { name := "MIN_EXPONENT", type := .int, accessFlags := 25, slot := 9, constantValue := 0 }, { name := "BYTES", type := .int, accessFlags := 25, slot := 10, constantValue := 0 }, { name := "TYPE", type := (.object "java/lang/Class"), accessFlags := 25, slot := 11, constantValue := 0 }, { name := "value", type := .double, accessFlags := 18, slot := 0, constantValue := 0 }, { name := "serialVersionUID", type := .long, accessFlags := 26, slot := 12, constantValue := 0 }]
  methods := #[k10m0]
  instanceTypes := #[.double]
  staticTypes := #[.double, .double, .double, .double, .double, .double, .int, .int, .int, .int, .int, (.object "java/lang/Class"), .long]
  resolved := Array.replicate 290 none
  statics := none }

def pool11 : Array CpInfo := pool [(1, .class_ 2), (0, u "java/lang/Long"), (15, .class_ 20), (1, u "java/lang/Integer"), (79, u "numberOfLeadingZeros"), (0, u "(J)I"), (133, .class_ 237), (1, u "java/lang/Long$LongCache"), (33, .class_ 272), (0, u "java/lang/Number"), (2, u "value"), (0, u "J"), (31, .methodref 18 309), (0, .nameAndType 100 310), (0, u "(I)I"), (50, u "TYPE"), (0, u "Ljava/lang/Class;"), (0, .class_ 364), (0, u "java/lang/Comparable"), (0, .class_ 366), (0, u "java/lang/constant/Constable"), (0, .class_ 368), (0, u "java/lang/constant/ConstantDesc"), (0, u "MIN_VALUE"), (1, u "MAX_VALUE"), (4, u "SIZE"), (0, u "I"), (1, u "BYTES"), (1, u "serialVersionUID")] 142

def k11c0 : Code := { maxStack := 3, maxLocals := 3, code := jdk_35_method_48_code, exceptionTable := #[], attributes := #[] }
def k11m0 : Method := { name := "numberOfLeadingZeros", desc := "(J)I", sig := { parameters := [.long], returnType := some .int }, accessFlags := 9, code := some k11c0 }
/-- java/lang/Long -/
def k11 : Class := { plain "java/lang/Long" (some 6) with
  accessFlags := 49
  interfaces := #[7, 8, 9]
  cf := some (fileOf pool11 1 #[.nestMembers #[235]] #[{ accessFlags := 9, nameIndex := 100, descriptorIndex := 101, attributes := #[] }] 49 271 #[363, 365, 367] #[{ accessFlags := 25, nameIndex := 369, descriptorIndex := 276, attributes := #[] }, { accessFlags := 25, nameIndex := 371, descriptorIndex := 276, attributes := #[] }, { accessFlags := 25, nameIndex := 361, descriptorIndex := 362, attributes := #[] }, { accessFlags := 18, nameIndex := 275, descriptorIndex := 276, attributes := #[] }, { accessFlags := 25, nameIndex := 376, descriptorIndex := 377, attributes := #[] }, { accessFlags := 25, nameIndex := 379, descriptorIndex := 377, attributes := #[] }, { accessFlags := 26, nameIndex := 381, descriptorIndex := 276, attributes := #[] }])
  fields := #[{ name := "MIN_VALUE", type := .long, accessFlags := 25, slot := 0, constantValue := 0 }, { name := "MAX_VALUE", type := .long, accessFlags := 25, slot := 1, constantValue := 0 }, { name := "TYPE", type := (.object "java/lang/Class"), accessFlags := 25, slot := 2, constantValue := 0 }, { name := "value", type := .long, accessFlags := 18, slot := 0, constantValue := 0 }, { name := "SIZE", type := .int, accessFlags := 25, slot := 3, constantValue := 0 }, { name := "BYTES", type := .int, accessFlags := 25, slot := 4, constantValue := 0 }, { name := "serialVersionUID", type := .long, accessFlags := 26, slot := 5, constantValue := 0 }]
  methods := #[k11m0]
  instanceTypes := #[.long]
  staticTypes := #[.long, .long, (.object "java/lang/Class"), .int, .int, .long]
  resolved := Array.replicate 524 none
  statics := none }

def pool12 : Array CpInfo := pool [(1, .class_ 2), (0, u "java/lang/Integer"), (16, u "digits"), (0, u "[C"), (32, u "numberOfLeadingZeros"), (0, u "(I)I"), (30, u "DigitOnes"), (0, u "[B"), (2, u "DigitTens"), (99, .class_ 190), (0, u "java/lang/Integer$IntegerCache"), (3, u "I"), (8, .class_ 204), (0, u "java/lang/Number"), (2, u "value"), (56, .integer 65536), (37, u "TYPE"), (0, u "Ljava/lang/Class;"), (0, .class_ 305), (0, u "java/lang/Comparable"), (0, .class_ 307), (0, u "java/lang/constant/Constable"), (0, .class_ 309), (0, u "java/lang/constant/ConstantDesc"), (0, u "MIN_VALUE"), (1, u "MAX_VALUE"), (3, u "SIZE"), (1, u "BYTES"), (1, u "serialVersionUID"), (0, u "J")] 131

def k12c0 : Code := { maxStack := 3, maxLocals := 2, code := jdk_33_method_47_code, exceptionTable := #[], attributes := #[] }
def k12m0 : Method := { name := "numberOfLeadingZeros", desc := "(I)I", sig := { parameters := [.int], returnType := some .int }, accessFlags := 9, code := some k12c0 }
/-- java/lang/Integer -/
def k12 : Class := { plain "java/lang/Integer" (some 6) with
  accessFlags := 49
  interfaces := #[7, 8, 9]
  cf := some (fileOf pool12 1 #[.nestMembers #[189]] #[{ accessFlags := 9, nameIndex := 53, descriptorIndex := 54, attributes := #[] }] 49 203 #[304, 306, 308] #[{ accessFlags := 25, nameIndex := 310, descriptorIndex := 194, attributes := #[] }, { accessFlags := 25, nameIndex := 312, descriptorIndex := 194, attributes := #[] }, { accessFlags := 25, nameIndex := 302, descriptorIndex := 303, attributes := #[] }, { accessFlags := 24, nameIndex := 19, descriptorIndex := 20, attributes := #[] }, { accessFlags := 24, nameIndex := 89, descriptorIndex := 86, attributes := #[] }, { accessFlags := 24, nameIndex := 85, descriptorIndex := 86, attributes := #[] }, { accessFlags := 18, nameIndex := 207, descriptorIndex := 194, attributes := #[] }, { accessFlags := 25, nameIndex := 316, descriptorIndex := 194, attributes := #[] }, { accessFlags := 25, nameIndex := 318, descriptorIndex := 194, attributes := #[] }, { accessFlags := 26, nameIndex := 320, descriptorIndex := 321, attributes := #[] }])
  fields := #[{ name := "MIN_VALUE", type := .int, accessFlags := 25, slot := 0, constantValue := 0 }, { name := "MAX_VALUE", type := .int, accessFlags := 25, slot := 1, constantValue := 0 }, { name := "TYPE", type := (.object "java/lang/Class"), accessFlags := 25, slot := 2, constantValue := 0 }, { name := "digits", type := (.array .char), accessFlags := 24, slot := 3, constantValue := 0 }, { name := "DigitTens", type := (.array .byte), accessFlags := 24, slot := 4, constantValue := 0 }, { name := "DigitOnes", type := (.array .byte), accessFlags := 24, slot := 5, constantValue := 0 }, { name := "value", type := .int, accessFlags := 18, slot := 0, constantValue := 0 }, { name := "SIZE", type := .int, accessFlags := 25, slot := 6, constantValue := 0 }, { name := "BYTES", type := .int, accessFlags := 25, slot := 7, constantValue := 0 }, { name := "serialVersionUID", type := .long, accessFlags := 26, slot := 8, constantValue := 0 }]
  methods := #[k12m0]
  instanceTypes := #[.int]
  staticTypes := #[.int, .int, (.object "java/lang/Class"), (.array .char), (.array .byte), (.array .byte), .int, .int, .long]
  resolved := Array.replicate 453 none
  statics := none }

def pool13 : Array CpInfo := pool [(1, u "java/lang/Cloneable"), (0, .class_ 1), (0, u "java/lang/Object"), (0, .class_ 3)] 3

/-- java/lang/Cloneable -/
def k13 : Class := { plain "java/lang/Cloneable" (some 0) with
  accessFlags := 1537
  interfaces := #[]
  cf := some (fileOf pool13 2 #[] #[] 1537 4 #[] #[])
  fields := #[]
  methods := #[]
  instanceTypes := #[]
  staticTypes := #[]
  resolved := Array.replicate 8 none
  statics := none }

/-- the primitive byte -/
def k14 : Class := { plain "byte" none with kind := .primitive 'B', accessFlags := 0x411 }
/-- [B -/
def k15 : Class := { plain "[B" (some 0) with kind := .array 14 .byte, interfaces := #[13, 5], accessFlags := 1041 }

/-- the primitive int -/
def k16 : Class := { plain "int" none with kind := .primitive 'I', accessFlags := 0x411 }
/-- [I -/
def k17 : Class := { plain "[I" (some 0) with kind := .array 16 .int, interfaces := #[13, 5], accessFlags := 1041 }

/-- the primitive long -/
def k18 : Class := { plain "long" none with kind := .primitive 'J', accessFlags := 0x411 }
/-- [J -/
def k19 : Class := { plain "[J" (some 0) with kind := .array 18 .long, interfaces := #[13, 5], accessFlags := 1041 }

def heap : Heap := #[]
def classes : Array Class := #[k0, k1, k2, k3, k4, k5, k6, k7, k8, k9, k10, k11, k12, k13, k14, k15, k16, k17, k18, k19]
def interned : List (Array UInt16 × Addr) := []
def slotsUsed : Nat := 0
def theMethod : MethodId := ⟨1, 1⟩
def args0 : Array Value := #[.long 5, .long 300, .int 3]
def aboutOver (below : List Frame) : State where
  vm := { classes := classes, interned := interned.toArray }
  heap := heap
  slotsUsed := slotsUsed
  threads := #[{ frames := .invoking theMethod args0 :: below }]
def below0 : List Frame := [.native { method := ⟨0, 0⟩, args := #[] }]
def about1 : State := aboutOver below0
def p0 : Program := .bare "" "" ""
def e0 : Env := launch0.env 0 0 0
theorem w_frames : about1.frames = Frame.invoking theMethod args0 :: below0 := rfl
set_option maxRecDepth 65536 in
theorem w_args : argsFit about1.vm theMethod args0 = true := by decide +kernel
set_option maxRecDepth 65536 in
theorem w_heap : heapFits about1 = true := by decide +kernel
set_option maxRecDepth 65536 in
theorem w_runnable : about1.curStatus? = some .runnable := by decide +kernel
set_option maxRecDepth 65536 in
theorem w_alone : about1.alone = true := by decide +kernel
set_option maxRecDepth 65536 in
theorem w_named : about1.methodNamed? x = some theMethod := by decide +kernel
set_option maxRecDepth 65536 in
theorem w_hears : about1.hears theMethod below0 = true := by decide +kernel
set_option maxRecDepth 65536 in
theorem w_ripe : about1.ripe theMethod args0 below0 = true := by decide +kernel
theorem w_running : about1.status = .running := rfl
set_option maxRecDepth 65536 in
theorem w_room : about1.hasRoom e0.platform room_1 = true :=
  launch0.hasRoom_least _ room_1 (by decide +kernel) (by decide +kernel) (by decide +kernel) (by decide +kernel) (by decide +kernel) (by decide +kernel)
theorem allAtoms_all (ts : List Jvm.Cond) (a : Array Jvm.Value) (st : Jvm.State) : (allAtoms ts).before a st = ts.all (fun c => c.before a st) := by
  induction ts with
  | nil => rfl
  | cons c t ih =>
    show (Jvm.Cond.and c (allAtoms t)).before a st = _
    rw [Jvm.Cond.before_and, ih, List.all_cons]
def words1 : List Jvm.Cond := Jvm.Cond.code x code maxLocals ret :: tables_1
/-- a 'code' word, met by the world's own term for the bytes: nothing is compared byte by byte -/
theorem code_word {y : MethodName} {bytes : ByteArray} {mx : Nat} {rt : Option FieldType} {a : Array Value} {s : State} {m : MethodId} {meth : Method} {c : Code} (h1 : s.methodNamed? y = some m) (h2 : s.vm.method? m = some meth) (h3 : meth.code = some c) (h4 : c.code = bytes)
    (h5 : (c.maxLocals == mx && c.exceptionTable.isEmpty && decide (c.maxStack ≤ mostOperands) && decide (meth.sig.returnType = rt) && !meth.locks && decide (parseMethodDescriptor y.desc = some meth.sig)) = true) : (Jvm.Cond.code y bytes mx rt).before a s = true := by
  simp only [Bool.and_eq_true, beq_iff_eq, Bool.not_eq_true', decide_eq_true_eq] at h5
  obtain ⟨⟨⟨⟨⟨g1, g2⟩, g3⟩, g4⟩, g5⟩, g6⟩ := h5
  simp [Cond.before, Cond.holds, Cond.value, h1, h2, h3, h4, g1, g2, g3, g4, g5, g6]
def isCode : Jvm.Cond → Bool
  | .code _ _ _ _ => true
  | _ => false
theorem all_split {L : List Jvm.Cond} {P : Jvm.Cond → Bool} (h1 : L.all (fun c => isCode c || P c) = true) (h2 : ∀ c ∈ L.filter isCode, P c = true) : L.all P = true := by
  refine List.all_eq_true.mpr fun c hc => ?_
  have h := List.all_eq_true.mp h1 c hc
  rcases Bool.eq_false_or_eq_true (isCode c) with hi | hi
  · exact h2 c (List.mem_filter.mpr ⟨hc, hi⟩)
  · simpa [hi] using h
set_option maxRecDepth 65536 in
theorem w_c0 : (Jvm.Cond.code x code maxLocals ret).before args0 about1 = true := code_word (m := ⟨1, 1⟩) (meth := k1m1) (c := k1c1) (by decide +kernel) rfl rfl rfl (by decide +kernel)
set_option maxRecDepth 65536 in
theorem w_c1 : (Jvm.Cond.code ({ cls := "com/example/canopy/canopy/bench/LatencyHistogram", name := "<init>", desc := "()V" } : Jvm.MethodName) prog_3_method_1_code (1 : Nat) (Option.none : Option Jvm.ClassFile.FieldType)).before args0 about1 = true := code_word (m := ⟨2, 0⟩) (meth := k2m0) (c := k2c0) (by decide +kernel) rfl rfl rfl (by decide +kernel)
set_option maxRecDepth 65536 in
theorem w_c2 : (Jvm.Cond.code ({ cls := "java/lang/Object", name := "<init>", desc := "()V" } : Jvm.MethodName) object_method_1_code (1 : Nat) (Option.none : Option Jvm.ClassFile.FieldType)).before args0 about1 = true := code_word (m := ⟨0, 0⟩) (meth := k0m0) (c := k0c0) (by decide +kernel) rfl rfl rfl (by decide +kernel)
set_option maxRecDepth 65536 in
theorem w_c3 : (Jvm.Cond.code ({ cls := "com/example/canopy/canopy/bench/LatencyHistogram", name := "add", desc := "(Lcom/example/canopy/canopy/bench/LatencyHistogram;)V" } : Jvm.MethodName) prog_3_method_3_code (3 : Nat) (Option.none : Option Jvm.ClassFile.FieldType)).before args0 about1 = true := code_word (m := ⟨2, 2⟩) (meth := k2m2) (c := k2c2) (by decide +kernel) rfl rfl rfl (by decide +kernel)
set_option maxRecDepth 65536 in
theorem w_c4 : (Jvm.Cond.code ({ cls := "java/lang/Math", name := "max", desc := "(JJ)J" } : Jvm.MethodName) jdk_29_method_66_code (4 : Nat) (Option.some Jvm.ClassFile.FieldType.long)).before args0 about1 = true := code_word (m := ⟨3, 2⟩) (meth := k3m2) (c := k3c2) (by decide +kernel) rfl rfl rfl (by decide +kernel)
set_option maxRecDepth 65536 in
theorem w_c5 : (Jvm.Cond.code ({ cls := "com/example/canopy/canopy/bench/LatencyHistogram", name := "count", desc := "()J" } : Jvm.MethodName) prog_3_method_4_code (1 : Nat) (Option.some Jvm.ClassFile.FieldType.long)).before args0 about1 = true := code_word (m := ⟨2, 3⟩) (meth := k2m3) (c := k2c3) (by decide +kernel) rfl rfl rfl (by decide +kernel)
set_option maxRecDepth 65536 in
theorem w_c6 : (Jvm.Cond.code ({ cls := "com/example/canopy/canopy/bench/LatencyHistogram", name := "max", desc := "()J" } : Jvm.MethodName) prog_3_method_5_code (1 : Nat) (Option.some Jvm.ClassFile.FieldType.long)).before args0 about1 = true := code_word (m := ⟨2, 4⟩) (meth := k2m4) (c := k2c4) (by decide +kernel) rfl rfl rfl (by decide +kernel)
set_option maxRecDepth 65536 in
theorem w_c7 : (Jvm.Cond.code ({ cls := "com/example/canopy/canopy/bench/LatencyHistogram", name := "percentile", desc := "(D)J" } : Jvm.MethodName) prog_3_method_6_code (8 : Nat) (Option.some Jvm.ClassFile.FieldType.long)).before args0 about1 = true := code_word (m := ⟨2, 5⟩) (meth := k2m5) (c := k2c5) (by decide +kernel) rfl rfl rfl (by decide +kernel)
set_option maxRecDepth 65536 in
theorem w_c8 : (Jvm.Cond.code ({ cls := "com/example/canopy/canopy/bench/LatencyHistogram", name := "record", desc := "(J)V" } : Jvm.MethodName) prog_3_method_2_code (5 : Nat) (Option.none : Option Jvm.ClassFile.FieldType)).before args0 about1 = true := code_word (m := ⟨2, 1⟩) (meth := k2m1) (c := k2c1) (by decide +kernel) rfl rfl rfl (by decide +kernel)
set_option maxRecDepth 65536 in
theorem w_c9 : (Jvm.Cond.code ({ cls := "com/example/canopy/canopy/bench/LatencyHistogram", name := "bucket", desc := "(J)I" } : Jvm.MethodName) prog_3_method_7_code (5 : Nat) (Option.some Jvm.ClassFile.FieldType.int)).before args0 about1 = true := code_word (m := ⟨2, 6⟩) (meth := k2m6) (c := k2c6) (by decide +kernel) rfl rfl rfl (by decide +kernel)
set_option maxRecDepth 65536 in
theorem w_c10 : (Jvm.Cond.code ({ cls := "java/lang/Math", name := "ceil", desc := "(D)D" } : Jvm.MethodName) jdk_29_method_16_code (2 : Nat) (Option.some Jvm.ClassFile.FieldType.double)).before args0 about1 = true := code_word (m := ⟨3, 1⟩) (meth := k3m1) (c := k3c1) (by decide +kernel) rfl rfl rfl (by decide +kernel)
set_option maxRecDepth 65536 in
theorem w_c11 : (Jvm.Cond.code ({ cls := "java/lang/StrictMath", name := "ceil", desc := "(D)D" } : Jvm.MethodName) jdk_128_method_16_code (2 : Nat) (Option.some Jvm.ClassFile.FieldType.double)).before args0 about1 = true := code_word (m := ⟨4, 1⟩) (meth := k4m1) (c := k4c1) (by decide +kernel) rfl rfl rfl (by decide +kernel)
set_option maxRecDepth 65536 in
theorem w_c12 : (Jvm.Cond.code ({ cls := "java/lang/StrictMath", name := "floorOrCeil", desc := "(DDDD)D" } : Jvm.MethodName) jdk_128_method_18_code (15 : Nat) (Option.some Jvm.ClassFile.FieldType.double)).before args0 about1 = true := code_word (m := ⟨4, 2⟩) (meth := k4m2) (c := k4c2) (by decide +kernel) rfl rfl rfl (by decide +kernel)
set_option maxRecDepth 65536 in
theorem w_c13 : (Jvm.Cond.code ({ cls := "java/lang/Math", name := "getExponent", desc := "(D)I" } : Jvm.MethodName) jdk_29_method_92_code (2 : Nat) (Option.some Jvm.ClassFile.FieldType.int)).before args0 about1 = true := code_word (m := ⟨3, 4⟩) (meth := k3m4) (c := k3c4) (by decide +kernel) rfl rfl rfl (by decide +kernel)
set_option maxRecDepth 65536 in
theorem w_c14 : (Jvm.Cond.code ({ cls := "com/example/canopy/canopy/bench/LatencyHistogram", name := "top", desc := "(I)J" } : Jvm.MethodName) prog_3_method_8_code (5 : Nat) (Option.some Jvm.ClassFile.FieldType.long)).before args0 about1 = true := code_word (m := ⟨2, 7⟩) (meth := k2m7) (c := k2c7) (by decide +kernel) rfl rfl rfl (by decide +kernel)
set_option maxRecDepth 65536 in
theorem w_c15 : (Jvm.Cond.code ({ cls := "java/lang/Math", name := "min", desc := "(JJ)J" } : Jvm.MethodName) jdk_29_method_70_code (4 : Nat) (Option.some Jvm.ClassFile.FieldType.long)).before args0 about1 = true := code_word (m := ⟨3, 3⟩) (meth := k3m3) (c := k3c3) (by decide +kernel) rfl rfl rfl (by decide +kernel)
set_option maxRecDepth 65536 in
theorem w_c16 : (Jvm.Cond.code ({ cls := "java/lang/Long", name := "numberOfLeadingZeros", desc := "(J)I" } : Jvm.MethodName) jdk_35_method_48_code (3 : Nat) (Option.some Jvm.ClassFile.FieldType.int)).before args0 about1 = true := code_word (m := ⟨11, 0⟩) (meth := k11m0) (c := k11c0) (by decide +kernel) rfl rfl rfl (by decide +kernel)
set_option maxRecDepth 65536 in
theorem w_c17 : (Jvm.Cond.code ({ cls := "java/lang/Integer", name := "numberOfLeadingZeros", desc := "(I)I" } : Jvm.MethodName) jdk_33_method_47_code (2 : Nat) (Option.some Jvm.ClassFile.FieldType.int)).before args0 about1 = true := code_word (m := ⟨12, 0⟩) (meth := k12m0) (c := k12c0) (by decide +kernel) rfl rfl rfl (by decide +kernel)
def codes1 : List Jvm.Cond := [Jvm.Cond.code x code maxLocals ret, Jvm.Cond.code ({ cls := "com/example/canopy/canopy/bench/LatencyHistogram", name := "<init>", desc := "()V" } : Jvm.MethodName) prog_3_method_1_code (1 : Nat) (Option.none : Option Jvm.ClassFile.FieldType), Jvm.Cond.code ({ cls := "java/lang/Object", name := "<init>", desc := "()V" } : Jvm.MethodName) object_method_1_code (1 : Nat) (Option.none : Option Jvm.ClassFile.FieldType), Jvm.Cond.code ({ cls := "com/example/canopy/canopy/bench/LatencyHistogram", name := "add", desc := "(Lcom/example/canopy/canopy/bench/LatencyHistogram;)V" } : Jvm.MethodName) prog_3_method_3_code (3 : Nat) (Option.none : Option Jvm.ClassFile.FieldType), Jvm.Cond.code ({ cls := "java/lang/Math", name := "max", desc := "(JJ)J" } : Jvm.MethodName) jdk_29_method_66_code (4 : Nat) (Option.some Jvm.ClassFile.FieldType.long), Jvm.Cond.code ({ cls := "com/example/canopy/canopy/bench/LatencyHistogram", name := "count", desc := "()J" } : Jvm.MethodName) prog_3_method_4_code (1 : Nat) (Option.some Jvm.ClassFile.FieldType.long), Jvm.Cond.code ({ cls := "com/example/canopy/canopy/bench/LatencyHistogram", name := "max", desc := "()J" } : Jvm.MethodName) prog_3_method_5_code (1 : Nat) (Option.some Jvm.ClassFile.FieldType.long), Jvm.Cond.code ({ cls := "com/example/canopy/canopy/bench/LatencyHistogram", name := "percentile", desc := "(D)J" } : Jvm.MethodName) prog_3_method_6_code (8 : Nat) (Option.some Jvm.ClassFile.FieldType.long), Jvm.Cond.code ({ cls := "com/example/canopy/canopy/bench/LatencyHistogram", name := "record", desc := "(J)V" } : Jvm.MethodName) prog_3_method_2_code (5 : Nat) (Option.none : Option Jvm.ClassFile.FieldType), Jvm.Cond.code ({ cls := "com/example/canopy/canopy/bench/LatencyHistogram", name := "bucket", desc := "(J)I" } : Jvm.MethodName) prog_3_method_7_code (5 : Nat) (Option.some Jvm.ClassFile.FieldType.int), Jvm.Cond.code ({ cls := "java/lang/Math", name := "ceil", desc := "(D)D" } : Jvm.MethodName) jdk_29_method_16_code (2 : Nat) (Option.some Jvm.ClassFile.FieldType.double), Jvm.Cond.code ({ cls := "java/lang/StrictMath", name := "ceil", desc := "(D)D" } : Jvm.MethodName) jdk_128_method_16_code (2 : Nat) (Option.some Jvm.ClassFile.FieldType.double), Jvm.Cond.code ({ cls := "java/lang/StrictMath", name := "floorOrCeil", desc := "(DDDD)D" } : Jvm.MethodName) jdk_128_method_18_code (15 : Nat) (Option.some Jvm.ClassFile.FieldType.double), Jvm.Cond.code ({ cls := "java/lang/Math", name := "getExponent", desc := "(D)I" } : Jvm.MethodName) jdk_29_method_92_code (2 : Nat) (Option.some Jvm.ClassFile.FieldType.int), Jvm.Cond.code ({ cls := "com/example/canopy/canopy/bench/LatencyHistogram", name := "top", desc := "(I)J" } : Jvm.MethodName) prog_3_method_8_code (5 : Nat) (Option.some Jvm.ClassFile.FieldType.long), Jvm.Cond.code ({ cls := "java/lang/Math", name := "min", desc := "(JJ)J" } : Jvm.MethodName) jdk_29_method_70_code (4 : Nat) (Option.some Jvm.ClassFile.FieldType.long), Jvm.Cond.code ({ cls := "java/lang/Long", name := "numberOfLeadingZeros", desc := "(J)I" } : Jvm.MethodName) jdk_35_method_48_code (3 : Nat) (Option.some Jvm.ClassFile.FieldType.int), Jvm.Cond.code ({ cls := "java/lang/Integer", name := "numberOfLeadingZeros", desc := "(I)I" } : Jvm.MethodName) jdk_33_method_47_code (2 : Nat) (Option.some Jvm.ClassFile.FieldType.int)]
set_option maxRecDepth 65536 in
theorem codes_eq : words1.filter isCode = codes1 := rfl
theorem w_codes : ∀ c ∈ words1.filter isCode, c.before args0 about1 = true := by
  rw [codes_eq]
  intro c hc
  simp only [codes1, List.mem_cons, List.not_mem_nil, or_false] at hc
  rcases hc with rfl | rfl | rfl | rfl | rfl | rfl | rfl | rfl | rfl | rfl | rfl | rfl | rfl | rfl | rfl | rfl | rfl | rfl
  · exact w_c0
  · exact w_c1
  · exact w_c2
  · exact w_c3
  · exact w_c4
  · exact w_c5
  · exact w_c6
  · exact w_c7
  · exact w_c8
  · exact w_c9
  · exact w_c10
  · exact w_c11
  · exact w_c12
  · exact w_c13
  · exact w_c14
  · exact w_c15
  · exact w_c16
  · exact w_c17
set_option maxRecDepth 65536 in
theorem w_t1 : (words1.take 24).all (fun c => isCode c || c.before args0 about1) = true := by decide +kernel
set_option maxRecDepth 65536 in
theorem w_t2 : ((words1.drop 24).take 24).all (fun c => isCode c || c.before args0 about1) = true := by decide +kernel
set_option maxRecDepth 65536 in
theorem w_t3 : (((words1.drop 24).drop 24).take 24).all (fun c => isCode c || c.before args0 about1) = true := by decide +kernel
set_option maxRecDepth 65536 in
theorem w_t4 : (((words1.drop 24).drop 24).drop 24).all (fun c => isCode c || c.before args0 about1) = true := by decide +kernel
theorem w_tables : (allAtoms (Jvm.Cond.code x code maxLocals ret :: tables_1)).before args0 about1 = true := by
  rw [allAtoms_all]
  show words1.all (fun c => c.before args0 about1) = true
  refine all_split ?_ w_codes
  rw [← List.take_append_drop 24 words1, List.all_append, w_t1, ← List.take_append_drop 24 (words1.drop 24), List.all_append, w_t2, ← List.take_append_drop 24 ((words1.drop 24).drop 24), List.all_append, w_t3, w_t4]
  rfl
set_option maxRecDepth 65536 in
theorem w_case : (Jvm.Cond.and given_1 narrow_1).before args0 about1 = true := by decide +kernel
theorem w_applies : (headSpec (Jvm.Cond.code x code maxLocals ret :: tables_1) room_1).applies x e0.platform about1 = true :=
  (Spec.applies_iff w_frames).mpr ⟨w_running, w_runnable, w_alone, w_named, w_hears, w_ripe, w_room, w_tables⟩
theorem atStart : AtStart classFile x code maxLocals ret World_1 tables_1 room_1 Calls_1 rest_1 Pre_1 launch0 p0 e0 about1 theMethod args0 below0 :=
  ⟨lists_1, trivial, launch0.admits_env _ _ _, launch0.least_env, fairChoices_fair.cas, fairChoices_fair.clock, w_frames, w_args, w_heap, w_applies, trivial, trivial, w_case⟩
end start1
theorem witness_1 : WitnessClaimed_1 := ⟨start1.p0, start1.e0, start1.about1, start1.theMethod, start1.args0, start1.below0, start1.atStart⟩
end Jvm.Pilot.@@N@@
