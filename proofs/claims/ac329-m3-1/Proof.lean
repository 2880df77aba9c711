import JvmDerived
import JvmDerived.Pilot.@@N@@Statement
import JvmDerived.Pilot.@@N@@Code
set_option linter.unusedVariables false
set_option linter.unusedSimpArgs false
namespace Jvm.RoadKit
open Sem ClassFile Op Lib Jvm.Stand Jvm.Free Jvm.LawKit
section New
variable {p : Program} {l : Launch} {e : Env} {R : Room} {s : State} {m : MethodId} {args : Array Value} {below : List Frame} {meth : Method} {c : Code} {T : State} {locs : List Loc} {cells slots : Nat}
theorem retI (X : Stand p l e R s m args below meth c T locs cells slots) (hx : p.tables.exec = Jvm.exec) {pc : Nat} {Ls : Array Slot} {z : Int32} {rest : List Value} (hret : meth.sig.returnType = some .int) (hd : decode c.code pc = .ok (.ireturn, 1)) {fs : List Frame}
    (hl : ∀ (f : JFrame) (acts : List Action), f.method = m → f.locked = none → f.entered = [] → (doReturn e (T.setTop f) acts (some (.int z))).1 = T.setFrames fs) : Steps p.tables e below (T.setTop (mkF m pc Ls (.int z :: rest))) (T.setFrames fs) := by
  have hm' : T.vm.method? m = some meth := X.method'
  have hn : narrow .int (.int z) = .int z := rfl
  show Steps p.tables e below (T.setTop { method := m, pc := pc, locals := Ls, stack := _ :: rest, locked := none }) _
  jvm_step X.here [X.here.top, hx, hd, hm', hret, hn]
  first | (intro acts; rw [hl _ acts rfl rfl rfl]) | rw [hl _ _ rfl rfl rfl]
  exact Steps.refl _
end New
end Jvm.RoadKit
namespace Jvm.Pilot.@@N@@
open Jvm Jvm.ClassFile Sem Op Lib Jvm.Free Jvm.Stand Jvm.LawKit Jvm.RoadKit Bundle Jvm.Pilot.@@N@@.Jvm.D
/-! The walk in a goal-driven form: own_Fin says that the run from A comes to an end at which Q holds, within the frame. -/
def own_Fin (p : Program) (e : Env) (below : List Frame) (s : State) (Q : Option Value → Heap → List Loc → Prop) (kc ks : Nat) (A : State) : Prop :=
  ∃ s₂ o, Steps p.tables e below A s₂ ∧ s₂.status = .running ∧ Ended s₂ below o ∧ ∃ v L, o = .returned v ∧ Q v s₂.heap L ∧ FrameEnd s o s₂ L kc ks
theorem own_Fin.go {p : Program} {e : Env} {below : List Frame} {s : State} {Q : Option Value → Heap → List Loc → Prop} {kc ks : Nat} {A B : State} (st : ∀ t, Steps p.tables e below B t → Steps p.tables e below A t) (h : own_Fin p e below s Q kc ks B) : own_Fin p e below s Q kc ks A := by
  obtain ⟨s₂, o, h1, h2⟩ := h
  exact ⟨s₂, o, st _ h1, h2⟩
section OwnRet
variable {p : Program} {l : Launch} {e : Env} {R : Room} {s : State} {m : MethodId} {args : Array Value} {below : List Frame} {meth : Method} {c : Code} {T : State} {locs : List Loc} {cells slots : Nat} {Q : Option Value → Heap → List Loc → Prop} {kc ks : Nat}
theorem own_end (X : Stand p l e R s m args below meth c T locs cells slots) {v : Option Value} (hv : meth.sig.returnType = none → v = none) (hlocks : meth.locks = false) (hc : cells ≤ kc) (hs : slots ≤ ks) {A : State}
    (h : ∀ fs : List Frame, (∀ (f : JFrame) (acts : List Action), f.method = m → f.locked = none → f.entered = [] → (doReturn e (T.setTop f) acts v).1 = T.setFrames fs) → Steps p.tables e below A (T.setFrames fs)) (hQ : Q v T.heap locs) : own_Fin p e below s Q kc ks A := by
  obtain ⟨fs, hr, hrun, hended, hW, hsame⟩ := X.leave (v := v) hv hlocks
  exact ⟨_, _, h fs hr, hrun, hended, _, _, rfl, hQ, ⟨_, rfl⟩, hW, hsame.mono hc hs⟩
theorem own_retN (X : Stand p l e R s m args below meth c T locs cells slots) (hx : p.tables.exec = Jvm.exec) {pc : Nat} {Ls : Array Slot} {z w : Int32} {t : FieldType} {rest : List Value} (hret : meth.sig.returnType = some t) (ht : t = .boolean ∨ t = .byte ∨ t = .char ∨ t = .short)
    (hd : decode c.code pc = .ok (.ireturn, 1)) (hlocks : meth.locks = false) (hw : nar t z = w) (hc : cells ≤ kc) (hs : slots ≤ ks) (hQ : Q (some (.int w)) T.heap locs) : own_Fin p e below s Q kc ks (T.setTop (mkF m pc Ls (.int z :: rest))) :=
  own_end X (v := some (.int w)) (fun h => by rw [hret] at h; cases h) hlocks hc hs (fun fs hr => retN X hx hret ht hd (by rw [hw]; exact hr)) hQ
theorem own_retI (X : Stand p l e R s m args below meth c T locs cells slots) (hx : p.tables.exec = Jvm.exec) {pc : Nat} {Ls : Array Slot} {z : Int32} {rest : List Value} (hret : meth.sig.returnType = some .int)
    (hd : decode c.code pc = .ok (.ireturn, 1)) (hlocks : meth.locks = false) (hc : cells ≤ kc) (hs : slots ≤ ks) (hQ : Q (some (.int z)) T.heap locs) : own_Fin p e below s Q kc ks (T.setTop (mkF m pc Ls (.int z :: rest))) :=
  own_end X (v := some (.int z)) (fun h => by rw [hret] at h; cases h) hlocks hc hs (fun fs hr => retI X hx hret hd hr) hQ
theorem own_retJ (X : Stand p l e R s m args below meth c T locs cells slots) (hx : p.tables.exec = Jvm.exec) {pc : Nat} {Ls : Array Slot} {z : Int64} (hret : meth.sig.returnType = some .long)
    (hd : decode c.code pc = .ok (.lreturn, 1)) (hlocks : meth.locks = false) (hc : cells ≤ kc) (hs : slots ≤ ks) (hQ : Q (some (.long z)) T.heap locs) : own_Fin p e below s Q kc ks (T.setTop (mkF m pc Ls [.long z])) :=
  own_end X (v := some (.long z)) (fun h => by rw [hret] at h; cases h) hlocks hc hs (fun fs hr => X.lreturnOut hx hret hd hr) hQ
theorem own_retA (X : Stand p l e R s m args below meth c T locs cells slots) (hx : p.tables.exec = Jvm.exec) {pc : Nat} {Ls : Array Slot} {a : Addr} {t : FieldType} {rest : List Value} (hret : meth.sig.returnType = some t) (ht : t.isReference = true)
    (hd : decode c.code pc = .ok (.areturn, 1)) (hlocks : meth.locks = false) (hc : cells ≤ kc) (hs : slots ≤ ks) (hQ : Q (some (.ref a)) T.heap locs) : own_Fin p e below s Q kc ks (T.setTop (mkF m pc Ls (.ref a :: rest))) :=
  own_end X (v := some (.ref a)) (fun h => by rw [hret] at h; cases h) hlocks hc hs (fun fs hr => retOut X hx hret (by cases t <;> first | rfl | (simp [FieldType.isReference] at ht)) (Or.inr (Or.inr (Or.inr (Or.inr ⟨rfl, ht, rfl⟩)))) hd hr) hQ
theorem own_ret0 (X : Stand p l e R s m args below meth c T locs cells slots) (hx : p.tables.exec = Jvm.exec) {pc : Nat} {Ls : Array Slot} (hret : meth.sig.returnType = none)
    (hd : decode c.code pc = .ok (.return_, 1)) (hlocks : meth.locks = false) (hc : cells ≤ kc) (hs : slots ≤ ks) (hQ : Q none T.heap locs) : own_Fin p e below s Q kc ks (T.setTop (mkF m pc Ls [])) :=
  own_end X (v := none) (fun _ => rfl) hlocks hc hs (fun fs hr => X.returnOut hx hret hd hr) hQ
end OwnRet
theorem own_selp {s : State} {args args' : Array Value} {C : String} {y w : MethodName} (hw : (Jvm.Cond.selects C w w).before args s = true) (hcls : w.cls = y.cls) (hpriv : s.PrivateAt y) (hinst : (Jvm.Cond.instanceMethod y).before args s = true) (hy : y.cls ≠ "java/lang/invoke/MethodHandle" ∧ y.cls ≠ "java/lang/invoke/VarHandle") : (Jvm.Cond.selects y.cls y y).before args' s = true := by
  obtain ⟨c2, r2, m2, -, -, q3, -, kP, hkP, hkPi⟩ := Cond.selects_spec hw
  exact selects_self_of_private (by rw [← hcls]; exact findClass_of_methodNamed q3) hkP hkPi hpriv hinst hy
abbrev own_EL : List (String × Nat) := [("java/lang/String", 7)]
def own_FinW (p : Program) (e : Env) (below : List Frame) (s : State) (Q : Option Value → Heap → List Loc → Prop) (kc ks : Nat) (A : State) : Prop :=
  ∃ s₂ o, Steps p.tables e below A s₂ ∧ s₂.status = .running ∧ Ended s₂ below o ∧ ∃ v L, o = .returned v ∧ Q v s₂.heap L ∧ FramedW s o s₂ L kc ks
theorem own_FinW.go {p : Program} {e : Env} {below : List Frame} {s : State} {Q : Option Value → Heap → List Loc → Prop} {kc ks : Nat} {A B : State} (st : ∀ t, Steps p.tables e below B t → Steps p.tables e below A t) (h : own_FinW p e below s Q kc ks B) : own_FinW p e below s Q kc ks A := by
  obtain ⟨s₂, o, h1, h2⟩ := h
  exact ⟨s₂, o, st _ h1, h2⟩
section OwnRetW
variable {p : Program} {l : Launch} {e : Env} {R : Room} {s : State} {vm₁ : Vm} {m : MethodId} {args : Array Value} {below : List Frame} {meth : Method} {c : Code} {T : State} {locs : List Loc} {cells slots : Nat} {Q : Option Value → Heap → List Loc → Prop} {kc ks : Nat}
theorem own_retNW (X : Stand p l e R (s.setVm vm₁) m args below meth c T locs cells slots) (hx : p.tables.exec = Jvm.exec) {n : Nat} (hS : s.Since vm₁ n) (hn : n ≤ T.heap.size) {pc : Nat} {Ls : Array Slot} {z w : Int32} {t : FieldType} {rest : List Value} (hret : meth.sig.returnType = some t) (ht : t = .boolean ∨ t = .byte ∨ t = .char ∨ t = .short)
    (hd : decode c.code pc = .ok (.ireturn, 1)) (hlocks : meth.locks = false) (hw : nar t z = w) (hc : cells ≤ kc) (hs : slots ≤ ks) (hQ : Q (some (.int w)) T.heap locs) : own_FinW p e below s Q kc ks (T.setTop (mkF m pc Ls (.int z :: rest))) := by
  obtain ⟨fs, hr, hrun, hended, h1, h2, h3, h4⟩ := X.leaveW hS hn (v := some (.int w)) (fun h => by rw [hret] at h; cases h) hlocks
  exact ⟨_, _, retN X hx hret ht hd (by rw [hw]; exact hr), hrun, hended, _, _, rfl, hQ, h1, h2, h3, h4.mono hc hs⟩
end OwnRetW
theorem own_staKeep {Z : State} {h h' : Heap} {C n d : String} {w : Value} (F : Sta Z h C n d w) (K : Keep h h' []) : Sta Z h' C n d w := by
  obtain ⟨cf, i, k, f, st, cell, h1, h2, h3, h4, h5, r⟩ := F
  exact ⟨cf, i, k, f, st, cell, h1, h2, h3, h4, K.2.1 _ _ h5 nin0, r⟩
theorem own_staKeep1 {Z : State} {h h' : Heap} {C n d D : String} {w : Value} {a : Addr} (F : Sta Z h C n d w) (K : Keep h h' [a]) (E : Exa Z h a D) : Sta Z h' C n d w := by
  obtain ⟨cf, i, k, f, st, cell, h1, h2, h3, h4, h5, h6, h7⟩ := F
  obtain ⟨c2, k2, e1, -, -, e4, -⟩ := E
  refine ⟨cf, i, k, f, st, cell, h1, h2, h3, h4, K.2.1 _ _ h5 (ninS (fun q => ?_) nin0), h6, h7⟩
  subst q
  cases h5.symm.trans e1
  rw [h6] at e4; cases e4
def own_FinH (p : Program) (e : Env) (below : List Frame) (s : State) (Q : Option Value → Heap → List Loc → Prop) (C : Vm → Heap → Prop) (kc ks : Nat) (A : State) : Prop :=
  ∃ s₂ o, Steps p.tables e below A s₂ ∧ s₂.status = .running ∧ Ended s₂ below o ∧ ∃ v L, o = .returned v ∧ Q v s₂.heap L ∧ C s₂.vm s₂.heap ∧ ReturnedEndW s o s₂ L kc ks
theorem own_FinH.go {p : Program} {e : Env} {below : List Frame} {s : State} {Q : Option Value → Heap → List Loc → Prop} {C : Vm → Heap → Prop} {kc ks : Nat} {A B : State} (st : ∀ t, Steps p.tables e below B t → Steps p.tables e below A t) (h : own_FinH p e below s Q C kc ks B) : own_FinH p e below s Q C kc ks A := by
  obtain ⟨s₂, o, h1, h2⟩ := h
  exact ⟨s₂, o, st _ h1, h2⟩
section OwnRetH
variable {p : Program} {l : Launch} {e : Env} {R : Room} {s : State} {vm₁ : Vm} {m : MethodId} {args : Array Value} {below : List Frame} {meth : Method} {c : Code} {T : State} {locs : List Loc} {cells slots : Nat} {Q : Option Value → Heap → List Loc → Prop} {C : Vm → Heap → Prop} {kc ks : Nat}
theorem own_ret0H (X : Stand p l e R (s.setVm vm₁) m args below meth c T locs cells slots) (hx : p.tables.exec = Jvm.exec) {n : Nat} (hS : s.Since vm₁ n) (hn : n ≤ T.heap.size) {pc : Nat} {Ls : Array Slot} (hret : meth.sig.returnType = none)
    (hd : decode c.code pc = .ok (.return_, 1)) (hlocks : meth.locks = false) (hc : cells ≤ kc) (hs : slots ≤ ks) (hC : C T.vm T.heap) (hQ : Q none T.heap locs) : own_FinH p e below s Q C kc ks (T.setTop (mkF m pc Ls [])) := by
  obtain ⟨fs, hr, hrun, hended, h1, h2, h3, h4⟩ := X.leaveW hS hn (v := none) (fun _ => rfl) hlocks
  exact ⟨_, _, X.returnOut hx hret hd hr, hrun, hended, _, _, rfl, hQ, hC, h1, h2, h3, h4.mono hc hs⟩
theorem own_retAH (X : Stand p l e R (s.setVm vm₁) m args below meth c T locs cells slots) (hx : p.tables.exec = Jvm.exec) {n : Nat} (hS : s.Since vm₁ n) (hn : n ≤ T.heap.size) {pc : Nat} {Ls : Array Slot} {a : Addr} {t : FieldType} {rest : List Value} (hret : meth.sig.returnType = some t) (ht : t.isReference = true)
    (hd : decode c.code pc = .ok (.areturn, 1)) (hlocks : meth.locks = false) (hc : cells ≤ kc) (hs : slots ≤ ks) (hC : C T.vm T.heap) (hQ : Q (some (.ref a)) T.heap locs) : own_FinH p e below s Q C kc ks (T.setTop (mkF m pc Ls (.ref a :: rest))) := by
  obtain ⟨fs, hr, hrun, hended, h1, h2, h3, h4⟩ := X.leaveW hS hn (v := some (.ref a)) (fun h => by rw [hret] at h; cases h) hlocks
  exact ⟨_, _, retOut X hx hret (by cases t <;> first | rfl | (simp [FieldType.isReference] at ht)) (Or.inr (Or.inr (Or.inr (Or.inr ⟨rfl, ht, rfl⟩)))) hd hr, hrun, hended, _, _, rfl, hQ, hC, h1, h2, h3, h4.mono hc hs⟩
end OwnRetH
theorem own_safeNull {Z : State} {EL : List (String × Nat)} {vm : Vm} {h : Heap} {x : Addr} (hal : Z.vm.Alike vm) (E : Exa Z h x "java/lang/String") (F : Fld Z h x "java/lang/String" "value" "[B" .null) : Safe Z EL vm h x := by
  rintro ⟨p, -, u, a, -, q, -, G, rfl | rfl⟩
  · obtain ⟨cell, cf, k, i, f, h1, h2, -, -, -, -, h7⟩ := F
    cases h1.symm.trans (show h[q.sa]? = some q.sC from G.ha)
    obtain ⟨cS, ⟨⟨-, -, -, ⟨cv, kv, iv, s4, -⟩, -, -, -, s8, -⟩, -⟩, -⟩ := G
    obtain ⟨k3, e3, -⟩ := State.fieldFound?_setVm (s := Z) hal h2
    have e4 := (show (Wst Z vm h).fieldFound? _ _ _ = _ from e3).symm.trans s4
    simp only [Option.some.injEq, Prod.mk.injEq] at e4
    rw [e4.2.2.2, s8] at h7
    cases h7
  · obtain ⟨cell, k, e1, e2, -⟩ := E
    cases e1.symm.trans (show h[q.sd]? = some q.SA from G.hd)
    obtain ⟨cS, -, -, f, -⟩ := G
    have f' : Z.vm.findClass "[B" = some q.SA.cls := by rw [← hal.findClass]; exact f
    obtain ⟨k1, q1, q2⟩ := Vm.findClass_spec f'
    obtain ⟨k2, q3, q4⟩ := Vm.findClass_spec e2
    cases q1.symm.trans q3
    exact absurd (q2.symm.trans q4) (by decide)
theorem own_b255 (x : Int32) : ¬ (255 : Int32) < nar .char ((x &&& (255 : Int32)).toUInt32.toUInt16.toUInt32.toInt32) := by
  have e : nar .char ((x &&& (255 : Int32)).toUInt32.toUInt16.toUInt32.toInt32) = x &&& 255 := by
    rw [i2c_mask]; exact i2c_mask x
  rw [e]
  have h := c_mask x 255 8 (by decide) (by decide)
  have e1 : (255 : Int32).toInt = 255 := rfl
  rw [Int32.lt_iff_toInt_lt]; omega
theorem own_drec_0 : decode jdk_30_method_1_code 0 = .ok (.aload_n 0, 1) := by decide +kernel
theorem own_drec_1 : decode jdk_30_method_1_code 1 = .ok (.invokespecial 1, 3) := by decide +kernel
theorem own_drec_4 : decode jdk_30_method_1_code 4 = .ok (.return_, 1) := by decide +kernel
theorem own_pn0 : plainName "java/lang/Record" = true := by first | (simp [plainName, overriddenIn]; done) | decide +kernel
theorem own_ef_rec (m : MethodId) (oa : Addr) : entryFrame m #[(.ref oa)] 1 = mkF m 0 #[.val (.ref oa)] [] := by first | (simp [entryFrame, mkF, argsToLocals, Value.category]; done) | rfl
def own_Q_rec (Z : State) (oa : Addr) (h0 : Heap) (n0 : Nat) (v : Option Value) (h : Heap) (L : List Loc) : Prop := v = none ∧ Fr n0 L ∧ h = h0
set_option maxRecDepth 65536 in
set_option maxHeartbeats 40000000 in
theorem own_rm_rec (l : Launch) (Z : State) (a0 : Array Value) (hw : ∀ d ∈ tables_1, d.before a0 Z = true) (ws : List Jvm.Cond) (oa : Addr) (h0 : Heap) (n0 : Nat) (Z0 : n0 ≤ h0.size) :
    MetFree l (⟨"java/lang/Record", "<init>", "()V"⟩ : MethodName) (head1 (Jvm.Cond.code (⟨"java/lang/Record", "<init>", "()V"⟩ : MethodName) jdk_30_method_1_code 1 none :: ws) ({ frames := 1, cells := 0, slots := 0, locals := 12 } : Room)) (fun a U => a = #[(.ref oa)] ∧ Z.Warmed39 U.vm ∧ U.heap = h0) (fun _ _ _ _ _ => True) (fun _ U o U' => ∃ v L, o = .returned v ∧ own_Q_rec Z oa h0 n0 v U'.heap L ∧ FrameEnd U o U' L ({ frames := 1, cells := 0, slots := 0, locals := 12 } : Room).cells ({ frames := 1, cells := 0, slots := 0, locals := 12 } : Room).slots) := by
  refine MetFree.of_bodySF (plainFor_of_name own_pn0) hisR ?_
  intro p e s m args below meth c s₁ Bd hml0 hP hK
  obtain ⟨rfl, hZ, hh⟩ := hP
  have hx := Bd.exec
  have hby := Bd.bytes
  have hml : c.maxLocals = 1 := hml0
  have hown : s.vm.findClass "java/lang/Record" = some m.cls := findClass_of_methodNamed Bd.named
  have hnm := (name_of_methodNamed Bd.named Bd.method).1
  have X0 : Stand p l e ({ frames := 1, cells := 0, slots := 0, locals := 12 } : Room) s m #[(.ref oa)] below meth c s₁ [] 0 0 := Stand.of_body Bd
  have e0 : s₁.heap = h0 := by rw [← hh, Bd.state]; rfl
  have N0 := Fr.nil n0
  show own_Fin p e below s (own_Q_rec Z oa h0 n0) ({ frames := 1, cells := 0, slots := 0, locals := 12 } : Room).cells ({ frames := 1, cells := 0, slots := 0, locals := 12 } : Room).slots (s₁.setTop (entryFrame m #[(.ref oa)] 1))
  refine own_Fin.go (fun t k => castTop (own_ef_rec m oa) k) ?_
  refine own_Fin.go (fun t k => XS.aloadN X0.here hx rfl (hb hby own_drec_0) rfl rfl k) ?_
  show own_Fin _ _ _ _ _ _ _ (s₁.setTop (mkF m 1 #[.val (.ref oa)] [(.ref oa)]))
  obtain ⟨T1, X1, e1, st1⟩ := initO X0 hx hZ hown (hw _ (List.mem_of_getElem? (i := 44) rfl)) (hw _ (List.mem_of_getElem? (i := 16) rfl)) (hw _ (List.mem_of_getElem? (i := 17) rfl)) e0 (g := (mkF m 1 #[.val (.ref oa)] [(.ref oa)])) rfl (by rw [hml]; rfl) rfl (hb hby own_drec_1) (by decide) (W := 0) (by show 2 * 0 + _ ≤ _; exact Nat.le_of_eq rfl) (by decide)
  refine own_Fin.go st1 ?_
  show own_Fin _ _ _ _ _ _ _ (T1.setTop (mkF m 4 #[.val (.ref oa)] []))
  refine own_ret0 X1 hx Bd.returns (hb hby own_drec_4) Bd.notSynchronized (by decide) (by decide) ?_
  rw [e1]
  exact ⟨rfl, N0, rfl⟩
theorem own_dac_0 : decode jdk_22_method_1_code 0 = .ok (.aload_n 0, 1) := by decide +kernel
theorem own_dac_1 : decode jdk_22_method_1_code 1 = .ok (.invokespecial 1, 3) := by decide +kernel
theorem own_dac_4 : decode jdk_22_method_1_code 4 = .ok (.return_, 1) := by decide +kernel
theorem own_pn1 : plainName "java/util/AbstractCollection" = true := by first | (simp [plainName, overriddenIn]; done) | decide +kernel
theorem own_ef_ac (m : MethodId) (oa : Addr) : entryFrame m #[(.ref oa)] 1 = mkF m 0 #[.val (.ref oa)] [] := by first | (simp [entryFrame, mkF, argsToLocals, Value.category]; done) | rfl
def own_Q_ac (Z : State) (oa : Addr) (h0 : Heap) (n0 : Nat) (v : Option Value) (h : Heap) (L : List Loc) : Prop := v = none ∧ Fr n0 L ∧ h = h0
set_option maxRecDepth 65536 in
set_option maxHeartbeats 40000000 in
theorem own_rm_ac (l : Launch) (Z : State) (a0 : Array Value) (hw : ∀ d ∈ tables_1, d.before a0 Z = true) (ws : List Jvm.Cond) (oa : Addr) (h0 : Heap) (n0 : Nat) (Z0 : n0 ≤ h0.size) :
    MetFree l (⟨"java/util/AbstractCollection", "<init>", "()V"⟩ : MethodName) (head1 (Jvm.Cond.code (⟨"java/util/AbstractCollection", "<init>", "()V"⟩ : MethodName) jdk_22_method_1_code 1 none :: ws) ({ frames := 1, cells := 0, slots := 0, locals := 12 } : Room)) (fun a U => a = #[(.ref oa)] ∧ Z.Warmed39 U.vm ∧ U.heap = h0) (fun _ _ _ _ _ => True) (fun _ U o U' => ∃ v L, o = .returned v ∧ own_Q_ac Z oa h0 n0 v U'.heap L ∧ FrameEnd U o U' L ({ frames := 1, cells := 0, slots := 0, locals := 12 } : Room).cells ({ frames := 1, cells := 0, slots := 0, locals := 12 } : Room).slots) := by
  refine MetFree.of_bodySF (plainFor_of_name own_pn1) hisR ?_
  intro p e s m args below meth c s₁ Bd hml0 hP hK
  obtain ⟨rfl, hZ, hh⟩ := hP
  have hx := Bd.exec
  have hby := Bd.bytes
  have hml : c.maxLocals = 1 := hml0
  have hown : s.vm.findClass "java/util/AbstractCollection" = some m.cls := findClass_of_methodNamed Bd.named
  have hnm := (name_of_methodNamed Bd.named Bd.method).1
  have X0 : Stand p l e ({ frames := 1, cells := 0, slots := 0, locals := 12 } : Room) s m #[(.ref oa)] below meth c s₁ [] 0 0 := Stand.of_body Bd
  have e0 : s₁.heap = h0 := by rw [← hh, Bd.state]; rfl
  have N0 := Fr.nil n0
  show own_Fin p e below s (own_Q_ac Z oa h0 n0) ({ frames := 1, cells := 0, slots := 0, locals := 12 } : Room).cells ({ frames := 1, cells := 0, slots := 0, locals := 12 } : Room).slots (s₁.setTop (entryFrame m #[(.ref oa)] 1))
  refine own_Fin.go (fun t k => castTop (own_ef_ac m oa) k) ?_
  refine own_Fin.go (fun t k => XS.aloadN X0.here hx rfl (hb hby own_dac_0) rfl rfl k) ?_
  show own_Fin _ _ _ _ _ _ _ (s₁.setTop (mkF m 1 #[.val (.ref oa)] [(.ref oa)]))
  obtain ⟨T1, X1, e1, st1⟩ := initO X0 hx hZ hown (hw _ (List.mem_of_getElem? (i := 91) rfl)) (hw _ (List.mem_of_getElem? (i := 16) rfl)) (hw _ (List.mem_of_getElem? (i := 17) rfl)) e0 (g := (mkF m 1 #[.val (.ref oa)] [(.ref oa)])) rfl (by rw [hml]; rfl) rfl (hb hby own_dac_1) (by decide) (W := 0) (by show 2 * 0 + _ ≤ _; exact Nat.le_of_eq rfl) (by decide)
  refine own_Fin.go st1 ?_
  show own_Fin _ _ _ _ _ _ _ (T1.setTop (mkF m 4 #[.val (.ref oa)] []))
  refine own_ret0 X1 hx Bd.returns (hb hby own_dac_4) Bd.notSynchronized (by decide) (by decide) ?_
  rw [e1]
  exact ⟨rfl, N0, rfl⟩
theorem own_pd0 : parseMethodDescriptor "()V" = some ⟨[], none⟩ := by decide +kernel
theorem own_daic_0 : decode jdk_47_method_1_code 0 = .ok (.aload_n 0, 1) := by decide +kernel
theorem own_daic_1 : decode jdk_47_method_1_code 1 = .ok (.invokespecial 1, 3) := by decide +kernel
theorem own_daic_4 : decode jdk_47_method_1_code 4 = .ok (.return_, 1) := by decide +kernel
theorem own_pn2 : plainName "java/util/ImmutableCollections$AbstractImmutableCollection" = true := by first | (simp [plainName, overriddenIn]; done) | decide +kernel
theorem own_ef_aic (m : MethodId) (oa : Addr) : entryFrame m #[(.ref oa)] 1 = mkF m 0 #[.val (.ref oa)] [] := by first | (simp [entryFrame, mkF, argsToLocals, Value.category]; done) | rfl
def own_Q_aic (Z : State) (oa : Addr) (h0 : Heap) (n0 : Nat) (v : Option Value) (h : Heap) (L : List Loc) : Prop := v = none ∧ Fr n0 L ∧ h = h0
set_option maxRecDepth 65536 in
set_option maxHeartbeats 40000000 in
theorem own_rm_aic (l : Launch) (Z : State) (a0 : Array Value) (hw : ∀ d ∈ tables_1, d.before a0 Z = true) (ws : List Jvm.Cond) (oa : Addr) (h0 : Heap) (n0 : Nat) (Z0 : n0 ≤ h0.size) :
    MetFree l (⟨"java/util/ImmutableCollections$AbstractImmutableCollection", "<init>", "()V"⟩ : MethodName) (head1 (Jvm.Cond.code (⟨"java/util/ImmutableCollections$AbstractImmutableCollection", "<init>", "()V"⟩ : MethodName) jdk_47_method_1_code 1 none :: ws) ({ frames := 2, cells := 0, slots := 0, locals := 24 } : Room)) (fun a U => a = #[(.ref oa)] ∧ Z.Warmed39 U.vm ∧ U.heap = h0) (fun _ _ _ _ _ => True) (fun _ U o U' => ∃ v L, o = .returned v ∧ own_Q_aic Z oa h0 n0 v U'.heap L ∧ FrameEnd U o U' L ({ frames := 2, cells := 0, slots := 0, locals := 24 } : Room).cells ({ frames := 2, cells := 0, slots := 0, locals := 24 } : Room).slots) := by
  refine MetFree.of_bodySF (plainFor_of_name own_pn2) hisR ?_
  intro p e s m args below meth c s₁ Bd hml0 hP hK
  obtain ⟨rfl, hZ, hh⟩ := hP
  have hx := Bd.exec
  have hby := Bd.bytes
  have hml : c.maxLocals = 1 := hml0
  have hown : s.vm.findClass "java/util/ImmutableCollections$AbstractImmutableCollection" = some m.cls := findClass_of_methodNamed Bd.named
  have hnm := (name_of_methodNamed Bd.named Bd.method).1
  have X0 : Stand p l e ({ frames := 2, cells := 0, slots := 0, locals := 24 } : Room) s m #[(.ref oa)] below meth c s₁ [] 0 0 := Stand.of_body Bd
  have e0 : s₁.heap = h0 := by rw [← hh, Bd.state]; rfl
  have N0 := Fr.nil n0
  show own_Fin p e below s (own_Q_aic Z oa h0 n0) ({ frames := 2, cells := 0, slots := 0, locals := 24 } : Room).cells ({ frames := 2, cells := 0, slots := 0, locals := 24 } : Room).slots (s₁.setTop (entryFrame m #[(.ref oa)] 1))
  refine own_Fin.go (fun t k => castTop (own_ef_aic m oa) k) ?_
  refine own_Fin.go (fun t k => XS.aloadN X0.here hx rfl (hb hby own_daic_0) rfl rfl k) ?_
  show own_Fin _ _ _ _ _ _ _ (s₁.setTop (mkF m 1 #[.val (.ref oa)] [(.ref oa)]))
  obtain ⟨_, _, ⟨T1, L1, k1, n1⟩, -, X1, ⟨Lc1, hQ1, l1, y1, z1⟩, st1⟩ := X0.specialBack hx (y := (⟨"java/util/AbstractCollection", "<init>", "()V"⟩ : MethodName)) rfl hown (mvT hZ (hw _ (List.mem_of_getElem? (i := 85) rfl))) (mvT hZ (hw _ (List.mem_of_getElem? (i := 86) rfl))) (mvT hZ (hw _ (List.mem_of_getElem? (i := 90) rfl))) (by decide) (backOf (W := 0) (own_rm_ac l Z a0 hw [] oa  h0 n0 Z0 ) hZ (hw _ (List.mem_of_getElem? (i := 90) rfl)) (hw _ (List.mem_of_getElem? (i := 89) rfl)) (by decide) (by decide)) (g := (mkF m 1 #[.val (.ref oa)] [(.ref oa)])) rfl (by rw [hml]; rfl) (Steps.refl _) (a := oa) (argsL := []) (rest := []) (lenOf own_pd0 rfl) rfl (by show 2 * 0 + _ ≤ _; exact Nat.le_of_eq rfl) (hb hby own_daic_1) (fun _ _ => ⟨rfl, e0, (by decide : 0 + 0 ≤ _), (by decide : 0 + 0 ≤ _)⟩)
  dsimp only [Pt.U, Pt.locs, Pt.cells, Pt.slots] at X1 l1 y1 z1 st1 hQ1
  subst l1 y1 z1
  obtain ⟨rfl, N1q, e1⟩ := hQ1
  refine own_Fin.go (fun t k => st1.trans k) ?_
  have N1 := Fr.app N0 N1q
  show own_Fin _ _ _ _ _ _ _ (T1.setTop (mkF m 4 #[.val (.ref oa)] []))
  refine own_ret0 X1 hx Bd.returns (hb hby own_daic_4) Bd.notSynchronized (by decide) (by decide) ?_
  rw [e1]
  exact ⟨rfl, N1, rfl⟩
theorem own_dail_0 : decode jdk_46_method_1_code 0 = .ok (.aload_n 0, 1) := by decide +kernel
theorem own_dail_1 : decode jdk_46_method_1_code 1 = .ok (.invokespecial 1, 3) := by decide +kernel
theorem own_dail_4 : decode jdk_46_method_1_code 4 = .ok (.return_, 1) := by decide +kernel
theorem own_pn3 : plainName "java/util/ImmutableCollections$AbstractImmutableList" = true := by first | (simp [plainName, overriddenIn]; done) | decide +kernel
theorem own_ef_ail (m : MethodId) (oa : Addr) : entryFrame m #[(.ref oa)] 1 = mkF m 0 #[.val (.ref oa)] [] := by first | (simp [entryFrame, mkF, argsToLocals, Value.category]; done) | rfl
def own_Q_ail (Z : State) (oa : Addr) (h0 : Heap) (n0 : Nat) (v : Option Value) (h : Heap) (L : List Loc) : Prop := v = none ∧ Fr n0 L ∧ h = h0
set_option maxRecDepth 65536 in
set_option maxHeartbeats 40000000 in
theorem own_rm_ail (l : Launch) (Z : State) (a0 : Array Value) (hw : ∀ d ∈ tables_1, d.before a0 Z = true) (ws : List Jvm.Cond) (oa : Addr) (h0 : Heap) (n0 : Nat) (Z0 : n0 ≤ h0.size) :
    MetFree l (⟨"java/util/ImmutableCollections$AbstractImmutableList", "<init>", "()V"⟩ : MethodName) (head1 (Jvm.Cond.code (⟨"java/util/ImmutableCollections$AbstractImmutableList", "<init>", "()V"⟩ : MethodName) jdk_46_method_1_code 1 none :: ws) ({ frames := 3, cells := 0, slots := 0, locals := 36 } : Room)) (fun a U => a = #[(.ref oa)] ∧ Z.Warmed39 U.vm ∧ U.heap = h0) (fun _ _ _ _ _ => True) (fun _ U o U' => ∃ v L, o = .returned v ∧ own_Q_ail Z oa h0 n0 v U'.heap L ∧ FrameEnd U o U' L ({ frames := 3, cells := 0, slots := 0, locals := 36 } : Room).cells ({ frames := 3, cells := 0, slots := 0, locals := 36 } : Room).slots) := by
  refine MetFree.of_bodySF (plainFor_of_name own_pn3) hisR ?_
  intro p e s m args below meth c s₁ Bd hml0 hP hK
  obtain ⟨rfl, hZ, hh⟩ := hP
  have hx := Bd.exec
  have hby := Bd.bytes
  have hml : c.maxLocals = 1 := hml0
  have hown : s.vm.findClass "java/util/ImmutableCollections$AbstractImmutableList" = some m.cls := findClass_of_methodNamed Bd.named
  have hnm := (name_of_methodNamed Bd.named Bd.method).1
  have X0 : Stand p l e ({ frames := 3, cells := 0, slots := 0, locals := 36 } : Room) s m #[(.ref oa)] below meth c s₁ [] 0 0 := Stand.of_body Bd
  have e0 : s₁.heap = h0 := by rw [← hh, Bd.state]; rfl
  have N0 := Fr.nil n0
  show own_Fin p e below s (own_Q_ail Z oa h0 n0) ({ frames := 3, cells := 0, slots := 0, locals := 36 } : Room).cells ({ frames := 3, cells := 0, slots := 0, locals := 36 } : Room).slots (s₁.setTop (entryFrame m #[(.ref oa)] 1))
  refine own_Fin.go (fun t k => castTop (own_ef_ail m oa) k) ?_
  refine own_Fin.go (fun t k => XS.aloadN X0.here hx rfl (hb hby own_dail_0) rfl rfl k) ?_
  show own_Fin _ _ _ _ _ _ _ (s₁.setTop (mkF m 1 #[.val (.ref oa)] [(.ref oa)]))
  obtain ⟨_, _, ⟨T1, L1, k1, n1⟩, -, X1, ⟨Lc1, hQ1, l1, y1, z1⟩, st1⟩ := X0.specialBack hx (y := (⟨"java/util/ImmutableCollections$AbstractImmutableCollection", "<init>", "()V"⟩ : MethodName)) rfl hown (mvT hZ (hw _ (List.mem_of_getElem? (i := 79) rfl))) (mvT hZ (hw _ (List.mem_of_getElem? (i := 80) rfl))) (mvT hZ (hw _ (List.mem_of_getElem? (i := 84) rfl))) (by decide) (backOf (W := 0) (own_rm_aic l Z a0 hw [] oa  h0 n0 Z0 ) hZ (hw _ (List.mem_of_getElem? (i := 84) rfl)) (hw _ (List.mem_of_getElem? (i := 83) rfl)) (by decide) (by decide)) (g := (mkF m 1 #[.val (.ref oa)] [(.ref oa)])) rfl (by rw [hml]; rfl) (Steps.refl _) (a := oa) (argsL := []) (rest := []) (lenOf own_pd0 rfl) rfl (by show 2 * 0 + _ ≤ _; exact Nat.le_of_eq rfl) (hb hby own_dail_1) (fun _ _ => ⟨rfl, e0, (by decide : 0 + 0 ≤ _), (by decide : 0 + 0 ≤ _)⟩)
  dsimp only [Pt.U, Pt.locs, Pt.cells, Pt.slots] at X1 l1 y1 z1 st1 hQ1
  subst l1 y1 z1
  obtain ⟨rfl, N1q, e1⟩ := hQ1
  refine own_Fin.go (fun t k => st1.trans k) ?_
  have N1 := Fr.app N0 N1q
  show own_Fin _ _ _ _ _ _ _ (T1.setTop (mkF m 4 #[.val (.ref oa)] []))
  refine own_ret0 X1 hx Bd.returns (hb hby own_dail_4) Bd.notSynchronized (by decide) (by decide) ?_
  rw [e1]
  exact ⟨rfl, N1, rfl⟩
theorem own_drnn_0 : decode jdk_31_method_10_code 0 = .ok (.aload_n 0, 1) := by decide +kernel
theorem own_drnn_1 : decode jdk_31_method_10_code 1 = .ok (.ifnonnull 11, 3) := by decide +kernel
theorem own_drnn_12 : decode jdk_31_method_10_code 12 = .ok (.aload_n 0, 1) := by decide +kernel
theorem own_drnn_13 : decode jdk_31_method_10_code 13 = .ok (.areturn, 1) := by decide +kernel
theorem own_pn4 : plainName "java/util/Objects" = true := by first | (simp [plainName, overriddenIn]; done) | decide +kernel
theorem own_ef_rnn (m : MethodId) (oa : Addr) : entryFrame m #[(.ref oa)] 1 = mkF m 0 #[.val (.ref oa)] [] := by first | (simp [entryFrame, mkF, argsToLocals, Value.category]; done) | rfl
def own_Q_rnn (Z : State) (oa : Addr) (h0 : Heap) (n0 : Nat) (v : Option Value) (h : Heap) (L : List Loc) : Prop := v = some (.ref oa) ∧ Fr n0 L ∧ h = h0
set_option maxRecDepth 65536 in
set_option maxHeartbeats 40000000 in
theorem own_rm_rnn (l : Launch) (Z : State) (a0 : Array Value) (hw : ∀ d ∈ tables_1, d.before a0 Z = true) (ws : List Jvm.Cond) (oa : Addr) (h0 : Heap) (n0 : Nat) (Z0 : n0 ≤ h0.size) :
    MetFree l (⟨"java/util/Objects", "requireNonNull", "(Ljava/lang/Object;)Ljava/lang/Object;"⟩ : MethodName) (head1 (Jvm.Cond.code (⟨"java/util/Objects", "requireNonNull", "(Ljava/lang/Object;)Ljava/lang/Object;"⟩ : MethodName) jdk_31_method_10_code 1 (some (.object "java/lang/Object")) :: ws) ({ frames := 0, cells := 0, slots := 0, locals := 0 } : Room)) (fun a U => a = #[(.ref oa)] ∧ Z.Warmed39 U.vm ∧ U.heap = h0) (fun _ _ _ _ _ => True) (fun _ U o U' => ∃ v L, o = .returned v ∧ own_Q_rnn Z oa h0 n0 v U'.heap L ∧ FrameEnd U o U' L ({ frames := 0, cells := 0, slots := 0, locals := 0 } : Room).cells ({ frames := 0, cells := 0, slots := 0, locals := 0 } : Room).slots) := by
  refine MetFree.of_bodySF (plainFor_of_name own_pn4) hisR ?_
  intro p e s m args below meth c s₁ Bd hml0 hP hK
  obtain ⟨rfl, hZ, hh⟩ := hP
  have hx := Bd.exec
  have hby := Bd.bytes
  have hml : c.maxLocals = 1 := hml0
  have hown : s.vm.findClass "java/util/Objects" = some m.cls := findClass_of_methodNamed Bd.named
  have hnm := (name_of_methodNamed Bd.named Bd.method).1
  have X0 : Stand p l e ({ frames := 0, cells := 0, slots := 0, locals := 0 } : Room) s m #[(.ref oa)] below meth c s₁ [] 0 0 := Stand.of_body Bd
  have e0 : s₁.heap = h0 := by rw [← hh, Bd.state]; rfl
  have N0 := Fr.nil n0
  show own_Fin p e below s (own_Q_rnn Z oa h0 n0) ({ frames := 0, cells := 0, slots := 0, locals := 0 } : Room).cells ({ frames := 0, cells := 0, slots := 0, locals := 0 } : Room).slots (s₁.setTop (entryFrame m #[(.ref oa)] 1))
  refine own_Fin.go (fun t k => castTop (own_ef_rnn m oa) k) ?_
  refine own_Fin.go (fun t k => XS.aloadN X0.here hx rfl (hb hby own_drnn_0) rfl rfl k) ?_
  show own_Fin _ _ _ _ _ _ _ (s₁.setTop (mkF m 1 #[.val (.ref oa)] [(.ref oa)]))
  refine own_Fin.go (fun t k => XS.ifnonnullYes X0.here hx rfl (pc0 := 1) (pc' := 12) rfl (hb hby own_drnn_1) rfl (by decide) (by decide) k) ?_
  show own_Fin _ _ _ _ _ _ _ (s₁.setTop (mkF m 12 #[.val (.ref oa)] []))
  refine own_Fin.go (fun t k => XS.aloadN X0.here hx rfl (hb hby own_drnn_12) rfl rfl k) ?_
  show own_Fin _ _ _ _ _ _ _ (s₁.setTop (mkF m 13 #[.val (.ref oa)] [(.ref oa)]))
  refine own_retA X0 hx Bd.returns rfl (hb hby own_drnn_13) Bd.notSynchronized (by decide) (by decide) ?_
  rw [e0]
  exact ⟨rfl, N0, rfl⟩
theorem own_pd1 : parseMethodDescriptor "(Ljava/lang/Object;)Ljava/lang/Object;" = some ⟨[(.object "java/lang/Object")], some (.object "java/lang/Object")⟩ := by decide +kernel
theorem own_dl12_0 : decode jdk_44_method_2_code 0 = .ok (.aload_n 0, 1) := by decide +kernel
theorem own_dl12_1 : decode jdk_44_method_2_code 1 = .ok (.invokespecial 1, 3) := by decide +kernel
theorem own_dl12_4 : decode jdk_44_method_2_code 4 = .ok (.aload_n 0, 1) := by decide +kernel
theorem own_dl12_5 : decode jdk_44_method_2_code 5 = .ok (.aload_n 1, 1) := by decide +kernel
theorem own_dl12_6 : decode jdk_44_method_2_code 6 = .ok (.invokestatic 7, 3) := by decide +kernel
theorem own_dl12_9 : decode jdk_44_method_2_code 9 = .ok (.putfield 13, 3) := by decide +kernel
theorem own_dl12_12 : decode jdk_44_method_2_code 12 = .ok (.aload_n 0, 1) := by decide +kernel
theorem own_dl12_13 : decode jdk_44_method_2_code 13 = .ok (.aload_n 2, 1) := by decide +kernel
theorem own_dl12_14 : decode jdk_44_method_2_code 14 = .ok (.invokestatic 7, 3) := by decide +kernel
theorem own_dl12_17 : decode jdk_44_method_2_code 17 = .ok (.putfield 24, 3) := by decide +kernel
theorem own_dl12_20 : decode jdk_44_method_2_code 20 = .ok (.return_, 1) := by decide +kernel
theorem own_pn5 : plainName "java/util/ImmutableCollections$List12" = true := by first | (simp [plainName, overriddenIn]; done) | decide +kernel
theorem own_ef_l12 (m : MethodId) (oa : Addr) (ou : Addr) (ov : Addr) : entryFrame m #[(.ref oa), (.ref ou), (.ref ov)] 3 = mkF m 0 #[.val (.ref oa), .val (.ref ou), .val (.ref ov)] [] := by first | (simp [entryFrame, mkF, argsToLocals, Value.category]; done) | rfl
def own_Q_l12 (Z : State) (oa : Addr) (ou : Addr) (ov : Addr) (h0 : Heap) (n0 : Nat) (v : Option Value) (h : Heap) (L : List Loc) : Prop := v = none ∧ Fr n0 L ∧ Keep h0 h [oa] ∧ Exa Z h oa "java/util/ImmutableCollections$List12" ∧ Fld Z h oa "java/util/ImmutableCollections$List12" "e0" "Ljava/lang/Object;" (.ref ou) ∧ Fld Z h oa "java/util/ImmutableCollections$List12" "e1" "Ljava/lang/Object;" (.ref ov)
set_option maxRecDepth 65536 in
set_option maxHeartbeats 40000000 in
theorem own_rm_l12 (l : Launch) (Z : State) (a0 : Array Value) (hw : ∀ d ∈ tables_1, d.before a0 Z = true) (ws : List Jvm.Cond) (oa : Addr) (ou : Addr) (ov : Addr) (h0 : Heap) (n0 : Nat) (Z0 : n0 ≤ h0.size) (E_oa : Exa Z h0 oa "java/util/ImmutableCollections$List12") (F_oa_e0 : Fld Z h0 oa "java/util/ImmutableCollections$List12" "e0" "Ljava/lang/Object;" .null) (F_oa_e1 : Fld Z h0 oa "java/util/ImmutableCollections$List12" "e1" "Ljava/lang/Object;" .null) (g_oa : n0 ≤ oa) :
    MetFree l (⟨"java/util/ImmutableCollections$List12", "<init>", "(Ljava/lang/Object;Ljava/lang/Object;)V"⟩ : MethodName) (head1 (Jvm.Cond.code (⟨"java/util/ImmutableCollections$List12", "<init>", "(Ljava/lang/Object;Ljava/lang/Object;)V"⟩ : MethodName) jdk_44_method_2_code 3 none :: ws) ({ frames := 4, cells := 0, slots := 0, locals := 48 } : Room)) (fun a U => a = #[(.ref oa), (.ref ou), (.ref ov)] ∧ Z.Warmed39 U.vm ∧ U.heap = h0) (fun _ _ _ _ _ => True) (fun _ U o U' => ∃ v L, o = .returned v ∧ own_Q_l12 Z oa ou ov h0 n0 v U'.heap L ∧ FrameEnd U o U' L ({ frames := 4, cells := 0, slots := 0, locals := 48 } : Room).cells ({ frames := 4, cells := 0, slots := 0, locals := 48 } : Room).slots) := by
  refine MetFree.of_bodySF (plainFor_of_name own_pn5) hisR ?_
  intro p e s m args below meth c s₁ Bd hml0 hP hK
  obtain ⟨rfl, hZ, hh⟩ := hP
  have hx := Bd.exec
  have hby := Bd.bytes
  have hml : c.maxLocals = 3 := hml0
  have hown : s.vm.findClass "java/util/ImmutableCollections$List12" = some m.cls := findClass_of_methodNamed Bd.named
  have hnm := (name_of_methodNamed Bd.named Bd.method).1
  have X0 : Stand p l e ({ frames := 4, cells := 0, slots := 0, locals := 48 } : Room) s m #[(.ref oa), (.ref ou), (.ref ov)] below meth c s₁ [] 0 0 := Stand.of_body Bd
  have e0 : s₁.heap = h0 := by rw [← hh, Bd.state]; rfl
  have N0 := Fr.nil n0
  have K0 := Keep.refl h0 [oa]
  show own_Fin p e below s (own_Q_l12 Z oa ou ov h0 n0) ({ frames := 4, cells := 0, slots := 0, locals := 48 } : Room).cells ({ frames := 4, cells := 0, slots := 0, locals := 48 } : Room).slots (s₁.setTop (entryFrame m #[(.ref oa), (.ref ou), (.ref ov)] 3))
  refine own_Fin.go (fun t k => castTop (own_ef_l12 m oa ou ov) k) ?_
  refine own_Fin.go (fun t k => XS.aloadN X0.here hx rfl (hb hby own_dl12_0) rfl rfl k) ?_
  show own_Fin _ _ _ _ _ _ _ (s₁.setTop (mkF m 1 #[.val (.ref oa), .val (.ref ou), .val (.ref ov)] [(.ref oa)]))
  obtain ⟨_, _, ⟨T1, L1, k1, n1⟩, -, X1, ⟨Lc1, hQ1, l1, y1, z1⟩, st1⟩ := X0.specialBack hx (y := (⟨"java/util/ImmutableCollections$AbstractImmutableList", "<init>", "()V"⟩ : MethodName)) rfl hown (mvT hZ (hw _ (List.mem_of_getElem? (i := 73) rfl))) (mvT hZ (hw _ (List.mem_of_getElem? (i := 74) rfl))) (mvT hZ (hw _ (List.mem_of_getElem? (i := 78) rfl))) (by decide) (backOf (W := 0) (own_rm_ail l Z a0 hw [] oa  h0 n0 Z0 ) hZ (hw _ (List.mem_of_getElem? (i := 78) rfl)) (hw _ (List.mem_of_getElem? (i := 77) rfl)) (by decide) (by decide)) (g := (mkF m 1 #[.val (.ref oa), .val (.ref ou), .val (.ref ov)] [(.ref oa)])) rfl (by rw [hml]; rfl) (Steps.refl _) (a := oa) (argsL := []) (rest := []) (lenOf own_pd0 rfl) rfl (by show 2 * 0 + _ ≤ _; exact Nat.le_of_eq rfl) (hb hby own_dl12_1) (fun _ _ => ⟨rfl, e0, (by decide : 0 + 0 ≤ _), (by decide : 0 + 0 ≤ _)⟩)
  dsimp only [Pt.U, Pt.locs, Pt.cells, Pt.slots] at X1 l1 y1 z1 st1 hQ1
  subst l1 y1 z1
  obtain ⟨rfl, N1q, e1⟩ := hQ1
  refine own_Fin.go (fun t k => st1.trans k) ?_
  have N1 := Fr.app N0 N1q
  show own_Fin _ _ _ _ _ _ _ (T1.setTop (mkF m 4 #[.val (.ref oa), .val (.ref ou), .val (.ref ov)] []))
  refine own_Fin.go (fun t k => XS.aloadN X1.here hx rfl (hb hby own_dl12_4) rfl rfl k) ?_
  show own_Fin _ _ _ _ _ _ _ (T1.setTop (mkF m 5 #[.val (.ref oa), .val (.ref ou), .val (.ref ov)] [(.ref oa)]))
  refine own_Fin.go (fun t k => XS.aloadN X1.here hx rfl (hb hby own_dl12_5) rfl rfl k) ?_
  show own_Fin _ _ _ _ _ _ _ (T1.setTop (mkF m 6 #[.val (.ref oa), .val (.ref ou), .val (.ref ov)] [(.ref ou), (.ref oa)]))
  obtain ⟨_, _, ⟨T2, L2, k2, n2⟩, -, X2, ⟨Lc2, hQ2, l2, y2, z2⟩, st2⟩ := Jvm.LawKit.callS X1 hx (y := (⟨"java/util/Objects", "requireNonNull", "(Ljava/lang/Object;)Ljava/lang/Object;"⟩ : MethodName)) hown (mvT hZ (hw _ (List.mem_of_getElem? (i := 92) rfl))) (mvT hZ (hw _ (List.mem_of_getElem? (i := 93) rfl))) (mvT hZ (hw _ (List.mem_of_getElem? (i := 94) rfl))) (mvT hZ (hw _ (List.mem_of_getElem? (i := 95) rfl))) (by decide) (backOf (W := 1) (own_rm_rnn l Z a0 hw [] ou  h0 n0 Z0 ) hZ (hw _ (List.mem_of_getElem? (i := 95) rfl)) (hw _ (List.mem_of_getElem? (i := 94) rfl)) (by decide) (by decide)) (g := (mkF m 6 #[.val (.ref oa), .val (.ref ou), .val (.ref ov)] [(.ref ou), (.ref oa)])) rfl (by rw [hml]; rfl) (argsL := [(.ref ou)]) (rest := [(.ref oa)]) (lenOf own_pd1 rfl) rfl (by show 2 * 0 + _ ≤ _; exact Nat.le_of_eq rfl) (hb hby own_dl12_6) (fun _ _ => ⟨rfl, e1, (by decide : 0 + 0 ≤ _), (by decide : 0 + 0 ≤ _)⟩)
  dsimp only [Pt.U, Pt.locs, Pt.cells, Pt.slots] at X2 l2 y2 z2 st2 hQ2
  subst l2 y2 z2
  obtain ⟨rfl, N2q, e2⟩ := hQ2
  refine own_Fin.go (fun t k => st2 t k) ?_
  have N2 := Fr.app N1 N2q
  show own_Fin _ _ _ _ _ _ _ (T2.setTop (mkF m 9 #[.val (.ref oa), .val (.ref ou), .val (.ref ov)] [(.ref ou), (.ref oa)]))
  obtain ⟨T3, h3, X3, e3, W3, st3⟩ := putF X2 hx hZ hown (host := "") (Or.inl (hw _ (List.mem_of_getElem? (i := 96) rfl))) Via.refl e2 F_oa_e0 E_oa (Or.inr ⟨(hw _ (List.mem_of_getElem? (i := 97) rfl)), rfl, hnm⟩) (hw _ (List.mem_of_getElem? (i := 67) rfl)) (ty := (.object "java/lang/Object")) (by decide) rfl rfl (g := (mkF m 9 #[.val (.ref oa), .val (.ref ou), .val (.ref ov)] [(.ref ou), (.ref oa)])) rfl rfl (hb hby own_dl12_9)
  refine own_Fin.go st3 ?_
  have F_oa_e0_3 := Fld.same W3 F_oa_e0
  have E_oa_3 := Exa.wr W3 E_oa
  have F_oa_e1_3 := Fld.other W3 F_oa_e1 (Or.inr (slot_ne (Or.inr (hw _ (List.mem_of_getElem? (i := 99) rfl))) (Or.inr (hw _ (List.mem_of_getElem? (i := 97) rfl))) (by decide) (t := (.object "java/lang/Object")) (t' := (.object "java/lang/Object")) (by decide) (by decide)))
  have Z3 := Nat.le_trans Z0 (Keep.of_wr W3).1
  have K3 := K0.wr W3 (Or.inl (List.mem_of_getElem? (i := 0) rfl))
  have N3 := Fr.snoc X3 N2 g_oa
  show own_Fin _ _ _ _ _ _ _ (T3.setTop (mkF m 12 #[.val (.ref oa), .val (.ref ou), .val (.ref ov)] []))
  refine own_Fin.go (fun t k => XS.aloadN X3.here hx rfl (hb hby own_dl12_12) rfl rfl k) ?_
  show own_Fin _ _ _ _ _ _ _ (T3.setTop (mkF m 13 #[.val (.ref oa), .val (.ref ou), .val (.ref ov)] [(.ref oa)]))
  refine own_Fin.go (fun t k => XS.aloadN X3.here hx rfl (hb hby own_dl12_13) rfl rfl k) ?_
  show own_Fin _ _ _ _ _ _ _ (T3.setTop (mkF m 14 #[.val (.ref oa), .val (.ref ou), .val (.ref ov)] [(.ref ov), (.ref oa)]))
  obtain ⟨_, _, ⟨T4, L4, k4, n4⟩, -, X4, ⟨Lc4, hQ4, l4, y4, z4⟩, st4⟩ := Jvm.LawKit.callS X3 hx (y := (⟨"java/util/Objects", "requireNonNull", "(Ljava/lang/Object;)Ljava/lang/Object;"⟩ : MethodName)) hown (mvT hZ (hw _ (List.mem_of_getElem? (i := 92) rfl))) (mvT hZ (hw _ (List.mem_of_getElem? (i := 93) rfl))) (mvT hZ (hw _ (List.mem_of_getElem? (i := 94) rfl))) (mvT hZ (hw _ (List.mem_of_getElem? (i := 95) rfl))) (by decide) (backOf (W := 1) (own_rm_rnn l Z a0 hw [] ov  h3 n0 Z3 ) hZ (hw _ (List.mem_of_getElem? (i := 95) rfl)) (hw _ (List.mem_of_getElem? (i := 94) rfl)) (by decide) (by decide)) (g := (mkF m 14 #[.val (.ref oa), .val (.ref ou), .val (.ref ov)] [(.ref ov), (.ref oa)])) rfl (by rw [hml]; rfl) (argsL := [(.ref ov)]) (rest := [(.ref oa)]) (lenOf own_pd1 rfl) rfl (by show 2 * 0 + _ ≤ _; exact Nat.le_of_eq rfl) (hb hby own_dl12_14) (fun _ _ => ⟨rfl, e3, (by decide : 0 + 0 ≤ _), (by decide : 0 + 0 ≤ _)⟩)
  dsimp only [Pt.U, Pt.locs, Pt.cells, Pt.slots] at X4 l4 y4 z4 st4 hQ4
  subst l4 y4 z4
  obtain ⟨rfl, N4q, e4⟩ := hQ4
  refine own_Fin.go (fun t k => st4 t k) ?_
  have N4 := Fr.app N3 N4q
  show own_Fin _ _ _ _ _ _ _ (T4.setTop (mkF m 17 #[.val (.ref oa), .val (.ref ou), .val (.ref ov)] [(.ref ov), (.ref oa)]))
  obtain ⟨T5, h5, X5, e5, W5, st5⟩ := putF X4 hx hZ hown (host := "") (Or.inl (hw _ (List.mem_of_getElem? (i := 98) rfl))) Via.refl e4 F_oa_e1_3 E_oa_3 (Or.inr ⟨(hw _ (List.mem_of_getElem? (i := 99) rfl)), rfl, hnm⟩) (hw _ (List.mem_of_getElem? (i := 67) rfl)) (ty := (.object "java/lang/Object")) (by decide) rfl rfl (g := (mkF m 17 #[.val (.ref oa), .val (.ref ou), .val (.ref ov)] [(.ref ov), (.ref oa)])) rfl rfl (hb hby own_dl12_17)
  refine own_Fin.go st5 ?_
  have F_oa_e1_5 := Fld.same W5 F_oa_e1_3
  have E_oa_5 := Exa.wr W5 E_oa_3
  have F_oa_e0_5 := Fld.other W5 F_oa_e0_3 (Or.inr (slot_ne (Or.inr (hw _ (List.mem_of_getElem? (i := 97) rfl))) (Or.inr (hw _ (List.mem_of_getElem? (i := 99) rfl))) (by decide) (t := (.object "java/lang/Object")) (t' := (.object "java/lang/Object")) (by decide) (by decide)))
  have Z5 := Nat.le_trans Z3 (Keep.of_wr W5).1
  have K5 := K3.wr W5 (Or.inl (List.mem_of_getElem? (i := 0) rfl))
  have N5 := Fr.snoc X5 N4 g_oa
  show own_Fin _ _ _ _ _ _ _ (T5.setTop (mkF m 20 #[.val (.ref oa), .val (.ref ou), .val (.ref ov)] []))
  refine own_ret0 X5 hx Bd.returns (hb hby own_dl12_20) Bd.notSynchronized (by decide) (by decide) ?_
  rw [e5]
  exact ⟨rfl, N5, K5, E_oa_5, F_oa_e0_5, F_oa_e1_5⟩
theorem own_pd2 : parseMethodDescriptor "(Ljava/lang/Object;Ljava/lang/Object;)V" = some ⟨[(.object "java/lang/Object"), (.object "java/lang/Object")], none⟩ := by decide +kernel
theorem own_dlof_0 : decode jdk_40_method_38_code 0 = .ok (.new 96, 3) := by decide +kernel
theorem own_dlof_3 : decode jdk_40_method_38_code 3 = .ok (.dup, 1) := by decide +kernel
theorem own_dlof_4 : decode jdk_40_method_38_code 4 = .ok (.aload_n 0, 1) := by decide +kernel
theorem own_dlof_5 : decode jdk_40_method_38_code 5 = .ok (.aload_n 1, 1) := by decide +kernel
theorem own_dlof_6 : decode jdk_40_method_38_code 6 = .ok (.invokespecial 100, 3) := by decide +kernel
theorem own_dlof_9 : decode jdk_40_method_38_code 9 = .ok (.areturn, 1) := by decide +kernel
theorem own_pn6 : plainName "java/util/List" = true := by first | (simp [plainName, overriddenIn]; done) | decide +kernel
theorem own_ef_lof (m : MethodId) (ou : Addr) (ov : Addr) : entryFrame m #[(.ref ou), (.ref ov)] 2 = mkF m 0 #[.val (.ref ou), .val (.ref ov)] [] := by first | (simp [entryFrame, mkF, argsToLocals, Value.category]; done) | rfl
def own_Q_lof (Z : State) (ou : Addr) (ov : Addr) (h0 : Heap) (n0 : Nat) (v : Option Value) (h : Heap) (L : List Loc) : Prop := ∃ ob : Addr, v = some (.ref ob) ∧ Fr n0 L ∧ Keep h0 h [] ∧ Exa Z h ob "java/util/ImmutableCollections$List12" ∧ Fld Z h ob "java/util/ImmutableCollections$List12" "e0" "Ljava/lang/Object;" (.ref ou) ∧ Fld Z h ob "java/util/ImmutableCollections$List12" "e1" "Ljava/lang/Object;" (.ref ov) ∧ h0.size ≤ ob
set_option maxRecDepth 65536 in
set_option maxHeartbeats 40000000 in
theorem own_rm_lof (l : Launch) (Z : State) (a0 : Array Value) (hw : ∀ d ∈ tables_1, d.before a0 Z = true) (ws : List Jvm.Cond) (ou : Addr) (ov : Addr) (h0 : Heap) (n0 : Nat) (Z0 : n0 ≤ h0.size) :
    MetFree l (⟨"java/util/List", "of", "(Ljava/lang/Object;Ljava/lang/Object;)Ljava/util/List;"⟩ : MethodName) (head1 (Jvm.Cond.code (⟨"java/util/List", "of", "(Ljava/lang/Object;Ljava/lang/Object;)Ljava/util/List;"⟩ : MethodName) jdk_40_method_38_code 2 (some (.object "java/util/List")) :: ws) ({ frames := 5, cells := 1, slots := 2, locals := 63 } : Room)) (fun a U => a = #[(.ref ou), (.ref ov)] ∧ Z.Warmed39 U.vm ∧ U.heap = h0) (fun _ _ _ _ _ => True) (fun _ U o U' => ∃ v L, o = .returned v ∧ own_Q_lof Z ou ov h0 n0 v U'.heap L ∧ FrameEnd U o U' L ({ frames := 5, cells := 1, slots := 2, locals := 63 } : Room).cells ({ frames := 5, cells := 1, slots := 2, locals := 63 } : Room).slots) := by
  refine MetFree.of_bodySF (plainFor_of_name own_pn6) hisR ?_
  intro p e s m args below meth c s₁ Bd hml0 hP hK
  obtain ⟨rfl, hZ, hh⟩ := hP
  have hx := Bd.exec
  have hby := Bd.bytes
  have hml : c.maxLocals = 2 := hml0
  have hown : s.vm.findClass "java/util/List" = some m.cls := findClass_of_methodNamed Bd.named
  have hnm := (name_of_methodNamed Bd.named Bd.method).1
  have X0 : Stand p l e ({ frames := 5, cells := 1, slots := 2, locals := 63 } : Room) s m #[(.ref ou), (.ref ov)] below meth c s₁ [] 0 0 := Stand.of_body Bd
  have e0 : s₁.heap = h0 := by rw [← hh, Bd.state]; rfl
  have N0 := Fr.nil n0
  have K0 := Keep.refl h0 []
  show own_Fin p e below s (own_Q_lof Z ou ov h0 n0) ({ frames := 5, cells := 1, slots := 2, locals := 63 } : Room).cells ({ frames := 5, cells := 1, slots := 2, locals := 63 } : Room).slots (s₁.setTop (entryFrame m #[(.ref ou), (.ref ov)] 2))
  refine own_Fin.go (fun t k => castTop (own_ef_lof m ou ov) k) ?_
  obtain ⟨T1, h1, X1, e1, E1, A1, D1, -, st1⟩ := newO X0 hx hZ hown (hw _ (List.mem_of_getElem? (i := 66) rfl)) (hw _ (List.mem_of_getElem? (i := 67) rfl)) (hw _ (List.mem_of_getElem? (i := 68) rfl)) e0 (g := (mkF m 0 #[.val (.ref ou), .val (.ref ov)] [])) rfl (hb hby own_dlof_0) (by decide) (by decide)
  obtain ⟨b1, g1⟩ : ∃ z, z = h0.size := ⟨_, rfl⟩
  rw [← g1] at A1 D1 st1
  refine own_Fin.go st1 ?_
  have g_b1 : n0 ≤ b1 := Nat.le_trans Z0 (Nat.le_of_eq g1.symm)
  have sz_b1 : h0.size ≤ b1 := Nat.le_trans K0.1 (Nat.le_of_eq g1.symm)
  have Z1 := Nat.le_trans Z0 E1.1
  have K1 := K0.ext E1
  have F_b1_e0 : Fld Z h1 b1 "java/util/ImmutableCollections$List12" "e0" "Ljava/lang/Object;" .null := D1 (Or.inr (hw _ (List.mem_of_getElem? (i := 97) rfl))) (ty := (.object "java/lang/Object")) (by decide)
  have F_b1_e1 : Fld Z h1 b1 "java/util/ImmutableCollections$List12" "e1" "Ljava/lang/Object;" .null := D1 (Or.inr (hw _ (List.mem_of_getElem? (i := 99) rfl))) (ty := (.object "java/lang/Object")) (by decide)
  show own_Fin _ _ _ _ _ _ _ (T1.setTop (mkF m 3 #[.val (.ref ou), .val (.ref ov)] [(.ref b1)]))
  refine own_Fin.go (fun t k => XS.dup X1.here hx rfl (hb hby own_dlof_3) rfl rfl k) ?_
  show own_Fin _ _ _ _ _ _ _ (T1.setTop (mkF m 4 #[.val (.ref ou), .val (.ref ov)] [(.ref b1), (.ref b1)]))
  refine own_Fin.go (fun t k => XS.aloadN X1.here hx rfl (hb hby own_dlof_4) rfl rfl k) ?_
  show own_Fin _ _ _ _ _ _ _ (T1.setTop (mkF m 5 #[.val (.ref ou), .val (.ref ov)] [(.ref ou), (.ref b1), (.ref b1)]))
  refine own_Fin.go (fun t k => XS.aloadN X1.here hx rfl (hb hby own_dlof_5) rfl rfl k) ?_
  show own_Fin _ _ _ _ _ _ _ (T1.setTop (mkF m 6 #[.val (.ref ou), .val (.ref ov)] [(.ref ov), (.ref ou), (.ref b1), (.ref b1)]))
  obtain ⟨_, _, ⟨T2, L2, k2, n2⟩, -, X2, ⟨Lc2, hQ2, l2, y2, z2⟩, st2⟩ := X1.specialBack hx (y := (⟨"java/util/ImmutableCollections$List12", "<init>", "(Ljava/lang/Object;Ljava/lang/Object;)V"⟩ : MethodName)) rfl hown (mvT hZ (hw _ (List.mem_of_getElem? (i := 69) rfl))) (mvT hZ (hw _ (List.mem_of_getElem? (i := 70) rfl))) (mvT hZ (hw _ (List.mem_of_getElem? (i := 72) rfl))) (by decide) (backOf (W := 1) (own_rm_l12 l Z a0 hw [] b1 ou ov  h1 n0 Z1 A1 F_b1_e0 F_b1_e1 g_b1) hZ (hw _ (List.mem_of_getElem? (i := 72) rfl)) (hw _ (List.mem_of_getElem? (i := 68) rfl)) (by decide) (by decide)) (g := (mkF m 6 #[.val (.ref ou), .val (.ref ov)] [(.ref ov), (.ref ou), (.ref b1), (.ref b1)])) rfl (by rw [hml]; rfl) (Steps.refl _) (a := b1) (argsL := [(.ref ou), (.ref ov)]) (rest := [(.ref b1)]) (lenOf own_pd2 rfl) rfl (by show 2 * 0 + _ ≤ _; exact Nat.le_of_eq rfl) (hb hby own_dlof_6) (fun _ _ => ⟨rfl, e1, (by decide : 1 + 0 ≤ _), (by decide : 2 + 0 ≤ _)⟩)
  dsimp only [Pt.U, Pt.locs, Pt.cells, Pt.slots] at X2 l2 y2 z2 st2 hQ2
  subst l2 y2 z2
  obtain ⟨rfl, N2q, K2q, c2_1, c2_2, c2_3⟩ := hQ2
  refine own_Fin.go (fun t k => st2.trans k) ?_
  have N2 := Fr.app N0 N2q
  have Z2 := Nat.le_trans Z1 K2q.1
  have K2 := K1.trans K2q (allS (Or.inr sz_b1) all0)
  show own_Fin _ _ _ _ _ _ _ (T2.setTop (mkF m 9 #[.val (.ref ou), .val (.ref ov)] [(.ref b1)]))
  refine own_retA X2 hx Bd.returns rfl (hb hby own_dlof_9) Bd.notSynchronized (by decide) (by decide) ?_
  exact ⟨_, rfl, N2, K2, c2_1, c2_2, c2_3, sz_b1⟩
theorem own_pd3 : parseMethodDescriptor "(Ljava/lang/Object;Ljava/lang/Object;)Ljava/util/List;" = some ⟨[(.object "java/lang/Object"), (.object "java/lang/Object")], some (.object "java/util/List")⟩ := by decide +kernel
theorem own_dtk_0 : decode prog_49_method_3_code 0 = .ok (.aload_n 0, 1) := by decide +kernel
theorem own_dtk_1 : decode prog_49_method_3_code 1 = .ok (.getfield 13, 3) := by decide +kernel
theorem own_dtk_4 : decode prog_49_method_3_code 4 = .ok (.aload_n 0, 1) := by decide +kernel
theorem own_dtk_5 : decode prog_49_method_3_code 5 = .ok (.getfield 17, 3) := by decide +kernel
theorem own_dtk_8 : decode prog_49_method_3_code 8 = .ok (.invokestatic 35, 3) := by decide +kernel
theorem own_dtk_11 : decode prog_49_method_3_code 11 = .ok (.areturn, 1) := by decide +kernel
theorem own_pn7 : plainName "com/example/wardkeeper/wardkeeper/patient/Identifier" = true := by first | (simp [plainName, overriddenIn]; done) | decide +kernel
theorem own_ef_tk (m : MethodId) (oa : Addr) : entryFrame m #[(.ref oa)] 1 = mkF m 0 #[.val (.ref oa)] [] := by first | (simp [entryFrame, mkF, argsToLocals, Value.category]; done) | rfl
def own_Q_tk (Z : State) (oa : Addr) (ou : Addr) (ov : Addr) (h0 : Heap) (n0 : Nat) (v : Option Value) (h : Heap) (L : List Loc) : Prop := ∃ ob : Addr, v = some (.ref ob) ∧ Fr n0 L ∧ Keep h0 h [] ∧ Exa Z h ob "java/util/ImmutableCollections$List12" ∧ Fld Z h ob "java/util/ImmutableCollections$List12" "e0" "Ljava/lang/Object;" (.ref ou) ∧ Fld Z h ob "java/util/ImmutableCollections$List12" "e1" "Ljava/lang/Object;" (.ref ov) ∧ h0.size ≤ ob
set_option maxRecDepth 65536 in
set_option maxHeartbeats 40000000 in
theorem own_rm_tk (l : Launch) (Z : State) (a0 : Array Value) (hw : ∀ d ∈ tables_1, d.before a0 Z = true) (ws : List Jvm.Cond) (oa : Addr) (ou : Addr) (ov : Addr) (h0 : Heap) (n0 : Nat) (Z0 : n0 ≤ h0.size) (F_oa_authority : Fld Z h0 oa "com/example/wardkeeper/wardkeeper/patient/Identifier" "authority" "Ljava/lang/String;" (.ref ou)) (F_oa_typeCode : Fld Z h0 oa "com/example/wardkeeper/wardkeeper/patient/Identifier" "typeCode" "Ljava/lang/String;" (.ref ov)) :
    MetFree l (⟨"com/example/wardkeeper/wardkeeper/patient/Identifier", "typeKey", "()Ljava/util/List;"⟩ : MethodName) (head1 (Jvm.Cond.code (⟨"com/example/wardkeeper/wardkeeper/patient/Identifier", "typeKey", "()Ljava/util/List;"⟩ : MethodName) prog_49_method_3_code 1 (some (.object "java/util/List")) :: ws) ({ frames := 6, cells := 1, slots := 2, locals := 76 } : Room)) (fun a U => a = #[(.ref oa)] ∧ Z.Warmed39 U.vm ∧ U.heap = h0) (fun _ _ _ _ _ => True) (fun _ U o U' => ∃ v L, o = .returned v ∧ own_Q_tk Z oa ou ov h0 n0 v U'.heap L ∧ FrameEnd U o U' L ({ frames := 6, cells := 1, slots := 2, locals := 76 } : Room).cells ({ frames := 6, cells := 1, slots := 2, locals := 76 } : Room).slots) := by
  refine MetFree.of_bodySF (plainFor_of_name own_pn7) hisR ?_
  intro p e s m args below meth c s₁ Bd hml0 hP hK
  obtain ⟨rfl, hZ, hh⟩ := hP
  have hx := Bd.exec
  have hby := Bd.bytes
  have hml : c.maxLocals = 1 := hml0
  have hown : s.vm.findClass "com/example/wardkeeper/wardkeeper/patient/Identifier" = some m.cls := findClass_of_methodNamed Bd.named
  have hnm := (name_of_methodNamed Bd.named Bd.method).1
  have X0 : Stand p l e ({ frames := 6, cells := 1, slots := 2, locals := 76 } : Room) s m #[(.ref oa)] below meth c s₁ [] 0 0 := Stand.of_body Bd
  have e0 : s₁.heap = h0 := by rw [← hh, Bd.state]; rfl
  have N0 := Fr.nil n0
  have K0 := Keep.refl h0 []
  show own_Fin p e below s (own_Q_tk Z oa ou ov h0 n0) ({ frames := 6, cells := 1, slots := 2, locals := 76 } : Room).cells ({ frames := 6, cells := 1, slots := 2, locals := 76 } : Room).slots (s₁.setTop (entryFrame m #[(.ref oa)] 1))
  refine own_Fin.go (fun t k => castTop (own_ef_tk m oa) k) ?_
  refine own_Fin.go (fun t k => XS.aloadN X0.here hx rfl (hb hby own_dtk_0) rfl rfl k) ?_
  show own_Fin _ _ _ _ _ _ _ (s₁.setTop (mkF m 1 #[.val (.ref oa)] [(.ref oa)]))
  obtain ⟨T1, X1, e1, st1⟩ := getF X0 hx hZ hown (host := "") (Or.inl (hw _ (List.mem_of_getElem? (i := 47) rfl))) Via.refl e0 F_oa_authority (g := (mkF m 1 #[.val (.ref oa)] [(.ref oa)])) rfl rfl (hb hby own_dtk_1)
  refine own_Fin.go st1 ?_
  show own_Fin _ _ _ _ _ _ _ (T1.setTop (mkF m 4 #[.val (.ref oa)] [(.ref ou)]))
  refine own_Fin.go (fun t k => XS.aloadN X1.here hx rfl (hb hby own_dtk_4) rfl rfl k) ?_
  show own_Fin _ _ _ _ _ _ _ (T1.setTop (mkF m 5 #[.val (.ref oa)] [(.ref oa), (.ref ou)]))
  obtain ⟨T2, X2, e2, st2⟩ := getF X1 hx hZ hown (host := "") (Or.inl (hw _ (List.mem_of_getElem? (i := 49) rfl))) Via.refl e1 F_oa_typeCode (g := (mkF m 5 #[.val (.ref oa)] [(.ref oa), (.ref ou)])) rfl rfl (hb hby own_dtk_5)
  refine own_Fin.go st2 ?_
  show own_Fin _ _ _ _ _ _ _ (T2.setTop (mkF m 8 #[.val (.ref oa)] [(.ref ov), (.ref ou)]))
  obtain ⟨_, _, ⟨T3, L3, k3, n3⟩, -, X3, ⟨Lc3, hQ3, l3, y3, z3⟩, st3⟩ := Jvm.LawKit.callS X2 hx (y := (⟨"java/util/List", "of", "(Ljava/lang/Object;Ljava/lang/Object;)Ljava/util/List;"⟩ : MethodName)) hown (mvT hZ (hw _ (List.mem_of_getElem? (i := 62) rfl))) (mvT hZ (hw _ (List.mem_of_getElem? (i := 63) rfl))) (mvT hZ (hw _ (List.mem_of_getElem? (i := 64) rfl))) (mvT hZ (hw _ (List.mem_of_getElem? (i := 65) rfl))) (by decide) (backOf (W := 0) (own_rm_lof l Z a0 hw [] ou ov  h0 n0 Z0 ) hZ (hw _ (List.mem_of_getElem? (i := 65) rfl)) (hw _ (List.mem_of_getElem? (i := 64) rfl)) (by decide) (by decide)) (g := (mkF m 8 #[.val (.ref oa)] [(.ref ov), (.ref ou)])) rfl (by rw [hml]; rfl) (argsL := [(.ref ou), (.ref ov)]) (rest := []) (lenOf own_pd3 rfl) rfl (by show 2 * 0 + _ ≤ _; exact Nat.le_of_eq rfl) (hb hby own_dtk_8) (fun _ _ => ⟨rfl, e2, (by decide : 0 + 1 ≤ _), (by decide : 0 + 2 ≤ _)⟩)
  dsimp only [Pt.U, Pt.locs, Pt.cells, Pt.slots] at X3 l3 y3 z3 st3 hQ3
  subst l3 y3 z3
  obtain ⟨r3, rfl, N3q, K3q, c3_1, c3_2, c3_3, c3_4⟩ := hQ3
  refine own_Fin.go (fun t k => st3 t k) ?_
  have N3 := Fr.app N0 N3q
  have F_oa_authority_3 := F_oa_authority.keep K3q nin0
  have F_oa_typeCode_3 := F_oa_typeCode.keep K3q nin0
  have Z3 := Nat.le_trans Z0 K3q.1
  have K3 := K0.trans K3q all0
  have ne_oa_r3 : oa ≠ r3 := Nat.ne_of_lt (Nat.lt_of_lt_of_le F_oa_typeCode.lt c3_4)
  have g_r3 : n0 ≤ r3 := Nat.le_trans Z0 c3_4
  have sz_r3 : h0.size ≤ r3 := Nat.le_trans K0.1 c3_4
  show own_Fin _ _ _ _ _ _ _ (T3.setTop (mkF m 11 #[.val (.ref oa)] [(.ref r3)]))
  refine own_retA X3 hx Bd.returns rfl (hb hby own_dtk_11) Bd.notSynchronized (by decide) (by decide) ?_
  exact ⟨_, rfl, N3, K3, c3_1, c3_2, c3_3, sz_r3⟩
theorem own_dini_0 : decode prog_49_method_1_code 0 = .ok (.aload_n 0, 1) := by decide +kernel
theorem own_dini_1 : decode prog_49_method_1_code 1 = .ok (.invokespecial 1, 3) := by decide +kernel
theorem own_dini_4 : decode prog_49_method_1_code 4 = .ok (.aload_n 0, 1) := by decide +kernel
theorem own_dini_5 : decode prog_49_method_1_code 5 = .ok (.aload_n 1, 1) := by decide +kernel
theorem own_dini_6 : decode prog_49_method_1_code 6 = .ok (.putfield 7, 3) := by decide +kernel
theorem own_dini_9 : decode prog_49_method_1_code 9 = .ok (.aload_n 0, 1) := by decide +kernel
theorem own_dini_10 : decode prog_49_method_1_code 10 = .ok (.aload_n 2, 1) := by decide +kernel
theorem own_dini_11 : decode prog_49_method_1_code 11 = .ok (.putfield 13, 3) := by decide +kernel
theorem own_dini_14 : decode prog_49_method_1_code 14 = .ok (.aload_n 0, 1) := by decide +kernel
theorem own_dini_15 : decode prog_49_method_1_code 15 = .ok (.aload_n 3, 1) := by decide +kernel
theorem own_dini_16 : decode prog_49_method_1_code 16 = .ok (.putfield 17, 3) := by decide +kernel
theorem own_dini_19 : decode prog_49_method_1_code 19 = .ok (.aload_n 0, 1) := by decide +kernel
theorem own_dini_20 : decode prog_49_method_1_code 20 = .ok (.aload 4, 2) := by decide +kernel
theorem own_dini_22 : decode prog_49_method_1_code 22 = .ok (.putfield 20, 3) := by decide +kernel
theorem own_dini_25 : decode prog_49_method_1_code 25 = .ok (.aload_n 0, 1) := by decide +kernel
theorem own_dini_26 : decode prog_49_method_1_code 26 = .ok (.aload 5, 2) := by decide +kernel
theorem own_dini_28 : decode prog_49_method_1_code 28 = .ok (.putfield 23, 3) := by decide +kernel
theorem own_dini_31 : decode prog_49_method_1_code 31 = .ok (.aload_n 0, 1) := by decide +kernel
theorem own_dini_32 : decode prog_49_method_1_code 32 = .ok (.aload 6, 2) := by decide +kernel
theorem own_dini_34 : decode prog_49_method_1_code 34 = .ok (.putfield 26, 3) := by decide +kernel
theorem own_dini_37 : decode prog_49_method_1_code 37 = .ok (.return_, 1) := by decide +kernel
theorem own_ef_ini (m : MethodId) (oa : Addr) (ol : Addr) (ou : Addr) (ov : Addr) (ow : Addr) (ox : Addr) (oy : Addr) : entryFrame m #[(.ref oa), (.ref ol), (.ref ou), (.ref ov), (.ref ow), (.ref ox), (.ref oy)] 7 = mkF m 0 #[.val (.ref oa), .val (.ref ol), .val (.ref ou), .val (.ref ov), .val (.ref ow), .val (.ref ox), .val (.ref oy)] [] := by first | (simp [entryFrame, mkF, argsToLocals, Value.category]; done) | rfl
def own_Q_ini (Z : State) (oa : Addr) (ol : Addr) (ou : Addr) (ov : Addr) (ow : Addr) (ox : Addr) (oy : Addr) (h0 : Heap) (n0 : Nat) (v : Option Value) (h : Heap) (L : List Loc) : Prop := v = none ∧ Fr n0 L ∧ Keep h0 h [oa] ∧ Exa Z h oa "com/example/wardkeeper/wardkeeper/patient/Identifier" ∧ Fld Z h oa "com/example/wardkeeper/wardkeeper/patient/Identifier" "authority" "Ljava/lang/String;" (.ref ou) ∧ Fld Z h oa "com/example/wardkeeper/wardkeeper/patient/Identifier" "typeCode" "Ljava/lang/String;" (.ref ov)
set_option maxRecDepth 65536 in
set_option maxHeartbeats 40000000 in
theorem own_rm_ini (l : Launch) (Z : State) (a0 : Array Value) (hw : ∀ d ∈ tables_1, d.before a0 Z = true) (ws : List Jvm.Cond) (oa : Addr) (ol : Addr) (ou : Addr) (ov : Addr) (ow : Addr) (ox : Addr) (oy : Addr) (h0 : Heap) (n0 : Nat) (Z0 : n0 ≤ h0.size) (E_oa : Exa Z h0 oa "com/example/wardkeeper/wardkeeper/patient/Identifier") (F_oa_level : Fld Z h0 oa "com/example/wardkeeper/wardkeeper/patient/Identifier" "level" "Lcom/example/wardkeeper/wardkeeper/patient/Identifier$Level;" .null) (F_oa_authority : Fld Z h0 oa "com/example/wardkeeper/wardkeeper/patient/Identifier" "authority" "Ljava/lang/String;" .null) (F_oa_typeCode : Fld Z h0 oa "com/example/wardkeeper/wardkeeper/patient/Identifier" "typeCode" "Ljava/lang/String;" .null) (F_oa_value : Fld Z h0 oa "com/example/wardkeeper/wardkeeper/patient/Identifier" "value" "Ljava/lang/String;" .null) (F_oa_status : Fld Z h0 oa "com/example/wardkeeper/wardkeeper/patient/Identifier" "status" "Ljava/lang/String;" .null) (F_oa_organisation : Fld Z h0 oa "com/example/wardkeeper/wardkeeper/patient/Identifier" "organisation" "Ljava/lang/String;" .null) (g_oa : n0 ≤ oa) :
    MetFree l (⟨"com/example/wardkeeper/wardkeeper/patient/Identifier", "<init>", "(Lcom/example/wardkeeper/wardkeeper/patient/Identifier$Level;Ljava/lang/String;Ljava/lang/String;Ljava/lang/String;Ljava/lang/String;Ljava/lang/String;)V"⟩ : MethodName) (head1 (Jvm.Cond.code (⟨"com/example/wardkeeper/wardkeeper/patient/Identifier", "<init>", "(Lcom/example/wardkeeper/wardkeeper/patient/Identifier$Level;Ljava/lang/String;Ljava/lang/String;Ljava/lang/String;Ljava/lang/String;Ljava/lang/String;)V"⟩ : MethodName) prog_49_method_1_code 7 none :: ws) ({ frames := 2, cells := 0, slots := 0, locals := 24 } : Room)) (fun a U => a = #[(.ref oa), (.ref ol), (.ref ou), (.ref ov), (.ref ow), (.ref ox), (.ref oy)] ∧ Z.Warmed39 U.vm ∧ U.heap = h0) (fun _ _ _ _ _ => True) (fun _ U o U' => ∃ v L, o = .returned v ∧ own_Q_ini Z oa ol ou ov ow ox oy h0 n0 v U'.heap L ∧ FrameEnd U o U' L ({ frames := 2, cells := 0, slots := 0, locals := 24 } : Room).cells ({ frames := 2, cells := 0, slots := 0, locals := 24 } : Room).slots) := by
  refine MetFree.of_bodySF (plainFor_of_name own_pn7) hisR ?_
  intro p e s m args below meth c s₁ Bd hml0 hP hK
  obtain ⟨rfl, hZ, hh⟩ := hP
  have hx := Bd.exec
  have hby := Bd.bytes
  have hml : c.maxLocals = 7 := hml0
  have hown : s.vm.findClass "com/example/wardkeeper/wardkeeper/patient/Identifier" = some m.cls := findClass_of_methodNamed Bd.named
  have hnm := (name_of_methodNamed Bd.named Bd.method).1
  have X0 : Stand p l e ({ frames := 2, cells := 0, slots := 0, locals := 24 } : Room) s m #[(.ref oa), (.ref ol), (.ref ou), (.ref ov), (.ref ow), (.ref ox), (.ref oy)] below meth c s₁ [] 0 0 := Stand.of_body Bd
  have e0 : s₁.heap = h0 := by rw [← hh, Bd.state]; rfl
  have N0 := Fr.nil n0
  have K0 := Keep.refl h0 [oa]
  show own_Fin p e below s (own_Q_ini Z oa ol ou ov ow ox oy h0 n0) ({ frames := 2, cells := 0, slots := 0, locals := 24 } : Room).cells ({ frames := 2, cells := 0, slots := 0, locals := 24 } : Room).slots (s₁.setTop (entryFrame m #[(.ref oa), (.ref ol), (.ref ou), (.ref ov), (.ref ow), (.ref ox), (.ref oy)] 7))
  refine own_Fin.go (fun t k => castTop (own_ef_ini m oa ol ou ov ow ox oy) k) ?_
  refine own_Fin.go (fun t k => XS.aloadN X0.here hx rfl (hb hby own_dini_0) rfl rfl k) ?_
  show own_Fin _ _ _ _ _ _ _ (s₁.setTop (mkF m 1 #[.val (.ref oa), .val (.ref ol), .val (.ref ou), .val (.ref ov), .val (.ref ow), .val (.ref ox), .val (.ref oy)] [(.ref oa)]))
  obtain ⟨_, _, ⟨T1, L1, k1, n1⟩, -, X1, ⟨Lc1, hQ1, l1, y1, z1⟩, st1⟩ := X0.specialBack hx (y := (⟨"java/lang/Record", "<init>", "()V"⟩ : MethodName)) rfl hown (mvT hZ (hw _ (List.mem_of_getElem? (i := 39) rfl))) (mvT hZ (hw _ (List.mem_of_getElem? (i := 40) rfl))) (mvT hZ (hw _ (List.mem_of_getElem? (i := 43) rfl))) (by decide) (backOf (W := 0) (own_rm_rec l Z a0 hw [] oa  h0 n0 Z0 ) hZ (hw _ (List.mem_of_getElem? (i := 43) rfl)) (hw _ (List.mem_of_getElem? (i := 42) rfl)) (by decide) (by decide)) (g := (mkF m 1 #[.val (.ref oa), .val (.ref ol), .val (.ref ou), .val (.ref ov), .val (.ref ow), .val (.ref ox), .val (.ref oy)] [(.ref oa)])) rfl (by rw [hml]; rfl) (Steps.refl _) (a := oa) (argsL := []) (rest := []) (lenOf own_pd0 rfl) rfl (by show 2 * 0 + _ ≤ _; exact Nat.le_of_eq rfl) (hb hby own_dini_1) (fun _ _ => ⟨rfl, e0, (by decide : 0 + 0 ≤ _), (by decide : 0 + 0 ≤ _)⟩)
  dsimp only [Pt.U, Pt.locs, Pt.cells, Pt.slots] at X1 l1 y1 z1 st1 hQ1
  subst l1 y1 z1
  obtain ⟨rfl, N1q, e1⟩ := hQ1
  refine own_Fin.go (fun t k => st1.trans k) ?_
  have N1 := Fr.app N0 N1q
  show own_Fin _ _ _ _ _ _ _ (T1.setTop (mkF m 4 #[.val (.ref oa), .val (.ref ol), .val (.ref ou), .val (.ref ov), .val (.ref ow), .val (.ref ox), .val (.ref oy)] []))
  refine own_Fin.go (fun t k => XS.aloadN X1.here hx rfl (hb hby own_dini_4) rfl rfl k) ?_
  show own_Fin _ _ _ _ _ _ _ (T1.setTop (mkF m 5 #[.val (.ref oa), .val (.ref ol), .val (.ref ou), .val (.ref ov), .val (.ref ow), .val (.ref ox), .val (.ref oy)] [(.ref oa)]))
  refine own_Fin.go (fun t k => XS.aloadN X1.here hx rfl (hb hby own_dini_5) rfl rfl k) ?_
  show own_Fin _ _ _ _ _ _ _ (T1.setTop (mkF m 6 #[.val (.ref oa), .val (.ref ol), .val (.ref ou), .val (.ref ov), .val (.ref ow), .val (.ref ox), .val (.ref oy)] [(.ref ol), (.ref oa)]))
  obtain ⟨T2, h2, X2, e2, W2, st2⟩ := putF X1 hx hZ hown (host := "") (Or.inl (hw _ (List.mem_of_getElem? (i := 45) rfl))) Via.refl e1 F_oa_level E_oa (Or.inr ⟨(hw _ (List.mem_of_getElem? (i := 46) rfl)), rfl, hnm⟩) (hw _ (List.mem_of_getElem? (i := 27) rfl)) (ty := (.object "com/example/wardkeeper/wardkeeper/patient/Identifier$Level")) (by decide) rfl rfl (g := (mkF m 6 #[.val (.ref oa), .val (.ref ol), .val (.ref ou), .val (.ref ov), .val (.ref ow), .val (.ref ox), .val (.ref oy)] [(.ref ol), (.ref oa)])) rfl rfl (hb hby own_dini_6)
  refine own_Fin.go st2 ?_
  have F_oa_level_2 := Fld.same W2 F_oa_level
  have E_oa_2 := Exa.wr W2 E_oa
  have F_oa_authority_2 := Fld.other W2 F_oa_authority (Or.inr (slot_ne (Or.inr (hw _ (List.mem_of_getElem? (i := 48) rfl))) (Or.inr (hw _ (List.mem_of_getElem? (i := 46) rfl))) (by decide) (t := (.object "java/lang/String")) (t' := (.object "com/example/wardkeeper/wardkeeper/patient/Identifier$Level")) (by decide) (by decide)))
  have F_oa_typeCode_2 := Fld.other W2 F_oa_typeCode (Or.inr (slot_ne (Or.inr (hw _ (List.mem_of_getElem? (i := 50) rfl))) (Or.inr (hw _ (List.mem_of_getElem? (i := 46) rfl))) (by decide) (t := (.object "java/lang/String")) (t' := (.object "com/example/wardkeeper/wardkeeper/patient/Identifier$Level")) (by decide) (by decide)))
  have F_oa_value_2 := Fld.other W2 F_oa_value (Or.inr (slot_ne (Or.inr (hw _ (List.mem_of_getElem? (i := 52) rfl))) (Or.inr (hw _ (List.mem_of_getElem? (i := 46) rfl))) (by decide) (t := (.object "java/lang/String")) (t' := (.object "com/example/wardkeeper/wardkeeper/patient/Identifier$Level")) (by decide) (by decide)))
  have F_oa_status_2 := Fld.other W2 F_oa_status (Or.inr (slot_ne (Or.inr (hw _ (List.mem_of_getElem? (i := 54) rfl))) (Or.inr (hw _ (List.mem_of_getElem? (i := 46) rfl))) (by decide) (t := (.object "java/lang/String")) (t' := (.object "com/example/wardkeeper/wardkeeper/patient/Identifier$Level")) (by decide) (by decide)))
  have F_oa_organisation_2 := Fld.other W2 F_oa_organisation (Or.inr (slot_ne (Or.inr (hw _ (List.mem_of_getElem? (i := 56) rfl))) (Or.inr (hw _ (List.mem_of_getElem? (i := 46) rfl))) (by decide) (t := (.object "java/lang/String")) (t' := (.object "com/example/wardkeeper/wardkeeper/patient/Identifier$Level")) (by decide) (by decide)))
  have Z2 := Nat.le_trans Z0 (Keep.of_wr W2).1
  have K2 := K0.wr W2 (Or.inl (List.mem_of_getElem? (i := 0) rfl))
  have N2 := Fr.snoc X2 N1 g_oa
  show own_Fin _ _ _ _ _ _ _ (T2.setTop (mkF m 9 #[.val (.ref oa), .val (.ref ol), .val (.ref ou), .val (.ref ov), .val (.ref ow), .val (.ref ox), .val (.ref oy)] []))
  refine own_Fin.go (fun t k => XS.aloadN X2.here hx rfl (hb hby own_dini_9) rfl rfl k) ?_
  show own_Fin _ _ _ _ _ _ _ (T2.setTop (mkF m 10 #[.val (.ref oa), .val (.ref ol), .val (.ref ou), .val (.ref ov), .val (.ref ow), .val (.ref ox), .val (.ref oy)] [(.ref oa)]))
  refine own_Fin.go (fun t k => XS.aloadN X2.here hx rfl (hb hby own_dini_10) rfl rfl k) ?_
  show own_Fin _ _ _ _ _ _ _ (T2.setTop (mkF m 11 #[.val (.ref oa), .val (.ref ol), .val (.ref ou), .val (.ref ov), .val (.ref ow), .val (.ref ox), .val (.ref oy)] [(.ref ou), (.ref oa)]))
  obtain ⟨T3, h3, X3, e3, W3, st3⟩ := putF X2 hx hZ hown (host := "") (Or.inl (hw _ (List.mem_of_getElem? (i := 47) rfl))) Via.refl e2 F_oa_authority_2 E_oa_2 (Or.inr ⟨(hw _ (List.mem_of_getElem? (i := 48) rfl)), rfl, hnm⟩) (hw _ (List.mem_of_getElem? (i := 27) rfl)) (ty := (.object "java/lang/String")) (by decide) rfl rfl (g := (mkF m 11 #[.val (.ref oa), .val (.ref ol), .val (.ref ou), .val (.ref ov), .val (.ref ow), .val (.ref ox), .val (.ref oy)] [(.ref ou), (.ref oa)])) rfl rfl (hb hby own_dini_11)
  refine own_Fin.go st3 ?_
  have F_oa_authority_3 := Fld.same W3 F_oa_authority_2
  have E_oa_3 := Exa.wr W3 E_oa_2
  have F_oa_typeCode_3 := Fld.other W3 F_oa_typeCode_2 (Or.inr (slot_ne (Or.inr (hw _ (List.mem_of_getElem? (i := 50) rfl))) (Or.inr (hw _ (List.mem_of_getElem? (i := 48) rfl))) (by decide) (t := (.object "java/lang/String")) (t' := (.object "java/lang/String")) (by decide) (by decide)))
  have F_oa_value_3 := Fld.other W3 F_oa_value_2 (Or.inr (slot_ne (Or.inr (hw _ (List.mem_of_getElem? (i := 52) rfl))) (Or.inr (hw _ (List.mem_of_getElem? (i := 48) rfl))) (by decide) (t := (.object "java/lang/String")) (t' := (.object "java/lang/String")) (by decide) (by decide)))
  have F_oa_status_3 := Fld.other W3 F_oa_status_2 (Or.inr (slot_ne (Or.inr (hw _ (List.mem_of_getElem? (i := 54) rfl))) (Or.inr (hw _ (List.mem_of_getElem? (i := 48) rfl))) (by decide) (t := (.object "java/lang/String")) (t' := (.object "java/lang/String")) (by decide) (by decide)))
  have F_oa_organisation_3 := Fld.other W3 F_oa_organisation_2 (Or.inr (slot_ne (Or.inr (hw _ (List.mem_of_getElem? (i := 56) rfl))) (Or.inr (hw _ (List.mem_of_getElem? (i := 48) rfl))) (by decide) (t := (.object "java/lang/String")) (t' := (.object "java/lang/String")) (by decide) (by decide)))
  have Z3 := Nat.le_trans Z2 (Keep.of_wr W3).1
  have K3 := K2.wr W3 (Or.inl (List.mem_of_getElem? (i := 0) rfl))
  have N3 := Fr.snoc X3 N2 g_oa
  show own_Fin _ _ _ _ _ _ _ (T3.setTop (mkF m 14 #[.val (.ref oa), .val (.ref ol), .val (.ref ou), .val (.ref ov), .val (.ref ow), .val (.ref ox), .val (.ref oy)] []))
  refine own_Fin.go (fun t k => XS.aloadN X3.here hx rfl (hb hby own_dini_14) rfl rfl k) ?_
  show own_Fin _ _ _ _ _ _ _ (T3.setTop (mkF m 15 #[.val (.ref oa), .val (.ref ol), .val (.ref ou), .val (.ref ov), .val (.ref ow), .val (.ref ox), .val (.ref oy)] [(.ref oa)]))
  refine own_Fin.go (fun t k => XS.aloadN X3.here hx rfl (hb hby own_dini_15) rfl rfl k) ?_
  show own_Fin _ _ _ _ _ _ _ (T3.setTop (mkF m 16 #[.val (.ref oa), .val (.ref ol), .val (.ref ou), .val (.ref ov), .val (.ref ow), .val (.ref ox), .val (.ref oy)] [(.ref ov), (.ref oa)]))
  obtain ⟨T4, h4, X4, e4, W4, st4⟩ := putF X3 hx hZ hown (host := "") (Or.inl (hw _ (List.mem_of_getElem? (i := 49) rfl))) Via.refl e3 F_oa_typeCode_3 E_oa_3 (Or.inr ⟨(hw _ (List.mem_of_getElem? (i := 50) rfl)), rfl, hnm⟩) (hw _ (List.mem_of_getElem? (i := 27) rfl)) (ty := (.object "java/lang/String")) (by decide) rfl rfl (g := (mkF m 16 #[.val (.ref oa), .val (.ref ol), .val (.ref ou), .val (.ref ov), .val (.ref ow), .val (.ref ox), .val (.ref oy)] [(.ref ov), (.ref oa)])) rfl rfl (hb hby own_dini_16)
  refine own_Fin.go st4 ?_
  have F_oa_typeCode_4 := Fld.same W4 F_oa_typeCode_3
  have E_oa_4 := Exa.wr W4 E_oa_3
  have F_oa_authority_4 := Fld.other W4 F_oa_authority_3 (Or.inr (slot_ne (Or.inr (hw _ (List.mem_of_getElem? (i := 48) rfl))) (Or.inr (hw _ (List.mem_of_getElem? (i := 50) rfl))) (by decide) (t := (.object "java/lang/String")) (t' := (.object "java/lang/String")) (by decide) (by decide)))
  have F_oa_value_4 := Fld.other W4 F_oa_value_3 (Or.inr (slot_ne (Or.inr (hw _ (List.mem_of_getElem? (i := 52) rfl))) (Or.inr (hw _ (List.mem_of_getElem? (i := 50) rfl))) (by decide) (t := (.object "java/lang/String")) (t' := (.object "java/lang/String")) (by decide) (by decide)))
  have F_oa_status_4 := Fld.other W4 F_oa_status_3 (Or.inr (slot_ne (Or.inr (hw _ (List.mem_of_getElem? (i := 54) rfl))) (Or.inr (hw _ (List.mem_of_getElem? (i := 50) rfl))) (by decide) (t := (.object "java/lang/String")) (t' := (.object "java/lang/String")) (by decide) (by decide)))
  have F_oa_organisation_4 := Fld.other W4 F_oa_organisation_3 (Or.inr (slot_ne (Or.inr (hw _ (List.mem_of_getElem? (i := 56) rfl))) (Or.inr (hw _ (List.mem_of_getElem? (i := 50) rfl))) (by decide) (t := (.object "java/lang/String")) (t' := (.object "java/lang/String")) (by decide) (by decide)))
  have Z4 := Nat.le_trans Z3 (Keep.of_wr W4).1
  have K4 := K3.wr W4 (Or.inl (List.mem_of_getElem? (i := 0) rfl))
  have N4 := Fr.snoc X4 N3 g_oa
  show own_Fin _ _ _ _ _ _ _ (T4.setTop (mkF m 19 #[.val (.ref oa), .val (.ref ol), .val (.ref ou), .val (.ref ov), .val (.ref ow), .val (.ref ox), .val (.ref oy)] []))
  refine own_Fin.go (fun t k => XS.aloadN X4.here hx rfl (hb hby own_dini_19) rfl rfl k) ?_
  show own_Fin _ _ _ _ _ _ _ (T4.setTop (mkF m 20 #[.val (.ref oa), .val (.ref ol), .val (.ref ou), .val (.ref ov), .val (.ref ow), .val (.ref ox), .val (.ref oy)] [(.ref oa)]))
  refine own_Fin.go (fun t k => XS.aload X4.here hx rfl (hb hby own_dini_20) rfl rfl k) ?_
  show own_Fin _ _ _ _ _ _ _ (T4.setTop (mkF m 22 #[.val (.ref oa), .val (.ref ol), .val (.ref ou), .val (.ref ov), .val (.ref ow), .val (.ref ox), .val (.ref oy)] [(.ref ow), (.ref oa)]))
  obtain ⟨T5, h5, X5, e5, W5, st5⟩ := putF X4 hx hZ hown (host := "") (Or.inl (hw _ (List.mem_of_getElem? (i := 51) rfl))) Via.refl e4 F_oa_value_4 E_oa_4 (Or.inr ⟨(hw _ (List.mem_of_getElem? (i := 52) rfl)), rfl, hnm⟩) (hw _ (List.mem_of_getElem? (i := 27) rfl)) (ty := (.object "java/lang/String")) (by decide) rfl rfl (g := (mkF m 22 #[.val (.ref oa), .val (.ref ol), .val (.ref ou), .val (.ref ov), .val (.ref ow), .val (.ref ox), .val (.ref oy)] [(.ref ow), (.ref oa)])) rfl rfl (hb hby own_dini_22)
  refine own_Fin.go st5 ?_
  have F_oa_value_5 := Fld.same W5 F_oa_value_4
  have E_oa_5 := Exa.wr W5 E_oa_4
  have F_oa_authority_5 := Fld.other W5 F_oa_authority_4 (Or.inr (slot_ne (Or.inr (hw _ (List.mem_of_getElem? (i := 48) rfl))) (Or.inr (hw _ (List.mem_of_getElem? (i := 52) rfl))) (by decide) (t := (.object "java/lang/String")) (t' := (.object "java/lang/String")) (by decide) (by decide)))
  have F_oa_typeCode_5 := Fld.other W5 F_oa_typeCode_4 (Or.inr (slot_ne (Or.inr (hw _ (List.mem_of_getElem? (i := 50) rfl))) (Or.inr (hw _ (List.mem_of_getElem? (i := 52) rfl))) (by decide) (t := (.object "java/lang/String")) (t' := (.object "java/lang/String")) (by decide) (by decide)))
  have F_oa_status_5 := Fld.other W5 F_oa_status_4 (Or.inr (slot_ne (Or.inr (hw _ (List.mem_of_getElem? (i := 54) rfl))) (Or.inr (hw _ (List.mem_of_getElem? (i := 52) rfl))) (by decide) (t := (.object "java/lang/String")) (t' := (.object "java/lang/String")) (by decide) (by decide)))
  have F_oa_organisation_5 := Fld.other W5 F_oa_organisation_4 (Or.inr (slot_ne (Or.inr (hw _ (List.mem_of_getElem? (i := 56) rfl))) (Or.inr (hw _ (List.mem_of_getElem? (i := 52) rfl))) (by decide) (t := (.object "java/lang/String")) (t' := (.object "java/lang/String")) (by decide) (by decide)))
  have Z5 := Nat.le_trans Z4 (Keep.of_wr W5).1
  have K5 := K4.wr W5 (Or.inl (List.mem_of_getElem? (i := 0) rfl))
  have N5 := Fr.snoc X5 N4 g_oa
  show own_Fin _ _ _ _ _ _ _ (T5.setTop (mkF m 25 #[.val (.ref oa), .val (.ref ol), .val (.ref ou), .val (.ref ov), .val (.ref ow), .val (.ref ox), .val (.ref oy)] []))
  refine own_Fin.go (fun t k => XS.aloadN X5.here hx rfl (hb hby own_dini_25) rfl rfl k) ?_
  show own_Fin _ _ _ _ _ _ _ (T5.setTop (mkF m 26 #[.val (.ref oa), .val (.ref ol), .val (.ref ou), .val (.ref ov), .val (.ref ow), .val (.ref ox), .val (.ref oy)] [(.ref oa)]))
  refine own_Fin.go (fun t k => XS.aload X5.here hx rfl (hb hby own_dini_26) rfl rfl k) ?_
  show own_Fin _ _ _ _ _ _ _ (T5.setTop (mkF m 28 #[.val (.ref oa), .val (.ref ol), .val (.ref ou), .val (.ref ov), .val (.ref ow), .val (.ref ox), .val (.ref oy)] [(.ref ox), (.ref oa)]))
  obtain ⟨T6, h6, X6, e6, W6, st6⟩ := putF X5 hx hZ hown (host := "") (Or.inl (hw _ (List.mem_of_getElem? (i := 53) rfl))) Via.refl e5 F_oa_status_5 E_oa_5 (Or.inr ⟨(hw _ (List.mem_of_getElem? (i := 54) rfl)), rfl, hnm⟩) (hw _ (List.mem_of_getElem? (i := 27) rfl)) (ty := (.object "java/lang/String")) (by decide) rfl rfl (g := (mkF m 28 #[.val (.ref oa), .val (.ref ol), .val (.ref ou), .val (.ref ov), .val (.ref ow), .val (.ref ox), .val (.ref oy)] [(.ref ox), (.ref oa)])) rfl rfl (hb hby own_dini_28)
  refine own_Fin.go st6 ?_
  have F_oa_status_6 := Fld.same W6 F_oa_status_5
  have E_oa_6 := Exa.wr W6 E_oa_5
  have F_oa_authority_6 := Fld.other W6 F_oa_authority_5 (Or.inr (slot_ne (Or.inr (hw _ (List.mem_of_getElem? (i := 48) rfl))) (Or.inr (hw _ (List.mem_of_getElem? (i := 54) rfl))) (by decide) (t := (.object "java/lang/String")) (t' := (.object "java/lang/String")) (by decide) (by decide)))
  have F_oa_typeCode_6 := Fld.other W6 F_oa_typeCode_5 (Or.inr (slot_ne (Or.inr (hw _ (List.mem_of_getElem? (i := 50) rfl))) (Or.inr (hw _ (List.mem_of_getElem? (i := 54) rfl))) (by decide) (t := (.object "java/lang/String")) (t' := (.object "java/lang/String")) (by decide) (by decide)))
  have F_oa_organisation_6 := Fld.other W6 F_oa_organisation_5 (Or.inr (slot_ne (Or.inr (hw _ (List.mem_of_getElem? (i := 56) rfl))) (Or.inr (hw _ (List.mem_of_getElem? (i := 54) rfl))) (by decide) (t := (.object "java/lang/String")) (t' := (.object "java/lang/String")) (by decide) (by decide)))
  have Z6 := Nat.le_trans Z5 (Keep.of_wr W6).1
  have K6 := K5.wr W6 (Or.inl (List.mem_of_getElem? (i := 0) rfl))
  have N6 := Fr.snoc X6 N5 g_oa
  show own_Fin _ _ _ _ _ _ _ (T6.setTop (mkF m 31 #[.val (.ref oa), .val (.ref ol), .val (.ref ou), .val (.ref ov), .val (.ref ow), .val (.ref ox), .val (.ref oy)] []))
  refine own_Fin.go (fun t k => XS.aloadN X6.here hx rfl (hb hby own_dini_31) rfl rfl k) ?_
  show own_Fin _ _ _ _ _ _ _ (T6.setTop (mkF m 32 #[.val (.ref oa), .val (.ref ol), .val (.ref ou), .val (.ref ov), .val (.ref ow), .val (.ref ox), .val (.ref oy)] [(.ref oa)]))
  refine own_Fin.go (fun t k => XS.aload X6.here hx rfl (hb hby own_dini_32) rfl rfl k) ?_
  show own_Fin _ _ _ _ _ _ _ (T6.setTop (mkF m 34 #[.val (.ref oa), .val (.ref ol), .val (.ref ou), .val (.ref ov), .val (.ref ow), .val (.ref ox), .val (.ref oy)] [(.ref oy), (.ref oa)]))
  obtain ⟨T7, h7, X7, e7, W7, st7⟩ := putF X6 hx hZ hown (host := "") (Or.inl (hw _ (List.mem_of_getElem? (i := 55) rfl))) Via.refl e6 F_oa_organisation_6 E_oa_6 (Or.inr ⟨(hw _ (List.mem_of_getElem? (i := 56) rfl)), rfl, hnm⟩) (hw _ (List.mem_of_getElem? (i := 27) rfl)) (ty := (.object "java/lang/String")) (by decide) rfl rfl (g := (mkF m 34 #[.val (.ref oa), .val (.ref ol), .val (.ref ou), .val (.ref ov), .val (.ref ow), .val (.ref ox), .val (.ref oy)] [(.ref oy), (.ref oa)])) rfl rfl (hb hby own_dini_34)
  refine own_Fin.go st7 ?_
  have F_oa_organisation_7 := Fld.same W7 F_oa_organisation_6
  have E_oa_7 := Exa.wr W7 E_oa_6
  have F_oa_authority_7 := Fld.other W7 F_oa_authority_6 (Or.inr (slot_ne (Or.inr (hw _ (List.mem_of_getElem? (i := 48) rfl))) (Or.inr (hw _ (List.mem_of_getElem? (i := 56) rfl))) (by decide) (t := (.object "java/lang/String")) (t' := (.object "java/lang/String")) (by decide) (by decide)))
  have F_oa_typeCode_7 := Fld.other W7 F_oa_typeCode_6 (Or.inr (slot_ne (Or.inr (hw _ (List.mem_of_getElem? (i := 50) rfl))) (Or.inr (hw _ (List.mem_of_getElem? (i := 56) rfl))) (by decide) (t := (.object "java/lang/String")) (t' := (.object "java/lang/String")) (by decide) (by decide)))
  have Z7 := Nat.le_trans Z6 (Keep.of_wr W7).1
  have K7 := K6.wr W7 (Or.inl (List.mem_of_getElem? (i := 0) rfl))
  have N7 := Fr.snoc X7 N6 g_oa
  show own_Fin _ _ _ _ _ _ _ (T7.setTop (mkF m 37 #[.val (.ref oa), .val (.ref ol), .val (.ref ou), .val (.ref ov), .val (.ref ow), .val (.ref ox), .val (.ref oy)] []))
  refine own_ret0 X7 hx Bd.returns (hb hby own_dini_37) Bd.notSynchronized (by decide) (by decide) ?_
  rw [e7]
  exact ⟨rfl, N7, K7, E_oa_7, F_oa_authority_7, F_oa_typeCode_7⟩
theorem own_dsiz_0 : decode jdk_44_method_3_code 0 = .ok (.aload_n 0, 1) := by decide +kernel
theorem own_dsiz_1 : decode jdk_44_method_3_code 1 = .ok (.getfield 24, 3) := by decide +kernel
theorem own_dsiz_4 : decode jdk_44_method_3_code 4 = .ok (.getstatic 19, 3) := by decide +kernel
theorem own_dsiz_7 : decode jdk_44_method_3_code 7 = .ok (.if_acmp .eq 7, 3) := by decide +kernel
theorem own_dsiz_10 : decode jdk_44_method_3_code 10 = .ok (.iconst 2, 1) := by decide +kernel
theorem own_dsiz_11 : decode jdk_44_method_3_code 11 = .ok (.goto 4, 3) := by decide +kernel
theorem own_dsiz_15 : decode jdk_44_method_3_code 15 = .ok (.ireturn, 1) := by decide +kernel
theorem own_ef_siz (m : MethodId) (oa : Addr) : entryFrame m #[(.ref oa)] 1 = mkF m 0 #[.val (.ref oa)] [] := by first | (simp [entryFrame, mkF, argsToLocals, Value.category]; done) | rfl
def own_Q_siz (Z : State) (oa : Addr) (ov : Addr) (om : Addr) (h0 : Heap) (n0 : Nat) (v : Option Value) (h : Heap) (L : List Loc) : Prop := v = some (.int (2 : Int32)) ∧ Fr n0 L ∧ h = h0
set_option maxRecDepth 65536 in
set_option maxHeartbeats 40000000 in
theorem own_rm_siz (l : Launch) (Z : State) (a0 : Array Value) (hw : ∀ d ∈ tables_1, d.before a0 Z = true) (ws : List Jvm.Cond) (oa : Addr) (ov : Addr) (om : Addr) (h0 : Heap) (n0 : Nat) (Z0 : n0 ≤ h0.size) (F_oa_e1 : Fld Z h0 oa "java/util/ImmutableCollections$List12" "e1" "Ljava/lang/Object;" (.ref ov)) (S_EMPTY : Sta Z h0 "java/util/ImmutableCollections" "EMPTY" "Ljava/lang/Object;" (.ref om)) (ne_ov_om : ov ≠ om) :
    MetFree l (⟨"java/util/ImmutableCollections$List12", "size", "()I"⟩ : MethodName) (head1 (Jvm.Cond.code (⟨"java/util/ImmutableCollections$List12", "size", "()I"⟩ : MethodName) jdk_44_method_3_code 1 (some .int) :: ws) ({ frames := 0, cells := 0, slots := 0, locals := 0 } : Room)) (fun a U => a = #[(.ref oa)] ∧ Z.Warmed39 U.vm ∧ U.heap = h0) (fun _ _ _ _ _ => True) (fun _ U o U' => ∃ v L, o = .returned v ∧ own_Q_siz Z oa ov om h0 n0 v U'.heap L ∧ FrameEnd U o U' L ({ frames := 0, cells := 0, slots := 0, locals := 0 } : Room).cells ({ frames := 0, cells := 0, slots := 0, locals := 0 } : Room).slots) := by
  refine MetFree.of_bodySF (plainFor_of_name own_pn5) hisR ?_
  intro p e s m args below meth c s₁ Bd hml0 hP hK
  obtain ⟨rfl, hZ, hh⟩ := hP
  have hx := Bd.exec
  have hby := Bd.bytes
  have hml : c.maxLocals = 1 := hml0
  have hown : s.vm.findClass "java/util/ImmutableCollections$List12" = some m.cls := findClass_of_methodNamed Bd.named
  have hnm := (name_of_methodNamed Bd.named Bd.method).1
  have X0 : Stand p l e ({ frames := 0, cells := 0, slots := 0, locals := 0 } : Room) s m #[(.ref oa)] below meth c s₁ [] 0 0 := Stand.of_body Bd
  have e0 : s₁.heap = h0 := by rw [← hh, Bd.state]; rfl
  have N0 := Fr.nil n0
  show own_Fin p e below s (own_Q_siz Z oa ov om h0 n0) ({ frames := 0, cells := 0, slots := 0, locals := 0 } : Room).cells ({ frames := 0, cells := 0, slots := 0, locals := 0 } : Room).slots (s₁.setTop (entryFrame m #[(.ref oa)] 1))
  refine own_Fin.go (fun t k => castTop (own_ef_siz m oa) k) ?_
  refine own_Fin.go (fun t k => XS.aloadN X0.here hx rfl (hb hby own_dsiz_0) rfl rfl k) ?_
  show own_Fin _ _ _ _ _ _ _ (s₁.setTop (mkF m 1 #[.val (.ref oa)] [(.ref oa)]))
  obtain ⟨T1, X1, e1, st1⟩ := getF X0 hx hZ hown (host := "") (Or.inl (hw _ (List.mem_of_getElem? (i := 98) rfl))) Via.refl e0 F_oa_e1 (g := (mkF m 1 #[.val (.ref oa)] [(.ref oa)])) rfl rfl (hb hby own_dsiz_1)
  refine own_Fin.go st1 ?_
  show own_Fin _ _ _ _ _ _ _ (T1.setTop (mkF m 4 #[.val (.ref oa)] [(.ref ov)]))
  obtain ⟨T2, X2, e2, st2⟩ := getS2 X1 hx hZ hown (Or.inr (hw _ (List.mem_of_getElem? (i := 109) rfl))) Via.refl e1 S_EMPTY (g := (mkF m 4 #[.val (.ref oa)] [(.ref ov)])) rfl (hb hby own_dsiz_4)
  refine own_Fin.go st2 ?_
  show own_Fin _ _ _ _ _ _ _ (T2.setTop (mkF m 7 #[.val (.ref oa)] [(.ref om), (.ref ov)]))
  refine own_Fin.go (fun t k => Jvm.RoadKit.acmp (g := (mkF m 7 #[.val (.ref oa)] [(.ref om), (.ref ov)])) X2 hx rfl rfl rfl (pc0 := 7) (pc' := 10) (same := false) rfl (hb hby own_dsiz_7) rfl (decide_eq_false fun q => absurd (Value.ref.inj q) (ne_ov_om)) (by decide) (by decide) k) ?_
  show own_Fin _ _ _ _ _ _ _ (T2.setTop (mkF m 10 #[.val (.ref oa)] []))
  refine own_Fin.go (fun t k => XS.iconst X2.here hx rfl (hb hby own_dsiz_10) k) ?_
  show own_Fin _ _ _ _ _ _ _ (T2.setTop (mkF m 11 #[.val (.ref oa)] [(.int (2 : Int32))]))
  refine own_Fin.go (fun t k => XS.goto X2.here hx rfl (pc0 := 11) (pc' := 15) rfl (hb hby own_dsiz_11) (by decide) (by decide) k) ?_
  show own_Fin _ _ _ _ _ _ _ (T2.setTop (mkF m 15 #[.val (.ref oa)] [(.int (2 : Int32))]))
  refine own_retI X2 hx Bd.returns (hb hby own_dsiz_15) Bd.notSynchronized (by decide) (by decide) ?_
  rw [e2]
  exact ⟨rfl, N0, rfl⟩
theorem own_dget0_0 : decode jdk_44_method_5_code 0 = .ok (.iload_n 1, 1) := by decide +kernel
theorem own_dget0_1 : decode jdk_44_method_5_code 1 = .ok (.ifCond .ne 8, 3) := by decide +kernel
theorem own_dget0_4 : decode jdk_44_method_5_code 4 = .ok (.aload_n 0, 1) := by decide +kernel
theorem own_dget0_5 : decode jdk_44_method_5_code 5 = .ok (.getfield 13, 3) := by decide +kernel
theorem own_dget0_8 : decode jdk_44_method_5_code 8 = .ok (.areturn, 1) := by decide +kernel
theorem own_ef_get0 (m : MethodId) (oa : Addr) : entryFrame m #[(.ref oa), (.int (0 : Int32))] 2 = mkF m 0 #[.val (.ref oa), .val (.int (0 : Int32))] [] := by first | (simp [entryFrame, mkF, argsToLocals, Value.category]; done) | rfl
def own_Q_get0 (Z : State) (oa : Addr) (ou : Addr) (h0 : Heap) (n0 : Nat) (v : Option Value) (h : Heap) (L : List Loc) : Prop := v = some (.ref ou) ∧ Fr n0 L ∧ h = h0
set_option maxRecDepth 65536 in
set_option maxHeartbeats 40000000 in
theorem own_rm_get0 (l : Launch) (Z : State) (a0 : Array Value) (hw : ∀ d ∈ tables_1, d.before a0 Z = true) (ws : List Jvm.Cond) (oa : Addr) (ou : Addr) (h0 : Heap) (n0 : Nat) (Z0 : n0 ≤ h0.size) (F_oa_e0 : Fld Z h0 oa "java/util/ImmutableCollections$List12" "e0" "Ljava/lang/Object;" (.ref ou)) :
    MetFree l (⟨"java/util/ImmutableCollections$List12", "get", "(I)Ljava/lang/Object;"⟩ : MethodName) (head1 (Jvm.Cond.code (⟨"java/util/ImmutableCollections$List12", "get", "(I)Ljava/lang/Object;"⟩ : MethodName) jdk_44_method_5_code 2 (some (.object "java/lang/Object")) :: ws) ({ frames := 0, cells := 0, slots := 0, locals := 0 } : Room)) (fun a U => a = #[(.ref oa), (.int (0 : Int32))] ∧ Z.Warmed39 U.vm ∧ U.heap = h0) (fun _ _ _ _ _ => True) (fun _ U o U' => ∃ v L, o = .returned v ∧ own_Q_get0 Z oa ou h0 n0 v U'.heap L ∧ FrameEnd U o U' L ({ frames := 0, cells := 0, slots := 0, locals := 0 } : Room).cells ({ frames := 0, cells := 0, slots := 0, locals := 0 } : Room).slots) := by
  refine MetFree.of_bodySF (plainFor_of_name own_pn5) hisR ?_
  intro p e s m args below meth c s₁ Bd hml0 hP hK
  obtain ⟨rfl, hZ, hh⟩ := hP
  have hx := Bd.exec
  have hby := Bd.bytes
  have hml : c.maxLocals = 2 := hml0
  have hown : s.vm.findClass "java/util/ImmutableCollections$List12" = some m.cls := findClass_of_methodNamed Bd.named
  have hnm := (name_of_methodNamed Bd.named Bd.method).1
  have X0 : Stand p l e ({ frames := 0, cells := 0, slots := 0, locals := 0 } : Room) s m #[(.ref oa), (.int (0 : Int32))] below meth c s₁ [] 0 0 := Stand.of_body Bd
  have e0 : s₁.heap = h0 := by rw [← hh, Bd.state]; rfl
  have N0 := Fr.nil n0
  show own_Fin p e below s (own_Q_get0 Z oa ou h0 n0) ({ frames := 0, cells := 0, slots := 0, locals := 0 } : Room).cells ({ frames := 0, cells := 0, slots := 0, locals := 0 } : Room).slots (s₁.setTop (entryFrame m #[(.ref oa), (.int (0 : Int32))] 2))
  refine own_Fin.go (fun t k => castTop (own_ef_get0 m oa) k) ?_
  refine own_Fin.go (fun t k => XS.iloadN X0.here hx rfl (hb hby own_dget0_0) rfl k) ?_
  show own_Fin _ _ _ _ _ _ _ (s₁.setTop (mkF m 1 #[.val (.ref oa), .val (.int (0 : Int32))] [(.int (0 : Int32))]))
  refine own_Fin.go (fun t k => XS.ifNo X0.here hx rfl (hb hby own_dget0_1) rfl (by decide) k) ?_
  show own_Fin _ _ _ _ _ _ _ (s₁.setTop (mkF m 4 #[.val (.ref oa), .val (.int (0 : Int32))] []))
  refine own_Fin.go (fun t k => XS.aloadN X0.here hx rfl (hb hby own_dget0_4) rfl rfl k) ?_
  show own_Fin _ _ _ _ _ _ _ (s₁.setTop (mkF m 5 #[.val (.ref oa), .val (.int (0 : Int32))] [(.ref oa)]))
  obtain ⟨T1, X1, e1, st1⟩ := getF X0 hx hZ hown (host := "") (Or.inl (hw _ (List.mem_of_getElem? (i := 96) rfl))) Via.refl e0 F_oa_e0 (g := (mkF m 5 #[.val (.ref oa), .val (.int (0 : Int32))] [(.ref oa)])) rfl rfl (hb hby own_dget0_5)
  refine own_Fin.go st1 ?_
  show own_Fin _ _ _ _ _ _ _ (T1.setTop (mkF m 8 #[.val (.ref oa), .val (.int (0 : Int32))] [(.ref ou)]))
  refine own_retA X1 hx Bd.returns rfl (hb hby own_dget0_8) Bd.notSynchronized (by decide) (by decide) ?_
  rw [e1]
  exact ⟨rfl, N0, rfl⟩
theorem own_dget1_0 : decode jdk_44_method_5_code 0 = .ok (.iload_n 1, 1) := by decide +kernel
theorem own_dget1_1 : decode jdk_44_method_5_code 1 = .ok (.ifCond .ne 8, 3) := by decide +kernel
theorem own_dget1_9 : decode jdk_44_method_5_code 9 = .ok (.iload_n 1, 1) := by decide +kernel
theorem own_dget1_10 : decode jdk_44_method_5_code 10 = .ok (.iconst 1, 1) := by decide +kernel
theorem own_dget1_11 : decode jdk_44_method_5_code 11 = .ok (.if_icmp .ne 18, 3) := by decide +kernel
theorem own_dget1_14 : decode jdk_44_method_5_code 14 = .ok (.aload_n 0, 1) := by decide +kernel
theorem own_dget1_15 : decode jdk_44_method_5_code 15 = .ok (.getfield 24, 3) := by decide +kernel
theorem own_dget1_18 : decode jdk_44_method_5_code 18 = .ok (.getstatic 19, 3) := by decide +kernel
theorem own_dget1_21 : decode jdk_44_method_5_code 21 = .ok (.if_acmp .eq 8, 3) := by decide +kernel
theorem own_dget1_24 : decode jdk_44_method_5_code 24 = .ok (.aload_n 0, 1) := by decide +kernel
theorem own_dget1_25 : decode jdk_44_method_5_code 25 = .ok (.getfield 24, 3) := by decide +kernel
theorem own_dget1_28 : decode jdk_44_method_5_code 28 = .ok (.areturn, 1) := by decide +kernel
theorem own_ef_get1 (m : MethodId) (oa : Addr) : entryFrame m #[(.ref oa), (.int (1 : Int32))] 2 = mkF m 0 #[.val (.ref oa), .val (.int (1 : Int32))] [] := by first | (simp [entryFrame, mkF, argsToLocals, Value.category]; done) | rfl
def own_Q_get1 (Z : State) (oa : Addr) (ov : Addr) (om : Addr) (h0 : Heap) (n0 : Nat) (v : Option Value) (h : Heap) (L : List Loc) : Prop := v = some (.ref ov) ∧ Fr n0 L ∧ h = h0
set_option maxRecDepth 65536 in
set_option maxHeartbeats 40000000 in
theorem own_rm_get1 (l : Launch) (Z : State) (a0 : Array Value) (hw : ∀ d ∈ tables_1, d.before a0 Z = true) (ws : List Jvm.Cond) (oa : Addr) (ov : Addr) (om : Addr) (h0 : Heap) (n0 : Nat) (Z0 : n0 ≤ h0.size) (F_oa_e1 : Fld Z h0 oa "java/util/ImmutableCollections$List12" "e1" "Ljava/lang/Object;" (.ref ov)) (S_EMPTY : Sta Z h0 "java/util/ImmutableCollections" "EMPTY" "Ljava/lang/Object;" (.ref om)) (ne_ov_om : ov ≠ om) :
    MetFree l (⟨"java/util/ImmutableCollections$List12", "get", "(I)Ljava/lang/Object;"⟩ : MethodName) (head1 (Jvm.Cond.code (⟨"java/util/ImmutableCollections$List12", "get", "(I)Ljava/lang/Object;"⟩ : MethodName) jdk_44_method_5_code 2 (some (.object "java/lang/Object")) :: ws) ({ frames := 0, cells := 0, slots := 0, locals := 0 } : Room)) (fun a U => a = #[(.ref oa), (.int (1 : Int32))] ∧ Z.Warmed39 U.vm ∧ U.heap = h0) (fun _ _ _ _ _ => True) (fun _ U o U' => ∃ v L, o = .returned v ∧ own_Q_get1 Z oa ov om h0 n0 v U'.heap L ∧ FrameEnd U o U' L ({ frames := 0, cells := 0, slots := 0, locals := 0 } : Room).cells ({ frames := 0, cells := 0, slots := 0, locals := 0 } : Room).slots) := by
  refine MetFree.of_bodySF (plainFor_of_name own_pn5) hisR ?_
  intro p e s m args below meth c s₁ Bd hml0 hP hK
  obtain ⟨rfl, hZ, hh⟩ := hP
  have hx := Bd.exec
  have hby := Bd.bytes
  have hml : c.maxLocals = 2 := hml0
  have hown : s.vm.findClass "java/util/ImmutableCollections$List12" = some m.cls := findClass_of_methodNamed Bd.named
  have hnm := (name_of_methodNamed Bd.named Bd.method).1
  have X0 : Stand p l e ({ frames := 0, cells := 0, slots := 0, locals := 0 } : Room) s m #[(.ref oa), (.int (1 : Int32))] below meth c s₁ [] 0 0 := Stand.of_body Bd
  have e0 : s₁.heap = h0 := by rw [← hh, Bd.state]; rfl
  have N0 := Fr.nil n0
  show own_Fin p e below s (own_Q_get1 Z oa ov om h0 n0) ({ frames := 0, cells := 0, slots := 0, locals := 0 } : Room).cells ({ frames := 0, cells := 0, slots := 0, locals := 0 } : Room).slots (s₁.setTop (entryFrame m #[(.ref oa), (.int (1 : Int32))] 2))
  refine own_Fin.go (fun t k => castTop (own_ef_get1 m oa) k) ?_
  refine own_Fin.go (fun t k => XS.iloadN X0.here hx rfl (hb hby own_dget1_0) rfl k) ?_
  show own_Fin _ _ _ _ _ _ _ (s₁.setTop (mkF m 1 #[.val (.ref oa), .val (.int (1 : Int32))] [(.int (1 : Int32))]))
  refine own_Fin.go (fun t k => XS.ifYes X0.here hx rfl (pc0 := 1) (pc' := 9) rfl (hb hby own_dget1_1) rfl (by decide) (by decide) (by decide) k) ?_
  show own_Fin _ _ _ _ _ _ _ (s₁.setTop (mkF m 9 #[.val (.ref oa), .val (.int (1 : Int32))] []))
  refine own_Fin.go (fun t k => XS.iloadN X0.here hx rfl (hb hby own_dget1_9) rfl k) ?_
  show own_Fin _ _ _ _ _ _ _ (s₁.setTop (mkF m 10 #[.val (.ref oa), .val (.int (1 : Int32))] [(.int (1 : Int32))]))
  refine own_Fin.go (fun t k => XS.iconst X0.here hx rfl (hb hby own_dget1_10) k) ?_
  show own_Fin _ _ _ _ _ _ _ (s₁.setTop (mkF m 11 #[.val (.ref oa), .val (.int (1 : Int32))] [(.int (1 : Int32)), (.int (1 : Int32))]))
  refine own_Fin.go (fun t k => XS.icmpNo X0.here hx rfl (hb hby own_dget1_11) rfl (by decide) k) ?_
  show own_Fin _ _ _ _ _ _ _ (s₁.setTop (mkF m 14 #[.val (.ref oa), .val (.int (1 : Int32))] []))
  refine own_Fin.go (fun t k => XS.aloadN X0.here hx rfl (hb hby own_dget1_14) rfl rfl k) ?_
  show own_Fin _ _ _ _ _ _ _ (s₁.setTop (mkF m 15 #[.val (.ref oa), .val (.int (1 : Int32))] [(.ref oa)]))
  obtain ⟨T1, X1, e1, st1⟩ := getF X0 hx hZ hown (host := "") (Or.inl (hw _ (List.mem_of_getElem? (i := 98) rfl))) Via.refl e0 F_oa_e1 (g := (mkF m 15 #[.val (.ref oa), .val (.int (1 : Int32))] [(.ref oa)])) rfl rfl (hb hby own_dget1_15)
  refine own_Fin.go st1 ?_
  show own_Fin _ _ _ _ _ _ _ (T1.setTop (mkF m 18 #[.val (.ref oa), .val (.int (1 : Int32))] [(.ref ov)]))
  obtain ⟨T2, X2, e2, st2⟩ := getS2 X1 hx hZ hown (Or.inr (hw _ (List.mem_of_getElem? (i := 109) rfl))) Via.refl e1 S_EMPTY (g := (mkF m 18 #[.val (.ref oa), .val (.int (1 : Int32))] [(.ref ov)])) rfl (hb hby own_dget1_18)
  refine own_Fin.go st2 ?_
  show own_Fin _ _ _ _ _ _ _ (T2.setTop (mkF m 21 #[.val (.ref oa), .val (.int (1 : Int32))] [(.ref om), (.ref ov)]))
  refine own_Fin.go (fun t k => Jvm.RoadKit.acmp (g := (mkF m 21 #[.val (.ref oa), .val (.int (1 : Int32))] [(.ref om), (.ref ov)])) X2 hx rfl rfl rfl (pc0 := 21) (pc' := 24) (same := false) rfl (hb hby own_dget1_21) rfl (decide_eq_false fun q => absurd (Value.ref.inj q) (ne_ov_om)) (by decide) (by decide) k) ?_
  show own_Fin _ _ _ _ _ _ _ (T2.setTop (mkF m 24 #[.val (.ref oa), .val (.int (1 : Int32))] []))
  refine own_Fin.go (fun t k => XS.aloadN X2.here hx rfl (hb hby own_dget1_24) rfl rfl k) ?_
  show own_Fin _ _ _ _ _ _ _ (T2.setTop (mkF m 25 #[.val (.ref oa), .val (.int (1 : Int32))] [(.ref oa)]))
  obtain ⟨T3, X3, e3, st3⟩ := getF X2 hx hZ hown (host := "") (Or.inl (hw _ (List.mem_of_getElem? (i := 98) rfl))) Via.refl e2 F_oa_e1 (g := (mkF m 25 #[.val (.ref oa), .val (.int (1 : Int32))] [(.ref oa)])) rfl rfl (hb hby own_dget1_25)
  refine own_Fin.go st3 ?_
  show own_Fin _ _ _ _ _ _ _ (T3.setTop (mkF m 28 #[.val (.ref oa), .val (.int (1 : Int32))] [(.ref ov)]))
  refine own_retA X3 hx Bd.returns rfl (hb hby own_dget1_28) Bd.notSynchronized (by decide) (by decide) ?_
  rw [e3]
  exact ⟨rfl, N0, rfl⟩
theorem own_deq_0 : decode jdk_42_method_66_code 0 = .ok (.aload_n 0, 1) := by decide +kernel
theorem own_deq_1 : decode jdk_42_method_66_code 1 = .ok (.aload_n 1, 1) := by decide +kernel
theorem own_deq_2 : decode jdk_42_method_66_code 2 = .ok (.if_acmp .ne 5, 3) := by decide +kernel
theorem own_deq_5 : decode jdk_42_method_66_code 5 = .ok (.iconst 1, 1) := by decide +kernel
theorem own_deq_6 : decode jdk_42_method_66_code 6 = .ok (.ireturn, 1) := by decide +kernel
theorem own_pn8 : plainName "java/lang/String" = true := by first | (simp [plainName, overriddenIn]; done) | decide +kernel
theorem own_ef_eq (m : MethodId) (oa : Addr) : entryFrame m #[(.ref oa), (.ref oa)] 3 = mkF m 0 #[.val (.ref oa), .val (.ref oa), .unset] [] := by first | (simp [entryFrame, mkF, argsToLocals, Value.category]; done) | rfl
def own_Q_eq (Z : State) (oa : Addr) (h0 : Heap) (n0 : Nat) (v : Option Value) (h : Heap) (L : List Loc) : Prop := v = some (.int (1 : Int32)) ∧ Fr n0 L ∧ h = h0
set_option maxRecDepth 65536 in
set_option maxHeartbeats 40000000 in
theorem own_rm_eq (l : Launch) (Z : State) (a0 : Array Value) (hw : ∀ d ∈ tables_1, d.before a0 Z = true) (ws : List Jvm.Cond) (oa : Addr) (h0 : Heap) (n0 : Nat) (Z0 : n0 ≤ h0.size) :
    MetFree l (⟨"java/lang/String", "equals", "(Ljava/lang/Object;)Z"⟩ : MethodName) (head1 (Jvm.Cond.code (⟨"java/lang/String", "equals", "(Ljava/lang/Object;)Z"⟩ : MethodName) jdk_42_method_66_code 3 (some .boolean) :: ws) ({ frames := 0, cells := 0, slots := 0, locals := 0 } : Room)) (fun a U => a = #[(.ref oa), (.ref oa)] ∧ Z.Warmed39 U.vm ∧ U.heap = h0) (fun _ _ _ _ _ => True) (fun _ U o U' => ∃ v L, o = .returned v ∧ own_Q_eq Z oa h0 n0 v U'.heap L ∧ FrameEnd U o U' L ({ frames := 0, cells := 0, slots := 0, locals := 0 } : Room).cells ({ frames := 0, cells := 0, slots := 0, locals := 0 } : Room).slots) := by
  refine MetFree.of_bodySF (plainFor_of_name own_pn8) hisR ?_
  intro p e s m args below meth c s₁ Bd hml0 hP hK
  obtain ⟨rfl, hZ, hh⟩ := hP
  have hx := Bd.exec
  have hby := Bd.bytes
  have hml : c.maxLocals = 3 := hml0
  have hown : s.vm.findClass "java/lang/String" = some m.cls := findClass_of_methodNamed Bd.named
  have hnm := (name_of_methodNamed Bd.named Bd.method).1
  have X0 : Stand p l e ({ frames := 0, cells := 0, slots := 0, locals := 0 } : Room) s m #[(.ref oa), (.ref oa)] below meth c s₁ [] 0 0 := Stand.of_body Bd
  have e0 : s₁.heap = h0 := by rw [← hh, Bd.state]; rfl
  have N0 := Fr.nil n0
  show own_Fin p e below s (own_Q_eq Z oa h0 n0) ({ frames := 0, cells := 0, slots := 0, locals := 0 } : Room).cells ({ frames := 0, cells := 0, slots := 0, locals := 0 } : Room).slots (s₁.setTop (entryFrame m #[(.ref oa), (.ref oa)] 3))
  refine own_Fin.go (fun t k => castTop (own_ef_eq m oa) k) ?_
  refine own_Fin.go (fun t k => XS.aloadN X0.here hx rfl (hb hby own_deq_0) rfl rfl k) ?_
  show own_Fin _ _ _ _ _ _ _ (s₁.setTop (mkF m 1 #[.val (.ref oa), .val (.ref oa), .unset] [(.ref oa)]))
  refine own_Fin.go (fun t k => XS.aloadN X0.here hx rfl (hb hby own_deq_1) rfl rfl k) ?_
  show own_Fin _ _ _ _ _ _ _ (s₁.setTop (mkF m 2 #[.val (.ref oa), .val (.ref oa), .unset] [(.ref oa), (.ref oa)]))
  refine own_Fin.go (fun t k => Jvm.RoadKit.acmp (g := (mkF m 2 #[.val (.ref oa), .val (.ref oa), .unset] [(.ref oa), (.ref oa)])) X0 hx rfl rfl rfl (pc0 := 2) (pc' := 5) (same := true) rfl (hb hby own_deq_2) rfl (decide_eq_true rfl) (by decide) (by decide) k) ?_
  show own_Fin _ _ _ _ _ _ _ (s₁.setTop (mkF m 5 #[.val (.ref oa), .val (.ref oa), .unset] []))
  refine own_Fin.go (fun t k => XS.iconst X0.here hx rfl (hb hby own_deq_5) k) ?_
  show own_Fin _ _ _ _ _ _ _ (s₁.setTop (mkF m 6 #[.val (.ref oa), .val (.ref oa), .unset] [(.int (1 : Int32))]))
  refine own_retN X0 hx (t := .boolean) (w := (1 : Int32)) Bd.returns (by simp) (hb hby own_deq_6) Bd.notSynchronized rfl (by decide) (by decide) ?_
  rw [e0]
  exact ⟨rfl, N0, rfl⟩
theorem own_dlev_0 : decode method_3_code 0 = .ok (.iload_n 0, 1) := by decide +kernel
theorem own_dlev_1 : decode method_3_code 1 = .ok (.ldc 12, 2) := by decide +kernel
theorem own_dlev_3 : decode method_3_code 3 = .ok (.iand, 1) := by decide +kernel
theorem own_dlev_4 : decode method_3_code 4 = .ok (.iconst 3, 1) := by decide +kernel
theorem own_dlev_5 : decode method_3_code 5 = .ok (.irem, 1) := by decide +kernel
theorem own_dlev_6 : decode method_3_code 6 = .ok (.istore_n 1, 1) := by decide +kernel
theorem own_dlev_7 : decode method_3_code 7 = .ok (.iload_n 1, 1) := by decide +kernel
theorem own_dlev_8 : decode method_3_code 8 = .ok (.ifCond .ne 7, 3) := by decide +kernel
theorem own_dlev_11 : decode method_3_code 11 = .ok (.getstatic 13, 3) := by decide +kernel
theorem own_dlev_14 : decode method_3_code 14 = .ok (.areturn, 1) := by decide +kernel
theorem own_dlev_15 : decode method_3_code 15 = .ok (.iload_n 1, 1) := by decide +kernel
theorem own_dlev_16 : decode method_3_code 16 = .ok (.iconst 1, 1) := by decide +kernel
theorem own_dlev_17 : decode method_3_code 17 = .ok (.if_icmp .ne 7, 3) := by decide +kernel
theorem own_dlev_20 : decode method_3_code 20 = .ok (.getstatic 19, 3) := by decide +kernel
theorem own_dlev_23 : decode method_3_code 23 = .ok (.areturn, 1) := by decide +kernel
theorem own_dlev_24 : decode method_3_code 24 = .ok (.getstatic 22, 3) := by decide +kernel
theorem own_dlev_27 : decode method_3_code 27 = .ok (.areturn, 1) := by decide +kernel
theorem own_pn9 : plainName "com/example/wardkeeper/wardkeeper/patient/IdentifierTypeKeyPinLaw" = true := by first | (simp [plainName, overriddenIn]; done) | decide +kernel
theorem own_ef_lev (m : MethodId) (va : Int32) : entryFrame m #[(.int va)] 2 = mkF m 0 #[.val (.int va), .unset] [] := by first | (simp [entryFrame, mkF, argsToLocals, Value.category]; done) | rfl
def own_Q_lev (Z : State) (va : Int32) (oNATIONAL : Addr) (oORGANISATION : Addr) (oTEAM : Addr) (h0 : Heap) (n0 : Nat) (v : Option Value) (h : Heap) (L : List Loc) : Prop := ∃ r : Addr, v = some (.ref r) ∧ Fr n0 L ∧ h = h0
set_option maxRecDepth 65536 in
set_option maxHeartbeats 40000000 in
theorem own_rm_lev (l : Launch) (Z : State) (a0 : Array Value) (hw : ∀ d ∈ tables_1, d.before a0 Z = true) (ws : List Jvm.Cond) (va : Int32) (oNATIONAL : Addr) (oORGANISATION : Addr) (oTEAM : Addr) (h0 : Heap) (n0 : Nat) (Z0 : n0 ≤ h0.size) (S_NATIONAL : Sta Z h0 "com/example/wardkeeper/wardkeeper/patient/Identifier$Level" "NATIONAL" "Lcom/example/wardkeeper/wardkeeper/patient/Identifier$Level;" (.ref oNATIONAL)) (S_ORGANISATION : Sta Z h0 "com/example/wardkeeper/wardkeeper/patient/Identifier$Level" "ORGANISATION" "Lcom/example/wardkeeper/wardkeeper/patient/Identifier$Level;" (.ref oORGANISATION)) (S_TEAM : Sta Z h0 "com/example/wardkeeper/wardkeeper/patient/Identifier$Level" "TEAM" "Lcom/example/wardkeeper/wardkeeper/patient/Identifier$Level;" (.ref oTEAM)) :
    MetFree l (⟨"com/example/wardkeeper/wardkeeper/patient/IdentifierTypeKeyPinLaw", "level", "(I)Lcom/example/wardkeeper/wardkeeper/patient/Identifier$Level;"⟩ : MethodName) (head1 (Jvm.Cond.code (⟨"com/example/wardkeeper/wardkeeper/patient/IdentifierTypeKeyPinLaw", "level", "(I)Lcom/example/wardkeeper/wardkeeper/patient/Identifier$Level;"⟩ : MethodName) method_3_code 2 (some (.object "com/example/wardkeeper/wardkeeper/patient/Identifier$Level")) :: ws) ({ frames := 0, cells := 0, slots := 0, locals := 0 } : Room)) (fun a U => a = #[(.int va)] ∧ Z.Warmed39 U.vm ∧ U.heap = h0) (fun _ _ _ _ _ => True) (fun _ U o U' => ∃ v L, o = .returned v ∧ own_Q_lev Z va oNATIONAL oORGANISATION oTEAM h0 n0 v U'.heap L ∧ FrameEnd U o U' L ({ frames := 0, cells := 0, slots := 0, locals := 0 } : Room).cells ({ frames := 0, cells := 0, slots := 0, locals := 0 } : Room).slots) := by
  refine MetFree.of_bodySF (plainFor_of_name own_pn9) hisR ?_
  intro p e s m args below meth c s₁ Bd hml0 hP hK
  obtain ⟨rfl, hZ, hh⟩ := hP
  have hx := Bd.exec
  have hby := Bd.bytes
  have hml : c.maxLocals = 2 := hml0
  have hown : s.vm.findClass "com/example/wardkeeper/wardkeeper/patient/IdentifierTypeKeyPinLaw" = some m.cls := findClass_of_methodNamed Bd.named
  have hnm := (name_of_methodNamed Bd.named Bd.method).1
  have X0 : Stand p l e ({ frames := 0, cells := 0, slots := 0, locals := 0 } : Room) s m #[(.int va)] below meth c s₁ [] 0 0 := Stand.of_body Bd
  have e0 : s₁.heap = h0 := by rw [← hh, Bd.state]; rfl
  have N0 := Fr.nil n0
  show own_Fin p e below s (own_Q_lev Z va oNATIONAL oORGANISATION oTEAM h0 n0) ({ frames := 0, cells := 0, slots := 0, locals := 0 } : Room).cells ({ frames := 0, cells := 0, slots := 0, locals := 0 } : Room).slots (s₁.setTop (entryFrame m #[(.int va)] 2))
  refine own_Fin.go (fun t k => castTop (own_ef_lev m va) k) ?_
  refine own_Fin.go (fun t k => XS.iloadN X0.here hx rfl (hb hby own_dlev_0) rfl k) ?_
  show own_Fin _ _ _ _ _ _ _ (s₁.setTop (mkF m 1 #[.val (.int va), .unset] [(.int va)]))
  refine own_Fin.go (fun t k => X0.ldcInt hx hown (mvT hZ (hw _ (List.mem_of_getElem? (i := 32) rfl))) (g := (mkF m 1 #[.val (.int va), .unset] [(.int va)])) rfl (hb hby own_dlev_1) t k) ?_
  show own_Fin _ _ _ _ _ _ _ (s₁.setTop (mkF m 3 #[.val (.int va), .unset] [(.int (2147483647 : Int32)), (.int va)]))
  refine own_Fin.go (fun t k => XS.iand X0.here hx rfl (hb hby own_dlev_3) rfl k) ?_
  show own_Fin _ _ _ _ _ _ _ (s₁.setTop (mkF m 4 #[.val (.int va), .unset] [(.int (va &&& (2147483647 : Int32)))]))
  refine own_Fin.go (fun t k => XS.iconst X0.here hx rfl (hb hby own_dlev_4) k) ?_
  show own_Fin _ _ _ _ _ _ _ (s₁.setTop (mkF m 5 #[.val (.int va), .unset] [(.int (3 : Int32)), (.int (va &&& (2147483647 : Int32)))]))
  refine own_Fin.go (fun t k => iremM X0 hx rfl (hb hby own_dlev_5) rfl (by decide) k) ?_
  show own_Fin _ _ _ _ _ _ _ (s₁.setTop (mkF m 6 #[.val (.int va), .unset] [(.int ((va &&& (2147483647 : Int32)) % (3 : Int32)))]))
  refine own_Fin.go (fun t k => XS.istoreN X0.here hx rfl (hb hby own_dlev_6) rfl (l' := #[.val (.int va), .val (.int ((va &&& (2147483647 : Int32)) % (3 : Int32)))]) rfl k) ?_
  show own_Fin _ _ _ _ _ _ _ (s₁.setTop (mkF m 7 #[.val (.int va), .val (.int ((va &&& (2147483647 : Int32)) % (3 : Int32)))] []))
  refine own_Fin.go (fun t k => XS.iloadN X0.here hx rfl (hb hby own_dlev_7) rfl k) ?_
  show own_Fin _ _ _ _ _ _ _ (s₁.setTop (mkF m 8 #[.val (.int va), .val (.int ((va &&& (2147483647 : Int32)) % (3 : Int32)))] [(.int ((va &&& (2147483647 : Int32)) % (3 : Int32)))]))
  by_cases hc8 : ((va &&& (2147483647 : Int32)) % (3 : Int32)) = (0 : Int32)
  · refine own_Fin.go (fun t k => XS.ifNo X0.here hx rfl (hb hby own_dlev_8) rfl (Jvm.Free.XT.i0_ne_f hc8) k) ?_
    show own_Fin _ _ _ _ _ _ _ (s₁.setTop (mkF m 11 #[.val (.int va), .val (.int ((va &&& (2147483647 : Int32)) % (3 : Int32)))] []))
    obtain ⟨T1, X1, e1, st1⟩ := getS2 X0 hx hZ hown (host := "") (Or.inl (hw _ (List.mem_of_getElem? (i := 33) rfl))) Via.refl e0 S_NATIONAL (g := (mkF m 11 #[.val (.int va), .val (.int ((va &&& (2147483647 : Int32)) % (3 : Int32)))] [])) rfl (hb hby own_dlev_11)
    refine own_Fin.go st1 ?_
    show own_Fin _ _ _ _ _ _ _ (T1.setTop (mkF m 14 #[.val (.int va), .val (.int ((va &&& (2147483647 : Int32)) % (3 : Int32)))] [(.ref oNATIONAL)]))
    refine own_retA X1 hx Bd.returns rfl (hb hby own_dlev_14) Bd.notSynchronized (by decide) (by decide) ?_
    rw [e1]
    exact ⟨_, rfl, N0, rfl⟩
  · refine own_Fin.go (fun t k => XS.ifYes X0.here hx rfl (pc0 := 8) (pc' := 15) rfl (hb hby own_dlev_8) rfl (Jvm.Free.XT.i0_ne_t hc8) (by decide) (by decide) k) ?_
    show own_Fin _ _ _ _ _ _ _ (s₁.setTop (mkF m 15 #[.val (.int va), .val (.int ((va &&& (2147483647 : Int32)) % (3 : Int32)))] []))
    refine own_Fin.go (fun t k => XS.iloadN X0.here hx rfl (hb hby own_dlev_15) rfl k) ?_
    show own_Fin _ _ _ _ _ _ _ (s₁.setTop (mkF m 16 #[.val (.int va), .val (.int ((va &&& (2147483647 : Int32)) % (3 : Int32)))] [(.int ((va &&& (2147483647 : Int32)) % (3 : Int32)))]))
    refine own_Fin.go (fun t k => XS.iconst X0.here hx rfl (hb hby own_dlev_16) k) ?_
    show own_Fin _ _ _ _ _ _ _ (s₁.setTop (mkF m 17 #[.val (.int va), .val (.int ((va &&& (2147483647 : Int32)) % (3 : Int32)))] [(.int (1 : Int32)), (.int ((va &&& (2147483647 : Int32)) % (3 : Int32)))]))
    by_cases hc17 : ((va &&& (2147483647 : Int32)) % (3 : Int32)) = (1 : Int32)
    · refine own_Fin.go (fun t k => XS.icmpNo X0.here hx rfl (hb hby own_dlev_17) rfl (Jvm.Free.XT.ii_ne_f hc17) k) ?_
      show own_Fin _ _ _ _ _ _ _ (s₁.setTop (mkF m 20 #[.val (.int va), .val (.int ((va &&& (2147483647 : Int32)) % (3 : Int32)))] []))
      obtain ⟨T2, X2, e2, st2⟩ := getS2 X0 hx hZ hown (host := "") (Or.inl (hw _ (List.mem_of_getElem? (i := 137) rfl))) Via.refl e0 S_ORGANISATION (g := (mkF m 20 #[.val (.int va), .val (.int ((va &&& (2147483647 : Int32)) % (3 : Int32)))] [])) rfl (hb hby own_dlev_20)
      refine own_Fin.go st2 ?_
      show own_Fin _ _ _ _ _ _ _ (T2.setTop (mkF m 23 #[.val (.int va), .val (.int ((va &&& (2147483647 : Int32)) % (3 : Int32)))] [(.ref oORGANISATION)]))
      refine own_retA X2 hx Bd.returns rfl (hb hby own_dlev_23) Bd.notSynchronized (by decide) (by decide) ?_
      rw [e2]
      exact ⟨_, rfl, N0, rfl⟩
    · refine own_Fin.go (fun t k => XS.icmpYes X0.here hx rfl (pc0 := 17) (pc' := 24) rfl (hb hby own_dlev_17) rfl (Jvm.Free.XT.ii_ne_t hc17) (by decide) (by decide) k) ?_
      show own_Fin _ _ _ _ _ _ _ (s₁.setTop (mkF m 24 #[.val (.int va), .val (.int ((va &&& (2147483647 : Int32)) % (3 : Int32)))] []))
      obtain ⟨T3, X3, e3, st3⟩ := getS2 X0 hx hZ hown (host := "") (Or.inl (hw _ (List.mem_of_getElem? (i := 124) rfl))) Via.refl e0 S_TEAM (g := (mkF m 24 #[.val (.int va), .val (.int ((va &&& (2147483647 : Int32)) % (3 : Int32)))] [])) rfl (hb hby own_dlev_24)
      refine own_Fin.go st3 ?_
      show own_Fin _ _ _ _ _ _ _ (T3.setTop (mkF m 27 #[.val (.int va), .val (.int ((va &&& (2147483647 : Int32)) % (3 : Int32)))] [(.ref oTEAM)]))
      refine own_retA X3 hx Bd.returns rfl (hb hby own_dlev_27) Bd.notSynchronized (by decide) (by decide) ?_
      rw [e3]
      exact ⟨_, rfl, N0, rfl⟩
theorem own_dcpi1_0 : decode jdk_52_method_21_code 0 = .ok (.iconst 0, 1) := by decide +kernel
theorem own_dcpi1_1 : decode jdk_52_method_21_code 1 = .ok (.istore 5, 2) := by decide +kernel
theorem own_dcpi1_3 : decode jdk_52_method_21_code 3 = .ok (.iload 5, 2) := by decide +kernel
theorem own_dcpi1_5 : decode jdk_52_method_21_code 5 = .ok (.iload 4, 2) := by decide +kernel
theorem own_dcpi1_7 : decode jdk_52_method_21_code 7 = .ok (.if_icmp .ge 37, 3) := by decide +kernel
theorem own_dcpi1_10 : decode jdk_52_method_21_code 10 = .ok (.aload_n 0, 1) := by decide +kernel
theorem own_dcpi1_11 : decode jdk_52_method_21_code 11 = .ok (.iload_n 1, 1) := by decide +kernel
theorem own_dcpi1_12 : decode jdk_52_method_21_code 12 = .ok (.caload, 1) := by decide +kernel
theorem own_dcpi1_13 : decode jdk_52_method_21_code 13 = .ok (.istore 6, 2) := by decide +kernel
theorem own_dcpi1_15 : decode jdk_52_method_21_code 15 = .ok (.iload 6, 2) := by decide +kernel
theorem own_dcpi1_17 : decode jdk_52_method_21_code 17 = .ok (.sipush 255, 3) := by decide +kernel
theorem own_dcpi1_20 : decode jdk_52_method_21_code 20 = .ok (.if_icmp .le 6, 3) := by decide +kernel
theorem own_dcpi1_26 : decode jdk_52_method_21_code 26 = .ok (.aload_n 2, 1) := by decide +kernel
theorem own_dcpi1_27 : decode jdk_52_method_21_code 27 = .ok (.iload_n 3, 1) := by decide +kernel
theorem own_dcpi1_28 : decode jdk_52_method_21_code 28 = .ok (.iload 6, 2) := by decide +kernel
theorem own_dcpi1_30 : decode jdk_52_method_21_code 30 = .ok (.i2b, 1) := by decide +kernel
theorem own_dcpi1_31 : decode jdk_52_method_21_code 31 = .ok (.bastore, 1) := by decide +kernel
theorem own_dcpi1_32 : decode jdk_52_method_21_code 32 = .ok (.iinc 1 1, 3) := by decide +kernel
theorem own_dcpi1_35 : decode jdk_52_method_21_code 35 = .ok (.iinc 3 1, 3) := by decide +kernel
theorem own_dcpi1_38 : decode jdk_52_method_21_code 38 = .ok (.iinc 5 1, 3) := by decide +kernel
theorem own_dcpi1_41 : decode jdk_52_method_21_code 41 = .ok (.goto (-38), 3) := by decide +kernel
theorem own_dcpi1_44 : decode jdk_52_method_21_code 44 = .ok (.iload 4, 2) := by decide +kernel
theorem own_dcpi1_46 : decode jdk_52_method_21_code 46 = .ok (.ireturn, 1) := by decide +kernel
theorem own_pn10 : plainName "java/lang/StringUTF16" = true := by first | (simp [plainName, overriddenIn]; done) | decide +kernel
theorem own_ef_cpi1 (m : MethodId) (oc : Addr) (ob : Addr) : entryFrame m #[(.ref oc), (.int (0 : Int32)), (.ref ob), (.int (0 : Int32)), (.int (1 : Int32))] 7 = mkF m 0 #[.val (.ref oc), .val (.int (0 : Int32)), .val (.ref ob), .val (.int (0 : Int32)), .val (.int (1 : Int32)), .unset, .unset] [] := by first | (simp [entryFrame, mkF, argsToLocals, Value.category]; done) | rfl
def own_Q_cpi1 (Z : State) (oc : Addr) (ob : Addr) (kc : ClassId) (kb : ClassId) (va : Int32) (h0 : Heap) (n0 : Nat) (v : Option Value) (h : Heap) (L : List Loc) : Prop := v = some (.int (1 : Int32)) ∧ Fr n0 L ∧ Keep h0 h [ob] ∧ Arv Z h ob kb .byte (1 : Int32) [(.int (va.toInt8.toInt32).toInt8.toInt32)] (.int (0 : Int32))
set_option maxRecDepth 65536 in
set_option maxHeartbeats 40000000 in
theorem own_rm_cpi1 (l : Launch) (Z : State) (a0 : Array Value) (hw : ∀ d ∈ tables_1, d.before a0 Z = true) (ws : List Jvm.Cond) (oc : Addr) (ob : Addr) (kc : ClassId) (kb : ClassId) (va : Int32) (h0 : Heap) (n0 : Nat) (Z0 : n0 ≤ h0.size) (V_oc : Arv Z h0 oc kc .char (1 : Int32) [(.int va)] (.int (0 : Int32))) (V_ob : Arv Z h0 ob kb .byte (1 : Int32) [(.int (0 : Int32))] (.int (0 : Int32))) (ne_oc_ob : oc ≠ ob) (g_ob : n0 ≤ ob) (hva : ¬ (255 : Int32) < va) :
    MetFree l (⟨"java/lang/StringUTF16", "compress", "([CI[BII)I"⟩ : MethodName) (head1 (Jvm.Cond.code (⟨"java/lang/StringUTF16", "compress", "([CI[BII)I"⟩ : MethodName) jdk_52_method_21_code 7 (some .int) :: ws) ({ frames := 0, cells := 0, slots := 0, locals := 0 } : Room)) (fun a U => a = #[(.ref oc), (.int (0 : Int32)), (.ref ob), (.int (0 : Int32)), (.int (1 : Int32))] ∧ Z.Warmed39 U.vm ∧ U.heap = h0) (fun _ _ _ _ _ => True) (fun _ U o U' => ∃ v L, o = .returned v ∧ own_Q_cpi1 Z oc ob kc kb va h0 n0 v U'.heap L ∧ FrameEnd U o U' L ({ frames := 0, cells := 0, slots := 0, locals := 0 } : Room).cells ({ frames := 0, cells := 0, slots := 0, locals := 0 } : Room).slots) := by
  refine MetFree.of_bodySF (plainFor_of_name own_pn10) hisR ?_
  intro p e s m args below meth c s₁ Bd hml0 hP hK
  obtain ⟨rfl, hZ, hh⟩ := hP
  have hx := Bd.exec
  have hby := Bd.bytes
  have hml : c.maxLocals = 7 := hml0
  have hown : s.vm.findClass "java/lang/StringUTF16" = some m.cls := findClass_of_methodNamed Bd.named
  have hnm := (name_of_methodNamed Bd.named Bd.method).1
  have X0 : Stand p l e ({ frames := 0, cells := 0, slots := 0, locals := 0 } : Room) s m #[(.ref oc), (.int (0 : Int32)), (.ref ob), (.int (0 : Int32)), (.int (1 : Int32))] below meth c s₁ [] 0 0 := Stand.of_body Bd
  have e0 : s₁.heap = h0 := by rw [← hh, Bd.state]; rfl
  have N0 := Fr.nil n0
  have K0 := Keep.refl h0 [ob]
  show own_Fin p e below s (own_Q_cpi1 Z oc ob kc kb va h0 n0) ({ frames := 0, cells := 0, slots := 0, locals := 0 } : Room).cells ({ frames := 0, cells := 0, slots := 0, locals := 0 } : Room).slots (s₁.setTop (entryFrame m #[(.ref oc), (.int (0 : Int32)), (.ref ob), (.int (0 : Int32)), (.int (1 : Int32))] 7))
  refine own_Fin.go (fun t k => castTop (own_ef_cpi1 m oc ob) k) ?_
  refine own_Fin.go (fun t k => XS.iconst X0.here hx rfl (hb hby own_dcpi1_0) k) ?_
  show own_Fin _ _ _ _ _ _ _ (s₁.setTop (mkF m 1 #[.val (.ref oc), .val (.int (0 : Int32)), .val (.ref ob), .val (.int (0 : Int32)), .val (.int (1 : Int32)), .unset, .unset] [(.int (0 : Int32))]))
  refine own_Fin.go (fun t k => XS.istore X0.here hx rfl (hb hby own_dcpi1_1) rfl (l' := #[.val (.ref oc), .val (.int (0 : Int32)), .val (.ref ob), .val (.int (0 : Int32)), .val (.int (1 : Int32)), .val (.int (0 : Int32)), .unset]) rfl k) ?_
  show own_Fin _ _ _ _ _ _ _ (s₁.setTop (mkF m 3 #[.val (.ref oc), .val (.int (0 : Int32)), .val (.ref ob), .val (.int (0 : Int32)), .val (.int (1 : Int32)), .val (.int (0 : Int32)), .unset] []))
  refine own_Fin.go (fun t k => XS.iload X0.here hx rfl (hb hby own_dcpi1_3) rfl k) ?_
  show own_Fin _ _ _ _ _ _ _ (s₁.setTop (mkF m 5 #[.val (.ref oc), .val (.int (0 : Int32)), .val (.ref ob), .val (.int (0 : Int32)), .val (.int (1 : Int32)), .val (.int (0 : Int32)), .unset] [(.int (0 : Int32))]))
  refine own_Fin.go (fun t k => XS.iload X0.here hx rfl (hb hby own_dcpi1_5) rfl k) ?_
  show own_Fin _ _ _ _ _ _ _ (s₁.setTop (mkF m 7 #[.val (.ref oc), .val (.int (0 : Int32)), .val (.ref ob), .val (.int (0 : Int32)), .val (.int (1 : Int32)), .val (.int (0 : Int32)), .unset] [(.int (1 : Int32)), (.int (0 : Int32))]))
  refine own_Fin.go (fun t k => XS.icmpNo X0.here hx rfl (hb hby own_dcpi1_7) rfl (by decide) k) ?_
  show own_Fin _ _ _ _ _ _ _ (s₁.setTop (mkF m 10 #[.val (.ref oc), .val (.int (0 : Int32)), .val (.ref ob), .val (.int (0 : Int32)), .val (.int (1 : Int32)), .val (.int (0 : Int32)), .unset] []))
  refine own_Fin.go (fun t k => XS.aloadN X0.here hx rfl (hb hby own_dcpi1_10) rfl rfl k) ?_
  show own_Fin _ _ _ _ _ _ _ (s₁.setTop (mkF m 11 #[.val (.ref oc), .val (.int (0 : Int32)), .val (.ref ob), .val (.int (0 : Int32)), .val (.int (1 : Int32)), .val (.int (0 : Int32)), .unset] [(.ref oc)]))
  refine own_Fin.go (fun t k => XS.iloadN X0.here hx rfl (hb hby own_dcpi1_11) rfl k) ?_
  show own_Fin _ _ _ _ _ _ _ (s₁.setTop (mkF m 12 #[.val (.ref oc), .val (.int (0 : Int32)), .val (.ref ob), .val (.int (0 : Int32)), .val (.int (1 : Int32)), .val (.int (0 : Int32)), .unset] [(.int (0 : Int32)), (.ref oc)]))
  obtain ⟨cl1, Ar1, q1, S1, N1l, H1, G1⟩ := (id V_oc)
  have hin1 : ¬ ((0 : Int32) < 0 ∨ cl1.slots.size ≤ ((0 : Int32)).toNatClampNeg) := inb_of S1 ⟨by decide, by decide⟩
  have hat1 : cl1.slots[((0 : Int32)).toNatClampNeg]? = some (.int va) := Has.at H1 hin1 rfl
  refine own_Fin.go (fun t k => X0.caload hx (j := (0 : Int32)) (v := (.int va)) (by rw [e0]; exact Ar1.1) (State.isArrayOf_alike hZ.alike Ar1.2.1) Ar1.2.2 hin1 hat1 (g := (mkF m 12 #[.val (.ref oc), .val (.int (0 : Int32)), .val (.ref ob), .val (.int (0 : Int32)), .val (.int (1 : Int32)), .val (.int (0 : Int32)), .unset] [(.int (0 : Int32)), (.ref oc)])) rfl rfl (hb hby own_dcpi1_12) t k) ?_
  show own_Fin _ _ _ _ _ _ _ (s₁.setTop (mkF m 13 #[.val (.ref oc), .val (.int (0 : Int32)), .val (.ref ob), .val (.int (0 : Int32)), .val (.int (1 : Int32)), .val (.int (0 : Int32)), .unset] [(.int va)]))
  refine own_Fin.go (fun t k => XS.istore X0.here hx rfl (hb hby own_dcpi1_13) rfl (l' := #[.val (.ref oc), .val (.int (0 : Int32)), .val (.ref ob), .val (.int (0 : Int32)), .val (.int (1 : Int32)), .val (.int (0 : Int32)), .val (.int va)]) rfl k) ?_
  show own_Fin _ _ _ _ _ _ _ (s₁.setTop (mkF m 15 #[.val (.ref oc), .val (.int (0 : Int32)), .val (.ref ob), .val (.int (0 : Int32)), .val (.int (1 : Int32)), .val (.int (0 : Int32)), .val (.int va)] []))
  refine own_Fin.go (fun t k => XS.iload X0.here hx rfl (hb hby own_dcpi1_15) rfl k) ?_
  show own_Fin _ _ _ _ _ _ _ (s₁.setTop (mkF m 17 #[.val (.ref oc), .val (.int (0 : Int32)), .val (.ref ob), .val (.int (0 : Int32)), .val (.int (1 : Int32)), .val (.int (0 : Int32)), .val (.int va)] [(.int va)]))
  refine own_Fin.go (fun t k => XS.sipush X0.here hx rfl (hb hby own_dcpi1_17) k) ?_
  show own_Fin _ _ _ _ _ _ _ (s₁.setTop (mkF m 20 #[.val (.ref oc), .val (.int (0 : Int32)), .val (.ref ob), .val (.int (0 : Int32)), .val (.int (1 : Int32)), .val (.int (0 : Int32)), .val (.int va)] [(.int (255 : Int32)), (.int va)]))
  have hc20 : ¬ ((255 : Int32) < va) := hva
  refine own_Fin.go (fun t k => XS.icmpYes X0.here hx rfl (pc0 := 20) (pc' := 26) rfl (hb hby own_dcpi1_20) rfl (Jvm.Free.XT.ii_le_t hc20) (by decide) (by decide) k) ?_
  show own_Fin _ _ _ _ _ _ _ (s₁.setTop (mkF m 26 #[.val (.ref oc), .val (.int (0 : Int32)), .val (.ref ob), .val (.int (0 : Int32)), .val (.int (1 : Int32)), .val (.int (0 : Int32)), .val (.int va)] []))
  refine own_Fin.go (fun t k => XS.aloadN X0.here hx rfl (hb hby own_dcpi1_26) rfl rfl k) ?_
  show own_Fin _ _ _ _ _ _ _ (s₁.setTop (mkF m 27 #[.val (.ref oc), .val (.int (0 : Int32)), .val (.ref ob), .val (.int (0 : Int32)), .val (.int (1 : Int32)), .val (.int (0 : Int32)), .val (.int va)] [(.ref ob)]))
  refine own_Fin.go (fun t k => XS.iloadN X0.here hx rfl (hb hby own_dcpi1_27) rfl k) ?_
  show own_Fin _ _ _ _ _ _ _ (s₁.setTop (mkF m 28 #[.val (.ref oc), .val (.int (0 : Int32)), .val (.ref ob), .val (.int (0 : Int32)), .val (.int (1 : Int32)), .val (.int (0 : Int32)), .val (.int va)] [(.int (0 : Int32)), (.ref ob)]))
  refine own_Fin.go (fun t k => XS.iload X0.here hx rfl (hb hby own_dcpi1_28) rfl k) ?_
  show own_Fin _ _ _ _ _ _ _ (s₁.setTop (mkF m 30 #[.val (.ref oc), .val (.int (0 : Int32)), .val (.ref ob), .val (.int (0 : Int32)), .val (.int (1 : Int32)), .val (.int (0 : Int32)), .val (.int va)] [(.int va), (.int (0 : Int32)), (.ref ob)]))
  refine own_Fin.go (fun t k => XS.i2b X0.here hx rfl (hb hby own_dcpi1_30) rfl k) ?_
  show own_Fin _ _ _ _ _ _ _ (s₁.setTop (mkF m 31 #[.val (.ref oc), .val (.int (0 : Int32)), .val (.ref ob), .val (.int (0 : Int32)), .val (.int (1 : Int32)), .val (.int (0 : Int32)), .val (.int va)] [(.int (va.toInt8.toInt32)), (.int (0 : Int32)), (.ref ob)]))
  obtain ⟨cl2, Ar2, q2, S2, N2l, H2, G2⟩ := (id V_ob)
  have hin2 : ¬ ((0 : Int32) < 0 ∨ cl2.slots.size ≤ ((0 : Int32)).toNatClampNeg) := inb_of S2 ⟨by decide, by decide⟩
  obtain ⟨T2, h2, X2, e2, W2, st2⟩ := stB X0 hx hZ e0 Ar2 (j := (0 : Int32)) hin2 (g := (mkF m 31 #[.val (.ref oc), .val (.int (0 : Int32)), .val (.ref ob), .val (.int (0 : Int32)), .val (.int (1 : Int32)), .val (.int (0 : Int32)), .val (.int va)] [(.int (va.toInt8.toInt32)), (.int (0 : Int32)), (.ref ob)])) rfl rfl (hb hby own_dcpi1_31)
  refine own_Fin.go st2 ?_
  have V_ob_2 := Arv.set Ar2 q2 S2 N2l H2 G2 (fits_nar_byte _) W2 0 rfl (Nat.le_of_ble_eq_true rfl)
  replace V_ob_2 : Arv Z h2 ob kb .byte (1 : Int32) [(.int (va.toInt8.toInt32).toInt8.toInt32)] (.int (0 : Int32)) := V_ob_2
  have V_oc_2 := Arv.other V_oc W2 ne_oc_ob
  have Z2 := Nat.le_trans Z0 (Keep.of_wr W2).1
  have K2 := K0.wr W2 (Or.inl (List.mem_of_getElem? (i := 0) rfl))
  have N2 := Fr.snoc X2 N0 g_ob
  show own_Fin _ _ _ _ _ _ _ (T2.setTop (mkF m 32 #[.val (.ref oc), .val (.int (0 : Int32)), .val (.ref ob), .val (.int (0 : Int32)), .val (.int (1 : Int32)), .val (.int (0 : Int32)), .val (.int va)] []))
  refine own_Fin.go (fun t k => XS.iinc X2.here hx rfl (hb hby own_dcpi1_32) rfl (l' := #[.val (.ref oc), .val (.int ((0 : Int32) + (1 : Int32))), .val (.ref ob), .val (.int (0 : Int32)), .val (.int (1 : Int32)), .val (.int (0 : Int32)), .val (.int va)]) rfl k) ?_
  show own_Fin _ _ _ _ _ _ _ (T2.setTop (mkF m 35 #[.val (.ref oc), .val (.int ((0 : Int32) + (1 : Int32))), .val (.ref ob), .val (.int (0 : Int32)), .val (.int (1 : Int32)), .val (.int (0 : Int32)), .val (.int va)] []))
  rw [show ((0 : Int32) + (1 : Int32)) = (1 : Int32) from by decide +kernel]
  show own_Fin _ _ _ _ _ _ _ (T2.setTop (mkF m 35 #[.val (.ref oc), .val (.int (1 : Int32)), .val (.ref ob), .val (.int (0 : Int32)), .val (.int (1 : Int32)), .val (.int (0 : Int32)), .val (.int va)] []))
  refine own_Fin.go (fun t k => XS.iinc X2.here hx rfl (hb hby own_dcpi1_35) rfl (l' := #[.val (.ref oc), .val (.int (1 : Int32)), .val (.ref ob), .val (.int ((0 : Int32) + (1 : Int32))), .val (.int (1 : Int32)), .val (.int (0 : Int32)), .val (.int va)]) rfl k) ?_
  show own_Fin _ _ _ _ _ _ _ (T2.setTop (mkF m 38 #[.val (.ref oc), .val (.int (1 : Int32)), .val (.ref ob), .val (.int ((0 : Int32) + (1 : Int32))), .val (.int (1 : Int32)), .val (.int (0 : Int32)), .val (.int va)] []))
  rw [show ((0 : Int32) + (1 : Int32)) = (1 : Int32) from by decide +kernel]
  show own_Fin _ _ _ _ _ _ _ (T2.setTop (mkF m 38 #[.val (.ref oc), .val (.int (1 : Int32)), .val (.ref ob), .val (.int (1 : Int32)), .val (.int (1 : Int32)), .val (.int (0 : Int32)), .val (.int va)] []))
  refine own_Fin.go (fun t k => XS.iinc X2.here hx rfl (hb hby own_dcpi1_38) rfl (l' := #[.val (.ref oc), .val (.int (1 : Int32)), .val (.ref ob), .val (.int (1 : Int32)), .val (.int (1 : Int32)), .val (.int ((0 : Int32) + (1 : Int32))), .val (.int va)]) rfl k) ?_
  show own_Fin _ _ _ _ _ _ _ (T2.setTop (mkF m 41 #[.val (.ref oc), .val (.int (1 : Int32)), .val (.ref ob), .val (.int (1 : Int32)), .val (.int (1 : Int32)), .val (.int ((0 : Int32) + (1 : Int32))), .val (.int va)] []))
  rw [show ((0 : Int32) + (1 : Int32)) = (1 : Int32) from by decide +kernel]
  show own_Fin _ _ _ _ _ _ _ (T2.setTop (mkF m 41 #[.val (.ref oc), .val (.int (1 : Int32)), .val (.ref ob), .val (.int (1 : Int32)), .val (.int (1 : Int32)), .val (.int (1 : Int32)), .val (.int va)] []))
  refine own_Fin.go (fun t k => XS.goto X2.here hx rfl (pc0 := 41) (pc' := 3) rfl (hb hby own_dcpi1_41) (by decide) (by decide) k) ?_
  show own_Fin _ _ _ _ _ _ _ (T2.setTop (mkF m 3 #[.val (.ref oc), .val (.int (1 : Int32)), .val (.ref ob), .val (.int (1 : Int32)), .val (.int (1 : Int32)), .val (.int (1 : Int32)), .val (.int va)] []))
  refine own_Fin.go (fun t k => XS.iload X2.here hx rfl (hb hby own_dcpi1_3) rfl k) ?_
  show own_Fin _ _ _ _ _ _ _ (T2.setTop (mkF m 5 #[.val (.ref oc), .val (.int (1 : Int32)), .val (.ref ob), .val (.int (1 : Int32)), .val (.int (1 : Int32)), .val (.int (1 : Int32)), .val (.int va)] [(.int (1 : Int32))]))
  refine own_Fin.go (fun t k => XS.iload X2.here hx rfl (hb hby own_dcpi1_5) rfl k) ?_
  show own_Fin _ _ _ _ _ _ _ (T2.setTop (mkF m 7 #[.val (.ref oc), .val (.int (1 : Int32)), .val (.ref ob), .val (.int (1 : Int32)), .val (.int (1 : Int32)), .val (.int (1 : Int32)), .val (.int va)] [(.int (1 : Int32)), (.int (1 : Int32))]))
  refine own_Fin.go (fun t k => XS.icmpYes X2.here hx rfl (pc0 := 7) (pc' := 44) rfl (hb hby own_dcpi1_7) rfl (by decide) (by decide) (by decide) k) ?_
  show own_Fin _ _ _ _ _ _ _ (T2.setTop (mkF m 44 #[.val (.ref oc), .val (.int (1 : Int32)), .val (.ref ob), .val (.int (1 : Int32)), .val (.int (1 : Int32)), .val (.int (1 : Int32)), .val (.int va)] []))
  refine own_Fin.go (fun t k => XS.iload X2.here hx rfl (hb hby own_dcpi1_44) rfl k) ?_
  show own_Fin _ _ _ _ _ _ _ (T2.setTop (mkF m 46 #[.val (.ref oc), .val (.int (1 : Int32)), .val (.ref ob), .val (.int (1 : Int32)), .val (.int (1 : Int32)), .val (.int (1 : Int32)), .val (.int va)] [(.int (1 : Int32))]))
  refine own_retI X2 hx Bd.returns (hb hby own_dcpi1_46) Bd.notSynchronized (by decide) (by decide) ?_
  rw [e2]
  exact ⟨rfl, N2, K2, V_ob_2⟩
theorem own_pd4 : parseMethodDescriptor "([CI[BII)I" = some ⟨[(.array .char), .int, (.array .byte), .int, .int], some .int⟩ := by decide +kernel
theorem own_dcpr1_0 : decode jdk_52_method_16_code 0 = .ok (.iload_n 2, 1) := by decide +kernel
theorem own_dcpr1_1 : decode jdk_52_method_16_code 1 = .ok (.newarray .byte, 2) := by decide +kernel
theorem own_dcpr1_3 : decode jdk_52_method_16_code 3 = .ok (.astore_n 3, 1) := by decide +kernel
theorem own_dcpr1_4 : decode jdk_52_method_16_code 4 = .ok (.aload_n 0, 1) := by decide +kernel
theorem own_dcpr1_5 : decode jdk_52_method_16_code 5 = .ok (.iload_n 1, 1) := by decide +kernel
theorem own_dcpr1_6 : decode jdk_52_method_16_code 6 = .ok (.aload_n 3, 1) := by decide +kernel
theorem own_dcpr1_7 : decode jdk_52_method_16_code 7 = .ok (.iconst 0, 1) := by decide +kernel
theorem own_dcpr1_8 : decode jdk_52_method_16_code 8 = .ok (.iload_n 2, 1) := by decide +kernel
theorem own_dcpr1_9 : decode jdk_52_method_16_code 9 = .ok (.invokestatic 115, 3) := by decide +kernel
theorem own_dcpr1_12 : decode jdk_52_method_16_code 12 = .ok (.istore 4, 2) := by decide +kernel
theorem own_dcpr1_14 : decode jdk_52_method_16_code 14 = .ok (.iload 4, 2) := by decide +kernel
theorem own_dcpr1_16 : decode jdk_52_method_16_code 16 = .ok (.iload_n 2, 1) := by decide +kernel
theorem own_dcpr1_17 : decode jdk_52_method_16_code 17 = .ok (.if_icmp .eq 40, 3) := by decide +kernel
theorem own_dcpr1_57 : decode jdk_52_method_16_code 57 = .ok (.aload_n 3, 1) := by decide +kernel
theorem own_dcpr1_58 : decode jdk_52_method_16_code 58 = .ok (.areturn, 1) := by decide +kernel
theorem own_ef_cpr1 (m : MethodId) (oc : Addr) : entryFrame m #[(.ref oc), (.int (0 : Int32)), (.int (1 : Int32))] 6 = mkF m 0 #[.val (.ref oc), .val (.int (0 : Int32)), .val (.int (1 : Int32)), .unset, .unset, .unset] [] := by first | (simp [entryFrame, mkF, argsToLocals, Value.category]; done) | rfl
def own_Q_cpr1 (Z : State) (oc : Addr) (kc : ClassId) (va : Int32) (h0 : Heap) (n0 : Nat) (v : Option Value) (h : Heap) (L : List Loc) : Prop := ∃ ob : Addr, ∃ kb : ClassId, v = some (.ref ob) ∧ Fr n0 L ∧ Keep h0 h [] ∧ Arv Z h ob kb .byte (1 : Int32) [(.int (va.toInt8.toInt32).toInt8.toInt32)] (.int (0 : Int32)) ∧ h0.size ≤ ob
set_option maxRecDepth 65536 in
set_option maxHeartbeats 40000000 in
theorem own_rm_cpr1 (l : Launch) (Z : State) (a0 : Array Value) (hw : ∀ d ∈ tables_1, d.before a0 Z = true) (ws : List Jvm.Cond) (oc : Addr) (kc : ClassId) (va : Int32) (h0 : Heap) (n0 : Nat) (Z0 : n0 ≤ h0.size) (V_oc : Arv Z h0 oc kc .char (1 : Int32) [(.int va)] (.int (0 : Int32))) (hva : ¬ (255 : Int32) < va) :
    MetFree l (⟨"java/lang/StringUTF16", "compress", "([CII)[B"⟩ : MethodName) (head1 (Jvm.Cond.code (⟨"java/lang/StringUTF16", "compress", "([CII)[B"⟩ : MethodName) jdk_52_method_16_code 6 (some (.array .byte)) :: ws) ({ frames := 1, cells := 1, slots := 1, locals := 18 } : Room)) (fun a U => a = #[(.ref oc), (.int (0 : Int32)), (.int (1 : Int32))] ∧ Z.Warmed39 U.vm ∧ U.heap = h0) (fun _ _ _ _ _ => True) (fun _ U o U' => ∃ v L, o = .returned v ∧ own_Q_cpr1 Z oc kc va h0 n0 v U'.heap L ∧ FrameEnd U o U' L ({ frames := 1, cells := 1, slots := 1, locals := 18 } : Room).cells ({ frames := 1, cells := 1, slots := 1, locals := 18 } : Room).slots) := by
  refine MetFree.of_bodySF (plainFor_of_name own_pn10) hisR ?_
  intro p e s m args below meth c s₁ Bd hml0 hP hK
  obtain ⟨rfl, hZ, hh⟩ := hP
  have hx := Bd.exec
  have hby := Bd.bytes
  have hml : c.maxLocals = 6 := hml0
  have hown : s.vm.findClass "java/lang/StringUTF16" = some m.cls := findClass_of_methodNamed Bd.named
  have hnm := (name_of_methodNamed Bd.named Bd.method).1
  have X0 : Stand p l e ({ frames := 1, cells := 1, slots := 1, locals := 18 } : Room) s m #[(.ref oc), (.int (0 : Int32)), (.int (1 : Int32))] below meth c s₁ [] 0 0 := Stand.of_body Bd
  have e0 : s₁.heap = h0 := by rw [← hh, Bd.state]; rfl
  have N0 := Fr.nil n0
  have K0 := Keep.refl h0 []
  show own_Fin p e below s (own_Q_cpr1 Z oc kc va h0 n0) ({ frames := 1, cells := 1, slots := 1, locals := 18 } : Room).cells ({ frames := 1, cells := 1, slots := 1, locals := 18 } : Room).slots (s₁.setTop (entryFrame m #[(.ref oc), (.int (0 : Int32)), (.int (1 : Int32))] 6))
  refine own_Fin.go (fun t k => castTop (own_ef_cpr1 m oc) k) ?_
  refine own_Fin.go (fun t k => XS.iloadN X0.here hx rfl (hb hby own_dcpr1_0) rfl k) ?_
  show own_Fin _ _ _ _ _ _ _ (s₁.setTop (mkF m 1 #[.val (.ref oc), .val (.int (0 : Int32)), .val (.int (1 : Int32)), .unset, .unset, .unset] [(.int (1 : Int32))]))
  obtain ⟨T1, h1, k1, X1, e1, E1, A1, st1⟩ := newP X0 hx hZ (hw _ (List.mem_of_getElem? (i := 19) rfl)) e0 (g := (mkF m 1 #[.val (.ref oc), .val (.int (0 : Int32)), .val (.int (1 : Int32)), .unset, .unset, .unset] [(.int (1 : Int32))])) rfl (hb hby own_dcpr1_1) rfl (by decide) (cap := 1) (by decide) (by decide) (by decide) (by decide)
  obtain ⟨b1, g1⟩ : ∃ z, z = h0.size := ⟨_, rfl⟩
  rw [← g1] at A1 st1
  refine own_Fin.go st1 ?_
  have g_b1 : n0 ≤ b1 := Nat.le_trans Z0 (Nat.le_of_eq g1.symm)
  have sz_b1 : h0.size ≤ b1 := Nat.le_trans K0.1 (Nat.le_of_eq g1.symm)
  have ne_oc_b1 : oc ≠ b1 := Nat.ne_of_lt (Nat.lt_of_lt_of_le V_oc.lt (Nat.le_of_eq g1.symm))
  have V_oc_1 := V_oc.ext E1
  have Z1 := Nat.le_trans Z0 E1.1
  have K1 := K0.ext E1
  have V_b1 : Arv Z h1 b1 k1 .byte (1 : Int32) [(.int (0 : Int32))] (.int (0 : Int32)) := (Arv.new A1 (by decide)).pad (pad_rep [] (.int (0 : Int32)) 1)
  show own_Fin _ _ _ _ _ _ _ (T1.setTop (mkF m 3 #[.val (.ref oc), .val (.int (0 : Int32)), .val (.int (1 : Int32)), .unset, .unset, .unset] [(.ref b1)]))
  refine own_Fin.go (fun t k => XS.astoreN X1.here hx rfl (hb hby own_dcpr1_3) rfl rfl (l' := #[.val (.ref oc), .val (.int (0 : Int32)), .val (.int (1 : Int32)), .val (.ref b1), .unset, .unset]) rfl k) ?_
  show own_Fin _ _ _ _ _ _ _ (T1.setTop (mkF m 4 #[.val (.ref oc), .val (.int (0 : Int32)), .val (.int (1 : Int32)), .val (.ref b1), .unset, .unset] []))
  refine own_Fin.go (fun t k => XS.aloadN X1.here hx rfl (hb hby own_dcpr1_4) rfl rfl k) ?_
  show own_Fin _ _ _ _ _ _ _ (T1.setTop (mkF m 5 #[.val (.ref oc), .val (.int (0 : Int32)), .val (.int (1 : Int32)), .val (.ref b1), .unset, .unset] [(.ref oc)]))
  refine own_Fin.go (fun t k => XS.iloadN X1.here hx rfl (hb hby own_dcpr1_5) rfl k) ?_
  show own_Fin _ _ _ _ _ _ _ (T1.setTop (mkF m 6 #[.val (.ref oc), .val (.int (0 : Int32)), .val (.int (1 : Int32)), .val (.ref b1), .unset, .unset] [(.int (0 : Int32)), (.ref oc)]))
  refine own_Fin.go (fun t k => XS.aloadN X1.here hx rfl (hb hby own_dcpr1_6) rfl rfl k) ?_
  show own_Fin _ _ _ _ _ _ _ (T1.setTop (mkF m 7 #[.val (.ref oc), .val (.int (0 : Int32)), .val (.int (1 : Int32)), .val (.ref b1), .unset, .unset] [(.ref b1), (.int (0 : Int32)), (.ref oc)]))
  refine own_Fin.go (fun t k => XS.iconst X1.here hx rfl (hb hby own_dcpr1_7) k) ?_
  show own_Fin _ _ _ _ _ _ _ (T1.setTop (mkF m 8 #[.val (.ref oc), .val (.int (0 : Int32)), .val (.int (1 : Int32)), .val (.ref b1), .unset, .unset] [(.int (0 : Int32)), (.ref b1), (.int (0 : Int32)), (.ref oc)]))
  refine own_Fin.go (fun t k => XS.iloadN X1.here hx rfl (hb hby own_dcpr1_8) rfl k) ?_
  show own_Fin _ _ _ _ _ _ _ (T1.setTop (mkF m 9 #[.val (.ref oc), .val (.int (0 : Int32)), .val (.int (1 : Int32)), .val (.ref b1), .unset, .unset] [(.int (1 : Int32)), (.int (0 : Int32)), (.ref b1), (.int (0 : Int32)), (.ref oc)]))
  obtain ⟨_, _, ⟨T2, L2, k2, n2⟩, -, X2, ⟨Lc2, hQ2, l2, y2, z2⟩, st2⟩ := Jvm.LawKit.callS X1 hx (y := (⟨"java/lang/StringUTF16", "compress", "([CI[BII)I"⟩ : MethodName)) hown (mvT hZ (hw _ (List.mem_of_getElem? (i := 131) rfl))) (mvT hZ (hw _ (List.mem_of_getElem? (i := 132) rfl))) (mvT hZ (hw _ (List.mem_of_getElem? (i := 129) rfl))) (mvT hZ (hw _ (List.mem_of_getElem? (i := 133) rfl))) (by decide) (backOf (W := 0) (own_rm_cpi1 l Z a0 hw [] oc b1 kc k1 va h1 n0 Z1 V_oc_1 V_b1 ne_oc_b1 g_b1 hva) hZ (hw _ (List.mem_of_getElem? (i := 133) rfl)) (hw _ (List.mem_of_getElem? (i := 129) rfl)) (by decide) (by decide)) (g := (mkF m 9 #[.val (.ref oc), .val (.int (0 : Int32)), .val (.int (1 : Int32)), .val (.ref b1), .unset, .unset] [(.int (1 : Int32)), (.int (0 : Int32)), (.ref b1), (.int (0 : Int32)), (.ref oc)])) rfl (by rw [hml]; rfl) (argsL := [(.ref oc), (.int (0 : Int32)), (.ref b1), (.int (0 : Int32)), (.int (1 : Int32))]) (rest := []) (lenOf own_pd4 rfl) rfl (by show 2 * 0 + _ ≤ _; exact Nat.le_of_eq rfl) (hb hby own_dcpr1_9) (fun _ _ => ⟨rfl, e1, (by decide : 1 + 0 ≤ _), (by decide : 1 + 0 ≤ _)⟩)
  dsimp only [Pt.U, Pt.locs, Pt.cells, Pt.slots] at X2 l2 y2 z2 st2 hQ2
  subst l2 y2 z2
  obtain ⟨rfl, N2q, K2q, c2_1⟩ := hQ2
  refine own_Fin.go (fun t k => st2 t k) ?_
  have N2 := Fr.app N0 N2q
  have V_oc_2 := V_oc_1.keep K2q (ninS ne_oc_b1 nin0)
  have Z2 := Nat.le_trans Z1 K2q.1
  have K2 := K1.trans K2q (allS (Or.inr sz_b1) all0)
  show own_Fin _ _ _ _ _ _ _ (T2.setTop (mkF m 12 #[.val (.ref oc), .val (.int (0 : Int32)), .val (.int (1 : Int32)), .val (.ref b1), .unset, .unset] [(.int (1 : Int32))]))
  refine own_Fin.go (fun t k => XS.istore X2.here hx rfl (hb hby own_dcpr1_12) rfl (l' := #[.val (.ref oc), .val (.int (0 : Int32)), .val (.int (1 : Int32)), .val (.ref b1), .val (.int (1 : Int32)), .unset]) rfl k) ?_
  show own_Fin _ _ _ _ _ _ _ (T2.setTop (mkF m 14 #[.val (.ref oc), .val (.int (0 : Int32)), .val (.int (1 : Int32)), .val (.ref b1), .val (.int (1 : Int32)), .unset] []))
  refine own_Fin.go (fun t k => XS.iload X2.here hx rfl (hb hby own_dcpr1_14) rfl k) ?_
  show own_Fin _ _ _ _ _ _ _ (T2.setTop (mkF m 16 #[.val (.ref oc), .val (.int (0 : Int32)), .val (.int (1 : Int32)), .val (.ref b1), .val (.int (1 : Int32)), .unset] [(.int (1 : Int32))]))
  refine own_Fin.go (fun t k => XS.iloadN X2.here hx rfl (hb hby own_dcpr1_16) rfl k) ?_
  show own_Fin _ _ _ _ _ _ _ (T2.setTop (mkF m 17 #[.val (.ref oc), .val (.int (0 : Int32)), .val (.int (1 : Int32)), .val (.ref b1), .val (.int (1 : Int32)), .unset] [(.int (1 : Int32)), (.int (1 : Int32))]))
  refine own_Fin.go (fun t k => XS.icmpYes X2.here hx rfl (pc0 := 17) (pc' := 57) rfl (hb hby own_dcpr1_17) rfl (by decide) (by decide) (by decide) k) ?_
  show own_Fin _ _ _ _ _ _ _ (T2.setTop (mkF m 57 #[.val (.ref oc), .val (.int (0 : Int32)), .val (.int (1 : Int32)), .val (.ref b1), .val (.int (1 : Int32)), .unset] []))
  refine own_Fin.go (fun t k => XS.aloadN X2.here hx rfl (hb hby own_dcpr1_57) rfl rfl k) ?_
  show own_Fin _ _ _ _ _ _ _ (T2.setTop (mkF m 58 #[.val (.ref oc), .val (.int (0 : Int32)), .val (.int (1 : Int32)), .val (.ref b1), .val (.int (1 : Int32)), .unset] [(.ref b1)]))
  refine own_retA X2 hx Bd.returns rfl (hb hby own_dcpr1_58) Bd.notSynchronized (by decide) (by decide) ?_
  exact ⟨_, k1, rfl, N2, K2, c2_1, sz_b1⟩
theorem own_dcfa1_0 : decode jdk_52_method_15_code 0 = .ok (.iload_n 1, 1) := by decide +kernel
theorem own_dcfa1_1 : decode jdk_52_method_15_code 1 = .ok (.aload_n 0, 1) := by decide +kernel
theorem own_dcfa1_2 : decode jdk_52_method_15_code 2 = .ok (.arraylength, 1) := by decide +kernel
theorem own_dcfa1_3 : decode jdk_52_method_15_code 3 = .ok (.isub, 1) := by decide +kernel
theorem own_dcfa1_4 : decode jdk_52_method_15_code 4 = .ok (.bipush 31, 2) := by decide +kernel
theorem own_dcfa1_6 : decode jdk_52_method_15_code 6 = .ok (.iushr, 1) := by decide +kernel
theorem own_dcfa1_7 : decode jdk_52_method_15_code 7 = .ok (.i2b, 1) := by decide +kernel
theorem own_dcfa1_8 : decode jdk_52_method_15_code 8 = .ok (.ireturn, 1) := by decide +kernel
theorem own_ef_cfa1 (m : MethodId) (ob : Addr) : entryFrame m #[(.ref ob), (.int (1 : Int32))] 2 = mkF m 0 #[.val (.ref ob), .val (.int (1 : Int32))] [] := by first | (simp [entryFrame, mkF, argsToLocals, Value.category]; done) | rfl
def own_Q_cfa1 (Z : State) (ob : Addr) (kb : ClassId) (va : Int32) (h0 : Heap) (n0 : Nat) (v : Option Value) (h : Heap) (L : List Loc) : Prop := v = some (.int (0 : Int32)) ∧ Fr n0 L ∧ h = h0
set_option maxRecDepth 65536 in
set_option maxHeartbeats 40000000 in
theorem own_rm_cfa1 (l : Launch) (Z : State) (a0 : Array Value) (hw : ∀ d ∈ tables_1, d.before a0 Z = true) (ws : List Jvm.Cond) (ob : Addr) (kb : ClassId) (va : Int32) (h0 : Heap) (n0 : Nat) (Z0 : n0 ≤ h0.size) (V_ob : Arv Z h0 ob kb .byte (1 : Int32) [(.int (va.toInt8.toInt32).toInt8.toInt32)] (.int (0 : Int32))) :
    MetFree l (⟨"java/lang/StringUTF16", "coderFromArrayLen", "([BI)B"⟩ : MethodName) (head1 (Jvm.Cond.code (⟨"java/lang/StringUTF16", "coderFromArrayLen", "([BI)B"⟩ : MethodName) jdk_52_method_15_code 2 (some .byte) :: ws) ({ frames := 0, cells := 0, slots := 0, locals := 0 } : Room)) (fun a U => a = #[(.ref ob), (.int (1 : Int32))] ∧ Z.Warmed39 U.vm ∧ U.heap = h0) (fun _ _ _ _ _ => True) (fun _ U o U' => ∃ v L, o = .returned v ∧ own_Q_cfa1 Z ob kb va h0 n0 v U'.heap L ∧ FrameEnd U o U' L ({ frames := 0, cells := 0, slots := 0, locals := 0 } : Room).cells ({ frames := 0, cells := 0, slots := 0, locals := 0 } : Room).slots) := by
  refine MetFree.of_bodySF (plainFor_of_name own_pn10) hisR ?_
  intro p e s m args below meth c s₁ Bd hml0 hP hK
  obtain ⟨rfl, hZ, hh⟩ := hP
  have hx := Bd.exec
  have hby := Bd.bytes
  have hml : c.maxLocals = 2 := hml0
  have hown : s.vm.findClass "java/lang/StringUTF16" = some m.cls := findClass_of_methodNamed Bd.named
  have hnm := (name_of_methodNamed Bd.named Bd.method).1
  have X0 : Stand p l e ({ frames := 0, cells := 0, slots := 0, locals := 0 } : Room) s m #[(.ref ob), (.int (1 : Int32))] below meth c s₁ [] 0 0 := Stand.of_body Bd
  have e0 : s₁.heap = h0 := by rw [← hh, Bd.state]; rfl
  have N0 := Fr.nil n0
  show own_Fin p e below s (own_Q_cfa1 Z ob kb va h0 n0) ({ frames := 0, cells := 0, slots := 0, locals := 0 } : Room).cells ({ frames := 0, cells := 0, slots := 0, locals := 0 } : Room).slots (s₁.setTop (entryFrame m #[(.ref ob), (.int (1 : Int32))] 2))
  refine own_Fin.go (fun t k => castTop (own_ef_cfa1 m ob) k) ?_
  refine own_Fin.go (fun t k => XS.iloadN X0.here hx rfl (hb hby own_dcfa1_0) rfl k) ?_
  show own_Fin _ _ _ _ _ _ _ (s₁.setTop (mkF m 1 #[.val (.ref ob), .val (.int (1 : Int32))] [(.int (1 : Int32))]))
  refine own_Fin.go (fun t k => XS.aloadN X0.here hx rfl (hb hby own_dcfa1_1) rfl rfl k) ?_
  show own_Fin _ _ _ _ _ _ _ (s₁.setTop (mkF m 2 #[.val (.ref ob), .val (.int (1 : Int32))] [(.ref ob), (.int (1 : Int32))]))
  obtain ⟨cl1, Ar1, -, S1, N1l, -, -⟩ := (id V_ob)
  refine own_Fin.go (fun t k => X0.arraylength hx (by rw [e0]; exact Ar1.1) (State.isArrayOf_alike hZ.alike Ar1.2.1) (g := (mkF m 2 #[.val (.ref ob), .val (.int (1 : Int32))] [(.ref ob), (.int (1 : Int32))])) rfl rfl (hb hby own_dcfa1_2) t k) ?_
  rw [len_of S1 N1l]
  show own_Fin _ _ _ _ _ _ _ (s₁.setTop (mkF m 3 #[.val (.ref ob), .val (.int (1 : Int32))] [(.int (1 : Int32)), (.int (1 : Int32))]))
  refine own_Fin.go (fun t k => XS.isub X0.here hx rfl (hb hby own_dcfa1_3) rfl k) ?_
  show own_Fin _ _ _ _ _ _ _ (s₁.setTop (mkF m 4 #[.val (.ref ob), .val (.int (1 : Int32))] [(.int ((1 : Int32) - (1 : Int32)))]))
  rw [show ((1 : Int32) - (1 : Int32)) = (0 : Int32) from by decide +kernel]
  show own_Fin _ _ _ _ _ _ _ (s₁.setTop (mkF m 4 #[.val (.ref ob), .val (.int (1 : Int32))] [(.int (0 : Int32))]))
  refine own_Fin.go (fun t k => XS.bipush X0.here hx rfl (hb hby own_dcfa1_4) k) ?_
  show own_Fin _ _ _ _ _ _ _ (s₁.setTop (mkF m 6 #[.val (.ref ob), .val (.int (1 : Int32))] [(.int (31 : Int32)), (.int (0 : Int32))]))
  refine own_Fin.go (fun t k => XS.iushr X0.here hx rfl (hb hby own_dcfa1_6) rfl k) ?_
  show own_Fin _ _ _ _ _ _ _ (s₁.setTop (mkF m 7 #[.val (.ref ob), .val (.int (1 : Int32))] [(.int (((0 : Int32).toUInt32 >>> ((31 : Int32) &&& 31).toUInt32).toInt32))]))
  rw [show (((0 : Int32).toUInt32 >>> ((31 : Int32) &&& 31).toUInt32).toInt32) = (0 : Int32) from by decide +kernel]
  show own_Fin _ _ _ _ _ _ _ (s₁.setTop (mkF m 7 #[.val (.ref ob), .val (.int (1 : Int32))] [(.int (0 : Int32))]))
  refine own_Fin.go (fun t k => XS.i2b X0.here hx rfl (hb hby own_dcfa1_7) rfl k) ?_
  show own_Fin _ _ _ _ _ _ _ (s₁.setTop (mkF m 8 #[.val (.ref ob), .val (.int (1 : Int32))] [(.int ((0 : Int32).toInt8.toInt32))]))
  rw [show ((0 : Int32).toInt8.toInt32) = (0 : Int32) from by decide +kernel]
  show own_Fin _ _ _ _ _ _ _ (s₁.setTop (mkF m 8 #[.val (.ref ob), .val (.int (1 : Int32))] [(.int (0 : Int32))]))
  refine own_retN X0 hx (t := .byte) (w := (0 : Int32)) Bd.returns (by simp) (hb hby own_dcfa1_8) Bd.notSynchronized rfl (by decide) (by decide) ?_
  rw [e0]
  exact ⟨rfl, N0, rfl⟩
theorem own_pd5 : parseMethodDescriptor "([CII)[B" = some ⟨[(.array .char), .int, .int], some (.array .byte)⟩ := by decide +kernel
theorem own_pd6 : parseMethodDescriptor "([BI)B" = some ⟨[(.array .byte), .int], some .byte⟩ := by decide +kernel
theorem own_dsiv1_0 : decode jdk_42_method_149_code 0 = .ok (.aload_n 0, 1) := by decide +kernel
theorem own_dsiv1_1 : decode jdk_42_method_149_code 1 = .ok (.invokespecial 1, 3) := by decide +kernel
theorem own_dsiv1_4 : decode jdk_42_method_149_code 4 = .ok (.iload_n 3, 1) := by decide +kernel
theorem own_dsiv1_5 : decode jdk_42_method_149_code 5 = .ok (.ifCond .ne 22, 3) := by decide +kernel
theorem own_dsiv1_27 : decode jdk_42_method_149_code 27 = .ok (.getstatic 38, 3) := by decide +kernel
theorem own_dsiv1_30 : decode jdk_42_method_149_code 30 = .ok (.ifCond .eq 28, 3) := by decide +kernel
theorem own_dsiv1_33 : decode jdk_42_method_149_code 33 = .ok (.aload_n 1, 1) := by decide +kernel
theorem own_dsiv1_34 : decode jdk_42_method_149_code 34 = .ok (.iload_n 2, 1) := by decide +kernel
theorem own_dsiv1_35 : decode jdk_42_method_149_code 35 = .ok (.iload_n 3, 1) := by decide +kernel
theorem own_dsiv1_36 : decode jdk_42_method_149_code 36 = .ok (.invokestatic 177, 3) := by decide +kernel
theorem own_dsiv1_39 : decode jdk_42_method_149_code 39 = .ok (.astore 5, 2) := by decide +kernel
theorem own_dsiv1_41 : decode jdk_42_method_149_code 41 = .ok (.aload_n 0, 1) := by decide +kernel
theorem own_dsiv1_42 : decode jdk_42_method_149_code 42 = .ok (.aload 5, 2) := by decide +kernel
theorem own_dsiv1_44 : decode jdk_42_method_149_code 44 = .ok (.iload_n 3, 1) := by decide +kernel
theorem own_dsiv1_45 : decode jdk_42_method_149_code 45 = .ok (.invokestatic 47, 3) := by decide +kernel
theorem own_dsiv1_48 : decode jdk_42_method_149_code 48 = .ok (.putfield 15, 3) := by decide +kernel
theorem own_dsiv1_51 : decode jdk_42_method_149_code 51 = .ok (.aload_n 0, 1) := by decide +kernel
theorem own_dsiv1_52 : decode jdk_42_method_149_code 52 = .ok (.aload 5, 2) := by decide +kernel
theorem own_dsiv1_54 : decode jdk_42_method_149_code 54 = .ok (.putfield 9, 3) := by decide +kernel
theorem own_dsiv1_57 : decode jdk_42_method_149_code 57 = .ok (.return_, 1) := by decide +kernel
theorem own_ef_siv1 (m : MethodId) (oa : Addr) (oc : Addr) : entryFrame m #[(.ref oa), (.ref oc), (.int (0 : Int32)), (.int (1 : Int32)), .null] 6 = mkF m 0 #[.val (.ref oa), .val (.ref oc), .val (.int (0 : Int32)), .val (.int (1 : Int32)), .val .null, .unset] [] := by first | (simp [entryFrame, mkF, argsToLocals, Value.category]; done) | rfl
def own_Q_siv1 (Z : State) (oa : Addr) (oc : Addr) (kc : ClassId) (vcs : Int32) (va : Int32) (h0 : Heap) (n0 : Nat) (v : Option Value) (h : Heap) (L : List Loc) : Prop := v = none ∧ Fr n0 L ∧ Keep h0 h [oa] ∧ Exa Z h oa "java/lang/String"
set_option maxRecDepth 65536 in
set_option maxHeartbeats 40000000 in
theorem own_rm_siv1 (l : Launch) (Z : State) (a0 : Array Value) (hw : ∀ d ∈ tables_1, d.before a0 Z = true) (ws : List Jvm.Cond) (oa : Addr) (oc : Addr) (kc : ClassId) (vcs : Int32) (va : Int32) (h0 : Heap) (n0 : Nat) (Z0 : n0 ≤ h0.size) (E_oa : Exa Z h0 oa "java/lang/String") (F_oa_value : Fld Z h0 oa "java/lang/String" "value" "[B" .null) (F_oa_coder : Fld Z h0 oa "java/lang/String" "coder" "B" (.int (0 : Int32))) (g_oa : n0 ≤ oa) (V_oc : Arv Z h0 oc kc .char (1 : Int32) [(.int va)] (.int (0 : Int32))) (ne_oa_oc : oa ≠ oc) (S_COMPACT_STRINGS : Sta Z h0 "java/lang/String" "COMPACT_STRINGS" "Z" (.int vcs)) (hcs : ¬ vcs = 0) (hva : ¬ (255 : Int32) < va) :
    MetFree l (⟨"java/lang/String", "<init>", "([CIILjava/lang/Void;)V"⟩ : MethodName) (head1 (Jvm.Cond.code (⟨"java/lang/String", "<init>", "([CIILjava/lang/Void;)V"⟩ : MethodName) jdk_42_method_149_code 6 none :: ws) ({ frames := 2, cells := 1, slots := 1, locals := 35 } : Room)) (fun a U => a = #[(.ref oa), (.ref oc), (.int (0 : Int32)), (.int (1 : Int32)), .null] ∧ Z.Warmed39 U.vm ∧ U.heap = h0) (fun _ _ _ _ _ => True) (fun _ U o U' => ∃ v L, o = .returned v ∧ own_Q_siv1 Z oa oc kc vcs va h0 n0 v U'.heap L ∧ FrameEnd U o U' L ({ frames := 2, cells := 1, slots := 1, locals := 35 } : Room).cells ({ frames := 2, cells := 1, slots := 1, locals := 35 } : Room).slots) := by
  refine MetFree.of_bodySF (plainFor_of_name own_pn8) hisR ?_
  intro p e s m args below meth c s₁ Bd hml0 hP hK
  obtain ⟨rfl, hZ, hh⟩ := hP
  have hx := Bd.exec
  have hby := Bd.bytes
  have hml : c.maxLocals = 6 := hml0
  have hown : s.vm.findClass "java/lang/String" = some m.cls := findClass_of_methodNamed Bd.named
  have hnm := (name_of_methodNamed Bd.named Bd.method).1
  have X0 : Stand p l e ({ frames := 2, cells := 1, slots := 1, locals := 35 } : Room) s m #[(.ref oa), (.ref oc), (.int (0 : Int32)), (.int (1 : Int32)), .null] below meth c s₁ [] 0 0 := Stand.of_body Bd
  have e0 : s₁.heap = h0 := by rw [← hh, Bd.state]; rfl
  have N0 := Fr.nil n0
  have K0 := Keep.refl h0 [oa]
  show own_Fin p e below s (own_Q_siv1 Z oa oc kc vcs va h0 n0) ({ frames := 2, cells := 1, slots := 1, locals := 35 } : Room).cells ({ frames := 2, cells := 1, slots := 1, locals := 35 } : Room).slots (s₁.setTop (entryFrame m #[(.ref oa), (.ref oc), (.int (0 : Int32)), (.int (1 : Int32)), .null] 6))
  refine own_Fin.go (fun t k => castTop (own_ef_siv1 m oa oc) k) ?_
  refine own_Fin.go (fun t k => XS.aloadN X0.here hx rfl (hb hby own_dsiv1_0) rfl rfl k) ?_
  show own_Fin _ _ _ _ _ _ _ (s₁.setTop (mkF m 1 #[.val (.ref oa), .val (.ref oc), .val (.int (0 : Int32)), .val (.int (1 : Int32)), .val .null, .unset] [(.ref oa)]))
  obtain ⟨T1, X1, e1, st1⟩ := initO X0 hx hZ hown (hw _ (List.mem_of_getElem? (i := 15) rfl)) (hw _ (List.mem_of_getElem? (i := 16) rfl)) (hw _ (List.mem_of_getElem? (i := 17) rfl)) e0 (g := (mkF m 1 #[.val (.ref oa), .val (.ref oc), .val (.int (0 : Int32)), .val (.int (1 : Int32)), .val .null, .unset] [(.ref oa)])) rfl (by rw [hml]; rfl) rfl (hb hby own_dsiv1_1) (by decide) (W := 0) (by show 2 * 0 + _ ≤ _; exact Nat.le_of_eq rfl) (by decide)
  refine own_Fin.go st1 ?_
  show own_Fin _ _ _ _ _ _ _ (T1.setTop (mkF m 4 #[.val (.ref oa), .val (.ref oc), .val (.int (0 : Int32)), .val (.int (1 : Int32)), .val .null, .unset] []))
  refine own_Fin.go (fun t k => XS.iloadN X1.here hx rfl (hb hby own_dsiv1_4) rfl k) ?_
  show own_Fin _ _ _ _ _ _ _ (T1.setTop (mkF m 5 #[.val (.ref oa), .val (.ref oc), .val (.int (0 : Int32)), .val (.int (1 : Int32)), .val .null, .unset] [(.int (1 : Int32))]))
  refine own_Fin.go (fun t k => XS.ifYes X1.here hx rfl (pc0 := 5) (pc' := 27) rfl (hb hby own_dsiv1_5) rfl (by decide) (by decide) (by decide) k) ?_
  show own_Fin _ _ _ _ _ _ _ (T1.setTop (mkF m 27 #[.val (.ref oa), .val (.ref oc), .val (.int (0 : Int32)), .val (.int (1 : Int32)), .val .null, .unset] []))
  obtain ⟨T2, X2, e2, st2⟩ := getS2 X1 hx hZ hown (host := "") (Or.inl (hw _ (List.mem_of_getElem? (i := 126) rfl))) Via.refl e1 S_COMPACT_STRINGS (g := (mkF m 27 #[.val (.ref oa), .val (.ref oc), .val (.int (0 : Int32)), .val (.int (1 : Int32)), .val .null, .unset] [])) rfl (hb hby own_dsiv1_27)
  refine own_Fin.go st2 ?_
  show own_Fin _ _ _ _ _ _ _ (T2.setTop (mkF m 30 #[.val (.ref oa), .val (.ref oc), .val (.int (0 : Int32)), .val (.int (1 : Int32)), .val .null, .unset] [(.int vcs)]))
  have hc30 : ¬ (vcs = (0 : Int32)) := hcs
  refine own_Fin.go (fun t k => XS.ifNo X2.here hx rfl (hb hby own_dsiv1_30) rfl (Jvm.Free.XT.i0_eq_f hc30) k) ?_
  show own_Fin _ _ _ _ _ _ _ (T2.setTop (mkF m 33 #[.val (.ref oa), .val (.ref oc), .val (.int (0 : Int32)), .val (.int (1 : Int32)), .val .null, .unset] []))
  refine own_Fin.go (fun t k => XS.aloadN X2.here hx rfl (hb hby own_dsiv1_33) rfl rfl k) ?_
  show own_Fin _ _ _ _ _ _ _ (T2.setTop (mkF m 34 #[.val (.ref oa), .val (.ref oc), .val (.int (0 : Int32)), .val (.int (1 : Int32)), .val .null, .unset] [(.ref oc)]))
  refine own_Fin.go (fun t k => XS.iloadN X2.here hx rfl (hb hby own_dsiv1_34) rfl k) ?_
  show own_Fin _ _ _ _ _ _ _ (T2.setTop (mkF m 35 #[.val (.ref oa), .val (.ref oc), .val (.int (0 : Int32)), .val (.int (1 : Int32)), .val .null, .unset] [(.int (0 : Int32)), (.ref oc)]))
  refine own_Fin.go (fun t k => XS.iloadN X2.here hx rfl (hb hby own_dsiv1_35) rfl k) ?_
  show own_Fin _ _ _ _ _ _ _ (T2.setTop (mkF m 36 #[.val (.ref oa), .val (.ref oc), .val (.int (0 : Int32)), .val (.int (1 : Int32)), .val .null, .unset] [(.int (1 : Int32)), (.int (0 : Int32)), (.ref oc)]))
  obtain ⟨_, _, ⟨T3, L3, k3, n3⟩, -, X3, ⟨Lc3, hQ3, l3, y3, z3⟩, st3⟩ := Jvm.LawKit.callS X2 hx (y := (⟨"java/lang/StringUTF16", "compress", "([CII)[B"⟩ : MethodName)) hown (mvT hZ (hw _ (List.mem_of_getElem? (i := 127) rfl))) (mvT hZ (hw _ (List.mem_of_getElem? (i := 128) rfl))) (mvT hZ (hw _ (List.mem_of_getElem? (i := 129) rfl))) (mvT hZ (hw _ (List.mem_of_getElem? (i := 130) rfl))) (by decide) (backOf (W := 0) (own_rm_cpr1 l Z a0 hw [] oc kc va h0 n0 Z0 V_oc hva) hZ (hw _ (List.mem_of_getElem? (i := 130) rfl)) (hw _ (List.mem_of_getElem? (i := 129) rfl)) (by decide) (by decide)) (g := (mkF m 36 #[.val (.ref oa), .val (.ref oc), .val (.int (0 : Int32)), .val (.int (1 : Int32)), .val .null, .unset] [(.int (1 : Int32)), (.int (0 : Int32)), (.ref oc)])) rfl (by rw [hml]; rfl) (argsL := [(.ref oc), (.int (0 : Int32)), (.int (1 : Int32))]) (rest := []) (lenOf own_pd5 rfl) rfl (by show 2 * 0 + _ ≤ _; exact Nat.le_of_eq rfl) (hb hby own_dsiv1_36) (fun _ _ => ⟨rfl, e2, (by decide : 0 + 1 ≤ _), (by decide : 0 + 1 ≤ _)⟩)
  dsimp only [Pt.U, Pt.locs, Pt.cells, Pt.slots] at X3 l3 y3 z3 st3 hQ3
  subst l3 y3 z3
  obtain ⟨r3, kb3, rfl, N3q, K3q, c3_1, c3_2⟩ := hQ3
  refine own_Fin.go (fun t k => st3 t k) ?_
  have N3 := Fr.app N0 N3q
  have E_oa_3 := E_oa.keep K3q
  have F_oa_value_3 := F_oa_value.keep K3q nin0
  have F_oa_coder_3 := F_oa_coder.keep K3q nin0
  have V_oc_3 := V_oc.keep K3q nin0
  have Z3 := Nat.le_trans Z0 K3q.1
  have K3 := K0.trans K3q all0
  have ne_oa_r3 : oa ≠ r3 := Nat.ne_of_lt (Nat.lt_of_lt_of_le F_oa_coder.lt c3_2)
  have ne_oc_r3 : oc ≠ r3 := Nat.ne_of_lt (Nat.lt_of_lt_of_le V_oc.lt c3_2)
  have g_r3 : n0 ≤ r3 := Nat.le_trans Z0 c3_2
  have sz_r3 : h0.size ≤ r3 := Nat.le_trans K0.1 c3_2
  show own_Fin _ _ _ _ _ _ _ (T3.setTop (mkF m 39 #[.val (.ref oa), .val (.ref oc), .val (.int (0 : Int32)), .val (.int (1 : Int32)), .val .null, .unset] [(.ref r3)]))
  refine own_Fin.go (fun t k => XS.astore X3.here hx rfl (hb hby own_dsiv1_39) rfl rfl (l' := #[.val (.ref oa), .val (.ref oc), .val (.int (0 : Int32)), .val (.int (1 : Int32)), .val .null, .val (.ref r3)]) rfl k) ?_
  show own_Fin _ _ _ _ _ _ _ (T3.setTop (mkF m 41 #[.val (.ref oa), .val (.ref oc), .val (.int (0 : Int32)), .val (.int (1 : Int32)), .val .null, .val (.ref r3)] []))
  refine own_Fin.go (fun t k => XS.aloadN X3.here hx rfl (hb hby own_dsiv1_41) rfl rfl k) ?_
  show own_Fin _ _ _ _ _ _ _ (T3.setTop (mkF m 42 #[.val (.ref oa), .val (.ref oc), .val (.int (0 : Int32)), .val (.int (1 : Int32)), .val .null, .val (.ref r3)] [(.ref oa)]))
  refine own_Fin.go (fun t k => XS.aload X3.here hx rfl (hb hby own_dsiv1_42) rfl rfl k) ?_
  show own_Fin _ _ _ _ _ _ _ (T3.setTop (mkF m 44 #[.val (.ref oa), .val (.ref oc), .val (.int (0 : Int32)), .val (.int (1 : Int32)), .val .null, .val (.ref r3)] [(.ref r3), (.ref oa)]))
  refine own_Fin.go (fun t k => XS.iloadN X3.here hx rfl (hb hby own_dsiv1_44) rfl k) ?_
  show own_Fin _ _ _ _ _ _ _ (T3.setTop (mkF m 45 #[.val (.ref oa), .val (.ref oc), .val (.int (0 : Int32)), .val (.int (1 : Int32)), .val .null, .val (.ref r3)] [(.int (1 : Int32)), (.ref r3), (.ref oa)]))
  obtain ⟨_, _, ⟨T4, L4, k4, n4⟩, -, X4, ⟨Lc4, hQ4, l4, y4, z4⟩, st4⟩ := Jvm.LawKit.callS X3 hx (y := (⟨"java/lang/StringUTF16", "coderFromArrayLen", "([BI)B"⟩ : MethodName)) hown (mvT hZ (hw _ (List.mem_of_getElem? (i := 134) rfl))) (mvT hZ (hw _ (List.mem_of_getElem? (i := 135) rfl))) (mvT hZ (hw _ (List.mem_of_getElem? (i := 129) rfl))) (mvT hZ (hw _ (List.mem_of_getElem? (i := 136) rfl))) (by decide) (backOf (W := 1) (own_rm_cfa1 l Z a0 hw [] r3 kb3 va T3.heap n0 Z3 c3_1) hZ (hw _ (List.mem_of_getElem? (i := 136) rfl)) (hw _ (List.mem_of_getElem? (i := 129) rfl)) (by decide) (by decide)) (g := (mkF m 45 #[.val (.ref oa), .val (.ref oc), .val (.int (0 : Int32)), .val (.int (1 : Int32)), .val .null, .val (.ref r3)] [(.int (1 : Int32)), (.ref r3), (.ref oa)])) rfl (by rw [hml]; rfl) (argsL := [(.ref r3), (.int (1 : Int32))]) (rest := [(.ref oa)]) (lenOf own_pd6 rfl) rfl (by show 2 * 0 + _ ≤ _; exact Nat.le_of_eq rfl) (hb hby own_dsiv1_45) (fun _ _ => ⟨rfl, rfl, (by decide : 1 + 0 ≤ _), (by decide : 1 + 0 ≤ _)⟩)
  dsimp only [Pt.U, Pt.locs, Pt.cells, Pt.slots] at X4 l4 y4 z4 st4 hQ4
  subst l4 y4 z4
  obtain ⟨rfl, N4q, e4⟩ := hQ4
  refine own_Fin.go (fun t k => st4 t k) ?_
  have N4 := Fr.app N3 N4q
  show own_Fin _ _ _ _ _ _ _ (T4.setTop (mkF m 48 #[.val (.ref oa), .val (.ref oc), .val (.int (0 : Int32)), .val (.int (1 : Int32)), .val .null, .val (.ref r3)] [(.int (0 : Int32)), (.ref oa)]))
  obtain ⟨T5, h5, X5, e5, W5, st5⟩ := putFN X4 hx hZ hown (hw _ (List.mem_of_getElem? (i := 25) rfl)) Via.refl e4 F_oa_coder_3 E_oa_3 (Or.inr ⟨(hw _ (List.mem_of_getElem? (i := 21) rfl)), rfl, hnm⟩) (hw _ (List.mem_of_getElem? (i := 5) rfl)) (ty := .byte) (v' := .int (0 : Int32)) (by decide) rfl rfl (g := (mkF m 48 #[.val (.ref oa), .val (.ref oc), .val (.int (0 : Int32)), .val (.int (1 : Int32)), .val .null, .val (.ref r3)] [(.int (0 : Int32)), (.ref oa)])) rfl rfl (hb hby own_dsiv1_48)
  refine own_Fin.go st5 ?_
  have F_oa_coder_5 := Fld.same W5 F_oa_coder_3
  have E_oa_5 := Exa.wr W5 E_oa_3
  have F_oa_value_5 := Fld.other W5 F_oa_value_3 (Or.inr (slot_ne (Or.inr (hw _ (List.mem_of_getElem? (i := 20) rfl))) (Or.inr (hw _ (List.mem_of_getElem? (i := 21) rfl))) (by decide) (t := (.array .byte)) (t' := .byte) (by decide) (by decide)))
  have V_r3_5 := Arv.other c3_1 W5 (Ne.symm ne_oa_r3)
  have Z5 := Nat.le_trans Z3 (Keep.of_wr W5).1
  have K5 := K3.wr W5 (Or.inl (List.mem_of_getElem? (i := 0) rfl))
  have N5 := Fr.snoc X5 N4 g_oa
  show own_Fin _ _ _ _ _ _ _ (T5.setTop (mkF m 51 #[.val (.ref oa), .val (.ref oc), .val (.int (0 : Int32)), .val (.int (1 : Int32)), .val .null, .val (.ref r3)] []))
  refine own_Fin.go (fun t k => XS.aloadN X5.here hx rfl (hb hby own_dsiv1_51) rfl rfl k) ?_
  show own_Fin _ _ _ _ _ _ _ (T5.setTop (mkF m 52 #[.val (.ref oa), .val (.ref oc), .val (.int (0 : Int32)), .val (.int (1 : Int32)), .val .null, .val (.ref r3)] [(.ref oa)]))
  refine own_Fin.go (fun t k => XS.aload X5.here hx rfl (hb hby own_dsiv1_52) rfl rfl k) ?_
  show own_Fin _ _ _ _ _ _ _ (T5.setTop (mkF m 54 #[.val (.ref oa), .val (.ref oc), .val (.int (0 : Int32)), .val (.int (1 : Int32)), .val .null, .val (.ref r3)] [(.ref r3), (.ref oa)]))
  obtain ⟨T6, h6, X6, e6, W6, st6⟩ := putF X5 hx hZ hown (host := "") (Or.inl (hw _ (List.mem_of_getElem? (i := 24) rfl))) Via.refl e5 F_oa_value_5 E_oa_5 (Or.inr ⟨(hw _ (List.mem_of_getElem? (i := 20) rfl)), rfl, hnm⟩) (hw _ (List.mem_of_getElem? (i := 5) rfl)) (ty := (.array .byte)) (by decide) rfl rfl (g := (mkF m 54 #[.val (.ref oa), .val (.ref oc), .val (.int (0 : Int32)), .val (.int (1 : Int32)), .val .null, .val (.ref r3)] [(.ref r3), (.ref oa)])) rfl rfl (hb hby own_dsiv1_54)
  refine own_Fin.go st6 ?_
  have F_oa_value_6 := Fld.same W6 F_oa_value_5
  have E_oa_6 := Exa.wr W6 E_oa_5
  have F_oa_coder_6 := Fld.other W6 F_oa_coder_5 (Or.inr (slot_ne (Or.inr (hw _ (List.mem_of_getElem? (i := 21) rfl))) (Or.inr (hw _ (List.mem_of_getElem? (i := 20) rfl))) (by decide) (t := .byte) (t' := (.array .byte)) (by decide) (by decide)))
  have V_r3_6 := Arv.other V_r3_5 W6 (Ne.symm ne_oa_r3)
  have Z6 := Nat.le_trans Z5 (Keep.of_wr W6).1
  have K6 := K5.wr W6 (Or.inl (List.mem_of_getElem? (i := 0) rfl))
  have N6 := Fr.snoc X6 N5 g_oa
  show own_Fin _ _ _ _ _ _ _ (T6.setTop (mkF m 57 #[.val (.ref oa), .val (.ref oc), .val (.int (0 : Int32)), .val (.int (1 : Int32)), .val .null, .val (.ref r3)] []))
  refine own_ret0 X6 hx Bd.returns (hb hby own_dsiv1_57) Bd.notSynchronized (by decide) (by decide) ?_
  rw [e6]
  exact ⟨rfl, N6, K6, E_oa_6⟩
theorem own_pd7 : parseMethodDescriptor "([CIILjava/lang/Void;)V" = some ⟨[(.array .char), .int, .int, (.object "java/lang/Void")], none⟩ := by decide +kernel
theorem own_dsic1_0 : decode jdk_42_method_3_code 0 = .ok (.aload_n 0, 1) := by decide +kernel
theorem own_dsic1_1 : decode jdk_42_method_3_code 1 = .ok (.aload_n 1, 1) := by decide +kernel
theorem own_dsic1_2 : decode jdk_42_method_3_code 2 = .ok (.iconst 0, 1) := by decide +kernel
theorem own_dsic1_3 : decode jdk_42_method_3_code 3 = .ok (.aload_n 1, 1) := by decide +kernel
theorem own_dsic1_4 : decode jdk_42_method_3_code 4 = .ok (.arraylength, 1) := by decide +kernel
theorem own_dsic1_5 : decode jdk_42_method_3_code 5 = .ok (.aconst_null, 1) := by decide +kernel
theorem own_dsic1_6 : decode jdk_42_method_3_code 6 = .ok (.invokespecial 27, 3) := by decide +kernel
theorem own_dsic1_9 : decode jdk_42_method_3_code 9 = .ok (.return_, 1) := by decide +kernel
theorem own_ef_sic1 (m : MethodId) (oa : Addr) (oc : Addr) : entryFrame m #[(.ref oa), (.ref oc)] 2 = mkF m 0 #[.val (.ref oa), .val (.ref oc)] [] := by first | (simp [entryFrame, mkF, argsToLocals, Value.category]; done) | rfl
def own_Q_sic1 (Z : State) (oa : Addr) (oc : Addr) (kc : ClassId) (vcs : Int32) (va : Int32) (h0 : Heap) (n0 : Nat) (v : Option Value) (h : Heap) (L : List Loc) : Prop := v = none ∧ Fr n0 L ∧ Keep h0 h [oa] ∧ Exa Z h oa "java/lang/String"
set_option maxRecDepth 65536 in
set_option maxHeartbeats 40000000 in
theorem own_rm_sic1 (l : Launch) (Z : State) (a0 : Array Value) (hw : ∀ d ∈ tables_1, d.before a0 Z = true) (ws : List Jvm.Cond) (oa : Addr) (oc : Addr) (kc : ClassId) (vcs : Int32) (va : Int32) (h0 : Heap) (n0 : Nat) (Z0 : n0 ≤ h0.size) (E_oa : Exa Z h0 oa "java/lang/String") (F_oa_value : Fld Z h0 oa "java/lang/String" "value" "[B" .null) (F_oa_coder : Fld Z h0 oa "java/lang/String" "coder" "B" (.int (0 : Int32))) (g_oa : n0 ≤ oa) (V_oc : Arv Z h0 oc kc .char (1 : Int32) [(.int va)] (.int (0 : Int32))) (ne_oa_oc : oa ≠ oc) (S_COMPACT_STRINGS : Sta Z h0 "java/lang/String" "COMPACT_STRINGS" "Z" (.int vcs)) (hcs : ¬ vcs = 0) (hva : ¬ (255 : Int32) < va) :
    MetFree l (⟨"java/lang/String", "<init>", "([C)V"⟩ : MethodName) (head1 (Jvm.Cond.code (⟨"java/lang/String", "<init>", "([C)V"⟩ : MethodName) jdk_42_method_3_code 2 none :: ws) ({ frames := 3, cells := 1, slots := 1, locals := 52 } : Room)) (fun a U => a = #[(.ref oa), (.ref oc)] ∧ Z.Warmed39 U.vm ∧ U.heap = h0) (fun _ _ _ _ _ => True) (fun _ U o U' => ∃ v L, o = .returned v ∧ own_Q_sic1 Z oa oc kc vcs va h0 n0 v U'.heap L ∧ FrameEnd U o U' L ({ frames := 3, cells := 1, slots := 1, locals := 52 } : Room).cells ({ frames := 3, cells := 1, slots := 1, locals := 52 } : Room).slots) := by
  refine MetFree.of_bodySF (plainFor_of_name own_pn8) hisR ?_
  intro p e s m args below meth c s₁ Bd hml0 hP hK
  obtain ⟨rfl, hZ, hh⟩ := hP
  have hx := Bd.exec
  have hby := Bd.bytes
  have hml : c.maxLocals = 2 := hml0
  have hown : s.vm.findClass "java/lang/String" = some m.cls := findClass_of_methodNamed Bd.named
  have hnm := (name_of_methodNamed Bd.named Bd.method).1
  have X0 : Stand p l e ({ frames := 3, cells := 1, slots := 1, locals := 52 } : Room) s m #[(.ref oa), (.ref oc)] below meth c s₁ [] 0 0 := Stand.of_body Bd
  have e0 : s₁.heap = h0 := by rw [← hh, Bd.state]; rfl
  have N0 := Fr.nil n0
  have K0 := Keep.refl h0 [oa]
  show own_Fin p e below s (own_Q_sic1 Z oa oc kc vcs va h0 n0) ({ frames := 3, cells := 1, slots := 1, locals := 52 } : Room).cells ({ frames := 3, cells := 1, slots := 1, locals := 52 } : Room).slots (s₁.setTop (entryFrame m #[(.ref oa), (.ref oc)] 2))
  refine own_Fin.go (fun t k => castTop (own_ef_sic1 m oa oc) k) ?_
  refine own_Fin.go (fun t k => XS.aloadN X0.here hx rfl (hb hby own_dsic1_0) rfl rfl k) ?_
  show own_Fin _ _ _ _ _ _ _ (s₁.setTop (mkF m 1 #[.val (.ref oa), .val (.ref oc)] [(.ref oa)]))
  refine own_Fin.go (fun t k => XS.aloadN X0.here hx rfl (hb hby own_dsic1_1) rfl rfl k) ?_
  show own_Fin _ _ _ _ _ _ _ (s₁.setTop (mkF m 2 #[.val (.ref oa), .val (.ref oc)] [(.ref oc), (.ref oa)]))
  refine own_Fin.go (fun t k => XS.iconst X0.here hx rfl (hb hby own_dsic1_2) k) ?_
  show own_Fin _ _ _ _ _ _ _ (s₁.setTop (mkF m 3 #[.val (.ref oa), .val (.ref oc)] [(.int (0 : Int32)), (.ref oc), (.ref oa)]))
  refine own_Fin.go (fun t k => XS.aloadN X0.here hx rfl (hb hby own_dsic1_3) rfl rfl k) ?_
  show own_Fin _ _ _ _ _ _ _ (s₁.setTop (mkF m 4 #[.val (.ref oa), .val (.ref oc)] [(.ref oc), (.int (0 : Int32)), (.ref oc), (.ref oa)]))
  obtain ⟨cl1, Ar1, -, S1, N1l, -, -⟩ := (id V_oc)
  refine own_Fin.go (fun t k => X0.arraylength hx (by rw [e0]; exact Ar1.1) (State.isArrayOf_alike hZ.alike Ar1.2.1) (g := (mkF m 4 #[.val (.ref oa), .val (.ref oc)] [(.ref oc), (.int (0 : Int32)), (.ref oc), (.ref oa)])) rfl rfl (hb hby own_dsic1_4) t k) ?_
  rw [len_of S1 N1l]
  show own_Fin _ _ _ _ _ _ _ (s₁.setTop (mkF m 5 #[.val (.ref oa), .val (.ref oc)] [(.int (1 : Int32)), (.int (0 : Int32)), (.ref oc), (.ref oa)]))
  refine own_Fin.go (fun t k => XS.aconstNull X0.here hx rfl (hb hby own_dsic1_5) k) ?_
  show own_Fin _ _ _ _ _ _ _ (s₁.setTop (mkF m 6 #[.val (.ref oa), .val (.ref oc)] [.null, (.int (1 : Int32)), (.int (0 : Int32)), (.ref oc), (.ref oa)]))
  obtain ⟨_, _, ⟨T2, L2, k2, n2⟩, -, X2, ⟨Lc2, hQ2, l2, y2, z2⟩, st2⟩ := X0.specialBack hx (y := (⟨"java/lang/String", "<init>", "([CIILjava/lang/Void;)V"⟩ : MethodName)) rfl hown (mvT hZ (hw _ (List.mem_of_getElem? (i := 11) rfl))) (mvT hZ (hw _ (List.mem_of_getElem? (i := 12) rfl))) (mvT hZ (hw _ (List.mem_of_getElem? (i := 14) rfl))) (by decide) (backOf (W := 0) (own_rm_siv1 l Z a0 hw [] oa oc kc vcs va h0 n0 Z0 E_oa F_oa_value F_oa_coder g_oa V_oc ne_oa_oc S_COMPACT_STRINGS hcs hva) hZ (hw _ (List.mem_of_getElem? (i := 14) rfl)) (hw _ (List.mem_of_getElem? (i := 6) rfl)) (by decide) (by decide)) (g := (mkF m 6 #[.val (.ref oa), .val (.ref oc)] [.null, (.int (1 : Int32)), (.int (0 : Int32)), (.ref oc), (.ref oa)])) rfl (by rw [hml]; rfl) (Steps.refl _) (a := oa) (argsL := [(.ref oc), (.int (0 : Int32)), (.int (1 : Int32)), .null]) (rest := []) (lenOf own_pd7 rfl) rfl (by show 2 * 0 + _ ≤ _; exact Nat.le_of_eq rfl) (hb hby own_dsic1_6) (fun _ _ => ⟨rfl, e0, (by decide : 0 + 1 ≤ _), (by decide : 0 + 1 ≤ _)⟩)
  dsimp only [Pt.U, Pt.locs, Pt.cells, Pt.slots] at X2 l2 y2 z2 st2 hQ2
  subst l2 y2 z2
  obtain ⟨rfl, N2q, K2q, c2_1⟩ := hQ2
  refine own_Fin.go (fun t k => st2.trans k) ?_
  have N2 := Fr.app N0 N2q
  have V_oc_2 := V_oc.keep K2q (ninS (Ne.symm ne_oa_oc) nin0)
  have S_COMPACT_STRINGS_2 := own_staKeep1 S_COMPACT_STRINGS K2q E_oa
  have Z2 := Nat.le_trans Z0 K2q.1
  have K2 := K0.trans K2q (allS (Or.inl (List.mem_of_getElem? (i := 0) rfl)) all0)
  show own_Fin _ _ _ _ _ _ _ (T2.setTop (mkF m 9 #[.val (.ref oa), .val (.ref oc)] []))
  refine own_ret0 X2 hx Bd.returns (hb hby own_dsic1_9) Bd.notSynchronized (by decide) (by decide) ?_
  exact ⟨rfl, N2, K2, c2_1⟩
theorem own_dcpi2_0 : decode jdk_52_method_21_code 0 = .ok (.iconst 0, 1) := by decide +kernel
theorem own_dcpi2_1 : decode jdk_52_method_21_code 1 = .ok (.istore 5, 2) := by decide +kernel
theorem own_dcpi2_3 : decode jdk_52_method_21_code 3 = .ok (.iload 5, 2) := by decide +kernel
theorem own_dcpi2_5 : decode jdk_52_method_21_code 5 = .ok (.iload 4, 2) := by decide +kernel
theorem own_dcpi2_7 : decode jdk_52_method_21_code 7 = .ok (.if_icmp .ge 37, 3) := by decide +kernel
theorem own_dcpi2_10 : decode jdk_52_method_21_code 10 = .ok (.aload_n 0, 1) := by decide +kernel
theorem own_dcpi2_11 : decode jdk_52_method_21_code 11 = .ok (.iload_n 1, 1) := by decide +kernel
theorem own_dcpi2_12 : decode jdk_52_method_21_code 12 = .ok (.caload, 1) := by decide +kernel
theorem own_dcpi2_13 : decode jdk_52_method_21_code 13 = .ok (.istore 6, 2) := by decide +kernel
theorem own_dcpi2_15 : decode jdk_52_method_21_code 15 = .ok (.iload 6, 2) := by decide +kernel
theorem own_dcpi2_17 : decode jdk_52_method_21_code 17 = .ok (.sipush 255, 3) := by decide +kernel
theorem own_dcpi2_20 : decode jdk_52_method_21_code 20 = .ok (.if_icmp .le 6, 3) := by decide +kernel
theorem own_dcpi2_26 : decode jdk_52_method_21_code 26 = .ok (.aload_n 2, 1) := by decide +kernel
theorem own_dcpi2_27 : decode jdk_52_method_21_code 27 = .ok (.iload_n 3, 1) := by decide +kernel
theorem own_dcpi2_28 : decode jdk_52_method_21_code 28 = .ok (.iload 6, 2) := by decide +kernel
theorem own_dcpi2_30 : decode jdk_52_method_21_code 30 = .ok (.i2b, 1) := by decide +kernel
theorem own_dcpi2_31 : decode jdk_52_method_21_code 31 = .ok (.bastore, 1) := by decide +kernel
theorem own_dcpi2_32 : decode jdk_52_method_21_code 32 = .ok (.iinc 1 1, 3) := by decide +kernel
theorem own_dcpi2_35 : decode jdk_52_method_21_code 35 = .ok (.iinc 3 1, 3) := by decide +kernel
theorem own_dcpi2_38 : decode jdk_52_method_21_code 38 = .ok (.iinc 5 1, 3) := by decide +kernel
theorem own_dcpi2_41 : decode jdk_52_method_21_code 41 = .ok (.goto (-38), 3) := by decide +kernel
theorem own_dcpi2_44 : decode jdk_52_method_21_code 44 = .ok (.iload 4, 2) := by decide +kernel
theorem own_dcpi2_46 : decode jdk_52_method_21_code 46 = .ok (.ireturn, 1) := by decide +kernel
theorem own_ef_cpi2 (m : MethodId) (oc : Addr) (ob : Addr) : entryFrame m #[(.ref oc), (.int (0 : Int32)), (.ref ob), (.int (0 : Int32)), (.int (2 : Int32))] 7 = mkF m 0 #[.val (.ref oc), .val (.int (0 : Int32)), .val (.ref ob), .val (.int (0 : Int32)), .val (.int (2 : Int32)), .unset, .unset] [] := by first | (simp [entryFrame, mkF, argsToLocals, Value.category]; done) | rfl
def own_Q_cpi2 (Z : State) (oc : Addr) (ob : Addr) (kc : ClassId) (kb : ClassId) (va : Int32) (vb : Int32) (h0 : Heap) (n0 : Nat) (v : Option Value) (h : Heap) (L : List Loc) : Prop := v = some (.int (2 : Int32)) ∧ Fr n0 L ∧ Keep h0 h [ob] ∧ Arv Z h ob kb .byte (2 : Int32) [(.int (va.toInt8.toInt32).toInt8.toInt32), (.int (vb.toInt8.toInt32).toInt8.toInt32)] (.int (0 : Int32))
set_option maxRecDepth 65536 in
set_option maxHeartbeats 40000000 in
theorem own_rm_cpi2 (l : Launch) (Z : State) (a0 : Array Value) (hw : ∀ d ∈ tables_1, d.before a0 Z = true) (ws : List Jvm.Cond) (oc : Addr) (ob : Addr) (kc : ClassId) (kb : ClassId) (va : Int32) (vb : Int32) (h0 : Heap) (n0 : Nat) (Z0 : n0 ≤ h0.size) (V_oc : Arv Z h0 oc kc .char (2 : Int32) [(.int va), (.int vb)] (.int (0 : Int32))) (V_ob : Arv Z h0 ob kb .byte (2 : Int32) [(.int (0 : Int32)), (.int (0 : Int32))] (.int (0 : Int32))) (ne_oc_ob : oc ≠ ob) (g_ob : n0 ≤ ob) (hva : ¬ (255 : Int32) < va) (hvb : ¬ (255 : Int32) < vb) :
    MetFree l (⟨"java/lang/StringUTF16", "compress", "([CI[BII)I"⟩ : MethodName) (head1 (Jvm.Cond.code (⟨"java/lang/StringUTF16", "compress", "([CI[BII)I"⟩ : MethodName) jdk_52_method_21_code 7 (some .int) :: ws) ({ frames := 0, cells := 0, slots := 0, locals := 0 } : Room)) (fun a U => a = #[(.ref oc), (.int (0 : Int32)), (.ref ob), (.int (0 : Int32)), (.int (2 : Int32))] ∧ Z.Warmed39 U.vm ∧ U.heap = h0) (fun _ _ _ _ _ => True) (fun _ U o U' => ∃ v L, o = .returned v ∧ own_Q_cpi2 Z oc ob kc kb va vb h0 n0 v U'.heap L ∧ FrameEnd U o U' L ({ frames := 0, cells := 0, slots := 0, locals := 0 } : Room).cells ({ frames := 0, cells := 0, slots := 0, locals := 0 } : Room).slots) := by
  refine MetFree.of_bodySF (plainFor_of_name own_pn10) hisR ?_
  intro p e s m args below meth c s₁ Bd hml0 hP hK
  obtain ⟨rfl, hZ, hh⟩ := hP
  have hx := Bd.exec
  have hby := Bd.bytes
  have hml : c.maxLocals = 7 := hml0
  have hown : s.vm.findClass "java/lang/StringUTF16" = some m.cls := findClass_of_methodNamed Bd.named
  have hnm := (name_of_methodNamed Bd.named Bd.method).1
  have X0 : Stand p l e ({ frames := 0, cells := 0, slots := 0, locals := 0 } : Room) s m #[(.ref oc), (.int (0 : Int32)), (.ref ob), (.int (0 : Int32)), (.int (2 : Int32))] below meth c s₁ [] 0 0 := Stand.of_body Bd
  have e0 : s₁.heap = h0 := by rw [← hh, Bd.state]; rfl
  have N0 := Fr.nil n0
  have K0 := Keep.refl h0 [ob]
  show own_Fin p e below s (own_Q_cpi2 Z oc ob kc kb va vb h0 n0) ({ frames := 0, cells := 0, slots := 0, locals := 0 } : Room).cells ({ frames := 0, cells := 0, slots := 0, locals := 0 } : Room).slots (s₁.setTop (entryFrame m #[(.ref oc), (.int (0 : Int32)), (.ref ob), (.int (0 : Int32)), (.int (2 : Int32))] 7))
  refine own_Fin.go (fun t k => castTop (own_ef_cpi2 m oc ob) k) ?_
  refine own_Fin.go (fun t k => XS.iconst X0.here hx rfl (hb hby own_dcpi2_0) k) ?_
  show own_Fin _ _ _ _ _ _ _ (s₁.setTop (mkF m 1 #[.val (.ref oc), .val (.int (0 : Int32)), .val (.ref ob), .val (.int (0 : Int32)), .val (.int (2 : Int32)), .unset, .unset] [(.int (0 : Int32))]))
  refine own_Fin.go (fun t k => XS.istore X0.here hx rfl (hb hby own_dcpi2_1) rfl (l' := #[.val (.ref oc), .val (.int (0 : Int32)), .val (.ref ob), .val (.int (0 : Int32)), .val (.int (2 : Int32)), .val (.int (0 : Int32)), .unset]) rfl k) ?_
  show own_Fin _ _ _ _ _ _ _ (s₁.setTop (mkF m 3 #[.val (.ref oc), .val (.int (0 : Int32)), .val (.ref ob), .val (.int (0 : Int32)), .val (.int (2 : Int32)), .val (.int (0 : Int32)), .unset] []))
  refine own_Fin.go (fun t k => XS.iload X0.here hx rfl (hb hby own_dcpi2_3) rfl k) ?_
  show own_Fin _ _ _ _ _ _ _ (s₁.setTop (mkF m 5 #[.val (.ref oc), .val (.int (0 : Int32)), .val (.ref ob), .val (.int (0 : Int32)), .val (.int (2 : Int32)), .val (.int (0 : Int32)), .unset] [(.int (0 : Int32))]))
  refine own_Fin.go (fun t k => XS.iload X0.here hx rfl (hb hby own_dcpi2_5) rfl k) ?_
  show own_Fin _ _ _ _ _ _ _ (s₁.setTop (mkF m 7 #[.val (.ref oc), .val (.int (0 : Int32)), .val (.ref ob), .val (.int (0 : Int32)), .val (.int (2 : Int32)), .val (.int (0 : Int32)), .unset] [(.int (2 : Int32)), (.int (0 : Int32))]))
  refine own_Fin.go (fun t k => XS.icmpNo X0.here hx rfl (hb hby own_dcpi2_7) rfl (by decide) k) ?_
  show own_Fin _ _ _ _ _ _ _ (s₁.setTop (mkF m 10 #[.val (.ref oc), .val (.int (0 : Int32)), .val (.ref ob), .val (.int (0 : Int32)), .val (.int (2 : Int32)), .val (.int (0 : Int32)), .unset] []))
  refine own_Fin.go (fun t k => XS.aloadN X0.here hx rfl (hb hby own_dcpi2_10) rfl rfl k) ?_
  show own_Fin _ _ _ _ _ _ _ (s₁.setTop (mkF m 11 #[.val (.ref oc), .val (.int (0 : Int32)), .val (.ref ob), .val (.int (0 : Int32)), .val (.int (2 : Int32)), .val (.int (0 : Int32)), .unset] [(.ref oc)]))
  refine own_Fin.go (fun t k => XS.iloadN X0.here hx rfl (hb hby own_dcpi2_11) rfl k) ?_
  show own_Fin _ _ _ _ _ _ _ (s₁.setTop (mkF m 12 #[.val (.ref oc), .val (.int (0 : Int32)), .val (.ref ob), .val (.int (0 : Int32)), .val (.int (2 : Int32)), .val (.int (0 : Int32)), .unset] [(.int (0 : Int32)), (.ref oc)]))
  obtain ⟨cl1, Ar1, q1, S1, N1l, H1, G1⟩ := (id V_oc)
  have hin1 : ¬ ((0 : Int32) < 0 ∨ cl1.slots.size ≤ ((0 : Int32)).toNatClampNeg) := inb_of S1 ⟨by decide, by decide⟩
  have hat1 : cl1.slots[((0 : Int32)).toNatClampNeg]? = some (.int va) := Has.at H1 hin1 rfl
  refine own_Fin.go (fun t k => X0.caload hx (j := (0 : Int32)) (v := (.int va)) (by rw [e0]; exact Ar1.1) (State.isArrayOf_alike hZ.alike Ar1.2.1) Ar1.2.2 hin1 hat1 (g := (mkF m 12 #[.val (.ref oc), .val (.int (0 : Int32)), .val (.ref ob), .val (.int (0 : Int32)), .val (.int (2 : Int32)), .val (.int (0 : Int32)), .unset] [(.int (0 : Int32)), (.ref oc)])) rfl rfl (hb hby own_dcpi2_12) t k) ?_
  show own_Fin _ _ _ _ _ _ _ (s₁.setTop (mkF m 13 #[.val (.ref oc), .val (.int (0 : Int32)), .val (.ref ob), .val (.int (0 : Int32)), .val (.int (2 : Int32)), .val (.int (0 : Int32)), .unset] [(.int va)]))
  refine own_Fin.go (fun t k => XS.istore X0.here hx rfl (hb hby own_dcpi2_13) rfl (l' := #[.val (.ref oc), .val (.int (0 : Int32)), .val (.ref ob), .val (.int (0 : Int32)), .val (.int (2 : Int32)), .val (.int (0 : Int32)), .val (.int va)]) rfl k) ?_
  show own_Fin _ _ _ _ _ _ _ (s₁.setTop (mkF m 15 #[.val (.ref oc), .val (.int (0 : Int32)), .val (.ref ob), .val (.int (0 : Int32)), .val (.int (2 : Int32)), .val (.int (0 : Int32)), .val (.int va)] []))
  refine own_Fin.go (fun t k => XS.iload X0.here hx rfl (hb hby own_dcpi2_15) rfl k) ?_
  show own_Fin _ _ _ _ _ _ _ (s₁.setTop (mkF m 17 #[.val (.ref oc), .val (.int (0 : Int32)), .val (.ref ob), .val (.int (0 : Int32)), .val (.int (2 : Int32)), .val (.int (0 : Int32)), .val (.int va)] [(.int va)]))
  refine own_Fin.go (fun t k => XS.sipush X0.here hx rfl (hb hby own_dcpi2_17) k) ?_
  show own_Fin _ _ _ _ _ _ _ (s₁.setTop (mkF m 20 #[.val (.ref oc), .val (.int (0 : Int32)), .val (.ref ob), .val (.int (0 : Int32)), .val (.int (2 : Int32)), .val (.int (0 : Int32)), .val (.int va)] [(.int (255 : Int32)), (.int va)]))
  have hc20 : ¬ ((255 : Int32) < va) := hva
  refine own_Fin.go (fun t k => XS.icmpYes X0.here hx rfl (pc0 := 20) (pc' := 26) rfl (hb hby own_dcpi2_20) rfl (Jvm.Free.XT.ii_le_t hc20) (by decide) (by decide) k) ?_
  show own_Fin _ _ _ _ _ _ _ (s₁.setTop (mkF m 26 #[.val (.ref oc), .val (.int (0 : Int32)), .val (.ref ob), .val (.int (0 : Int32)), .val (.int (2 : Int32)), .val (.int (0 : Int32)), .val (.int va)] []))
  refine own_Fin.go (fun t k => XS.aloadN X0.here hx rfl (hb hby own_dcpi2_26) rfl rfl k) ?_
  show own_Fin _ _ _ _ _ _ _ (s₁.setTop (mkF m 27 #[.val (.ref oc), .val (.int (0 : Int32)), .val (.ref ob), .val (.int (0 : Int32)), .val (.int (2 : Int32)), .val (.int (0 : Int32)), .val (.int va)] [(.ref ob)]))
  refine own_Fin.go (fun t k => XS.iloadN X0.here hx rfl (hb hby own_dcpi2_27) rfl k) ?_
  show own_Fin _ _ _ _ _ _ _ (s₁.setTop (mkF m 28 #[.val (.ref oc), .val (.int (0 : Int32)), .val (.ref ob), .val (.int (0 : Int32)), .val (.int (2 : Int32)), .val (.int (0 : Int32)), .val (.int va)] [(.int (0 : Int32)), (.ref ob)]))
  refine own_Fin.go (fun t k => XS.iload X0.here hx rfl (hb hby own_dcpi2_28) rfl k) ?_
  show own_Fin _ _ _ _ _ _ _ (s₁.setTop (mkF m 30 #[.val (.ref oc), .val (.int (0 : Int32)), .val (.ref ob), .val (.int (0 : Int32)), .val (.int (2 : Int32)), .val (.int (0 : Int32)), .val (.int va)] [(.int va), (.int (0 : Int32)), (.ref ob)]))
  refine own_Fin.go (fun t k => XS.i2b X0.here hx rfl (hb hby own_dcpi2_30) rfl k) ?_
  show own_Fin _ _ _ _ _ _ _ (s₁.setTop (mkF m 31 #[.val (.ref oc), .val (.int (0 : Int32)), .val (.ref ob), .val (.int (0 : Int32)), .val (.int (2 : Int32)), .val (.int (0 : Int32)), .val (.int va)] [(.int (va.toInt8.toInt32)), (.int (0 : Int32)), (.ref ob)]))
  obtain ⟨cl2, Ar2, q2, S2, N2l, H2, G2⟩ := (id V_ob)
  have hin2 : ¬ ((0 : Int32) < 0 ∨ cl2.slots.size ≤ ((0 : Int32)).toNatClampNeg) := inb_of S2 ⟨by decide, by decide⟩
  obtain ⟨T2, h2, X2, e2, W2, st2⟩ := stB X0 hx hZ e0 Ar2 (j := (0 : Int32)) hin2 (g := (mkF m 31 #[.val (.ref oc), .val (.int (0 : Int32)), .val (.ref ob), .val (.int (0 : Int32)), .val (.int (2 : Int32)), .val (.int (0 : Int32)), .val (.int va)] [(.int (va.toInt8.toInt32)), (.int (0 : Int32)), (.ref ob)])) rfl rfl (hb hby own_dcpi2_31)
  refine own_Fin.go st2 ?_
  have V_ob_2 := Arv.set Ar2 q2 S2 N2l H2 G2 (fits_nar_byte _) W2 0 rfl (Nat.le_of_ble_eq_true rfl)
  replace V_ob_2 : Arv Z h2 ob kb .byte (2 : Int32) [(.int (va.toInt8.toInt32).toInt8.toInt32), (.int (0 : Int32))] (.int (0 : Int32)) := V_ob_2
  have V_oc_2 := Arv.other V_oc W2 ne_oc_ob
  have Z2 := Nat.le_trans Z0 (Keep.of_wr W2).1
  have K2 := K0.wr W2 (Or.inl (List.mem_of_getElem? (i := 0) rfl))
  have N2 := Fr.snoc X2 N0 g_ob
  show own_Fin _ _ _ _ _ _ _ (T2.setTop (mkF m 32 #[.val (.ref oc), .val (.int (0 : Int32)), .val (.ref ob), .val (.int (0 : Int32)), .val (.int (2 : Int32)), .val (.int (0 : Int32)), .val (.int va)] []))
  refine own_Fin.go (fun t k => XS.iinc X2.here hx rfl (hb hby own_dcpi2_32) rfl (l' := #[.val (.ref oc), .val (.int ((0 : Int32) + (1 : Int32))), .val (.ref ob), .val (.int (0 : Int32)), .val (.int (2 : Int32)), .val (.int (0 : Int32)), .val (.int va)]) rfl k) ?_
  show own_Fin _ _ _ _ _ _ _ (T2.setTop (mkF m 35 #[.val (.ref oc), .val (.int ((0 : Int32) + (1 : Int32))), .val (.ref ob), .val (.int (0 : Int32)), .val (.int (2 : Int32)), .val (.int (0 : Int32)), .val (.int va)] []))
  rw [show ((0 : Int32) + (1 : Int32)) = (1 : Int32) from by decide +kernel]
  show own_Fin _ _ _ _ _ _ _ (T2.setTop (mkF m 35 #[.val (.ref oc), .val (.int (1 : Int32)), .val (.ref ob), .val (.int (0 : Int32)), .val (.int (2 : Int32)), .val (.int (0 : Int32)), .val (.int va)] []))
  refine own_Fin.go (fun t k => XS.iinc X2.here hx rfl (hb hby own_dcpi2_35) rfl (l' := #[.val (.ref oc), .val (.int (1 : Int32)), .val (.ref ob), .val (.int ((0 : Int32) + (1 : Int32))), .val (.int (2 : Int32)), .val (.int (0 : Int32)), .val (.int va)]) rfl k) ?_
  show own_Fin _ _ _ _ _ _ _ (T2.setTop (mkF m 38 #[.val (.ref oc), .val (.int (1 : Int32)), .val (.ref ob), .val (.int ((0 : Int32) + (1 : Int32))), .val (.int (2 : Int32)), .val (.int (0 : Int32)), .val (.int va)] []))
  rw [show ((0 : Int32) + (1 : Int32)) = (1 : Int32) from by decide +kernel]
  show own_Fin _ _ _ _ _ _ _ (T2.setTop (mkF m 38 #[.val (.ref oc), .val (.int (1 : Int32)), .val (.ref ob), .val (.int (1 : Int32)), .val (.int (2 : Int32)), .val (.int (0 : Int32)), .val (.int va)] []))
  refine own_Fin.go (fun t k => XS.iinc X2.here hx rfl (hb hby own_dcpi2_38) rfl (l' := #[.val (.ref oc), .val (.int (1 : Int32)), .val (.ref ob), .val (.int (1 : Int32)), .val (.int (2 : Int32)), .val (.int ((0 : Int32) + (1 : Int32))), .val (.int va)]) rfl k) ?_
  show own_Fin _ _ _ _ _ _ _ (T2.setTop (mkF m 41 #[.val (.ref oc), .val (.int (1 : Int32)), .val (.ref ob), .val (.int (1 : Int32)), .val (.int (2 : Int32)), .val (.int ((0 : Int32) + (1 : Int32))), .val (.int va)] []))
  rw [show ((0 : Int32) + (1 : Int32)) = (1 : Int32) from by decide +kernel]
  show own_Fin _ _ _ _ _ _ _ (T2.setTop (mkF m 41 #[.val (.ref oc), .val (.int (1 : Int32)), .val (.ref ob), .val (.int (1 : Int32)), .val (.int (2 : Int32)), .val (.int (1 : Int32)), .val (.int va)] []))
  refine own_Fin.go (fun t k => XS.goto X2.here hx rfl (pc0 := 41) (pc' := 3) rfl (hb hby own_dcpi2_41) (by decide) (by decide) k) ?_
  show own_Fin _ _ _ _ _ _ _ (T2.setTop (mkF m 3 #[.val (.ref oc), .val (.int (1 : Int32)), .val (.ref ob), .val (.int (1 : Int32)), .val (.int (2 : Int32)), .val (.int (1 : Int32)), .val (.int va)] []))
  refine own_Fin.go (fun t k => XS.iload X2.here hx rfl (hb hby own_dcpi2_3) rfl k) ?_
  show own_Fin _ _ _ _ _ _ _ (T2.setTop (mkF m 5 #[.val (.ref oc), .val (.int (1 : Int32)), .val (.ref ob), .val (.int (1 : Int32)), .val (.int (2 : Int32)), .val (.int (1 : Int32)), .val (.int va)] [(.int (1 : Int32))]))
  refine own_Fin.go (fun t k => XS.iload X2.here hx rfl (hb hby own_dcpi2_5) rfl k) ?_
  show own_Fin _ _ _ _ _ _ _ (T2.setTop (mkF m 7 #[.val (.ref oc), .val (.int (1 : Int32)), .val (.ref ob), .val (.int (1 : Int32)), .val (.int (2 : Int32)), .val (.int (1 : Int32)), .val (.int va)] [(.int (2 : Int32)), (.int (1 : Int32))]))
  refine own_Fin.go (fun t k => XS.icmpNo X2.here hx rfl (hb hby own_dcpi2_7) rfl (by decide) k) ?_
  show own_Fin _ _ _ _ _ _ _ (T2.setTop (mkF m 10 #[.val (.ref oc), .val (.int (1 : Int32)), .val (.ref ob), .val (.int (1 : Int32)), .val (.int (2 : Int32)), .val (.int (1 : Int32)), .val (.int va)] []))
  refine own_Fin.go (fun t k => XS.aloadN X2.here hx rfl (hb hby own_dcpi2_10) rfl rfl k) ?_
  show own_Fin _ _ _ _ _ _ _ (T2.setTop (mkF m 11 #[.val (.ref oc), .val (.int (1 : Int32)), .val (.ref ob), .val (.int (1 : Int32)), .val (.int (2 : Int32)), .val (.int (1 : Int32)), .val (.int va)] [(.ref oc)]))
  refine own_Fin.go (fun t k => XS.iloadN X2.here hx rfl (hb hby own_dcpi2_11) rfl k) ?_
  show own_Fin _ _ _ _ _ _ _ (T2.setTop (mkF m 12 #[.val (.ref oc), .val (.int (1 : Int32)), .val (.ref ob), .val (.int (1 : Int32)), .val (.int (2 : Int32)), .val (.int (1 : Int32)), .val (.int va)] [(.int (1 : Int32)), (.ref oc)]))
  obtain ⟨cl3, Ar3, q3, S3, N3l, H3, G3⟩ := (id V_oc_2)
  have hin3 : ¬ ((1 : Int32) < 0 ∨ cl3.slots.size ≤ ((1 : Int32)).toNatClampNeg) := inb_of S3 ⟨by decide, by decide⟩
  have hat3 : cl3.slots[((1 : Int32)).toNatClampNeg]? = some (.int vb) := Has.at H3 hin3 rfl
  refine own_Fin.go (fun t k => X2.caload hx (j := (1 : Int32)) (v := (.int vb)) (by rw [e2]; exact Ar3.1) (State.isArrayOf_alike hZ.alike Ar3.2.1) Ar3.2.2 hin3 hat3 (g := (mkF m 12 #[.val (.ref oc), .val (.int (1 : Int32)), .val (.ref ob), .val (.int (1 : Int32)), .val (.int (2 : Int32)), .val (.int (1 : Int32)), .val (.int va)] [(.int (1 : Int32)), (.ref oc)])) rfl rfl (hb hby own_dcpi2_12) t k) ?_
  show own_Fin _ _ _ _ _ _ _ (T2.setTop (mkF m 13 #[.val (.ref oc), .val (.int (1 : Int32)), .val (.ref ob), .val (.int (1 : Int32)), .val (.int (2 : Int32)), .val (.int (1 : Int32)), .val (.int va)] [(.int vb)]))
  refine own_Fin.go (fun t k => XS.istore X2.here hx rfl (hb hby own_dcpi2_13) rfl (l' := #[.val (.ref oc), .val (.int (1 : Int32)), .val (.ref ob), .val (.int (1 : Int32)), .val (.int (2 : Int32)), .val (.int (1 : Int32)), .val (.int vb)]) rfl k) ?_
  show own_Fin _ _ _ _ _ _ _ (T2.setTop (mkF m 15 #[.val (.ref oc), .val (.int (1 : Int32)), .val (.ref ob), .val (.int (1 : Int32)), .val (.int (2 : Int32)), .val (.int (1 : Int32)), .val (.int vb)] []))
  refine own_Fin.go (fun t k => XS.iload X2.here hx rfl (hb hby own_dcpi2_15) rfl k) ?_
  show own_Fin _ _ _ _ _ _ _ (T2.setTop (mkF m 17 #[.val (.ref oc), .val (.int (1 : Int32)), .val (.ref ob), .val (.int (1 : Int32)), .val (.int (2 : Int32)), .val (.int (1 : Int32)), .val (.int vb)] [(.int vb)]))
  refine own_Fin.go (fun t k => XS.sipush X2.here hx rfl (hb hby own_dcpi2_17) k) ?_
  show own_Fin _ _ _ _ _ _ _ (T2.setTop (mkF m 20 #[.val (.ref oc), .val (.int (1 : Int32)), .val (.ref ob), .val (.int (1 : Int32)), .val (.int (2 : Int32)), .val (.int (1 : Int32)), .val (.int vb)] [(.int (255 : Int32)), (.int vb)]))
  have hc20 : ¬ ((255 : Int32) < vb) := hvb
  refine own_Fin.go (fun t k => XS.icmpYes X2.here hx rfl (pc0 := 20) (pc' := 26) rfl (hb hby own_dcpi2_20) rfl (Jvm.Free.XT.ii_le_t hc20) (by decide) (by decide) k) ?_
  show own_Fin _ _ _ _ _ _ _ (T2.setTop (mkF m 26 #[.val (.ref oc), .val (.int (1 : Int32)), .val (.ref ob), .val (.int (1 : Int32)), .val (.int (2 : Int32)), .val (.int (1 : Int32)), .val (.int vb)] []))
  refine own_Fin.go (fun t k => XS.aloadN X2.here hx rfl (hb hby own_dcpi2_26) rfl rfl k) ?_
  show own_Fin _ _ _ _ _ _ _ (T2.setTop (mkF m 27 #[.val (.ref oc), .val (.int (1 : Int32)), .val (.ref ob), .val (.int (1 : Int32)), .val (.int (2 : Int32)), .val (.int (1 : Int32)), .val (.int vb)] [(.ref ob)]))
  refine own_Fin.go (fun t k => XS.iloadN X2.here hx rfl (hb hby own_dcpi2_27) rfl k) ?_
  show own_Fin _ _ _ _ _ _ _ (T2.setTop (mkF m 28 #[.val (.ref oc), .val (.int (1 : Int32)), .val (.ref ob), .val (.int (1 : Int32)), .val (.int (2 : Int32)), .val (.int (1 : Int32)), .val (.int vb)] [(.int (1 : Int32)), (.ref ob)]))
  refine own_Fin.go (fun t k => XS.iload X2.here hx rfl (hb hby own_dcpi2_28) rfl k) ?_
  show own_Fin _ _ _ _ _ _ _ (T2.setTop (mkF m 30 #[.val (.ref oc), .val (.int (1 : Int32)), .val (.ref ob), .val (.int (1 : Int32)), .val (.int (2 : Int32)), .val (.int (1 : Int32)), .val (.int vb)] [(.int vb), (.int (1 : Int32)), (.ref ob)]))
  refine own_Fin.go (fun t k => XS.i2b X2.here hx rfl (hb hby own_dcpi2_30) rfl k) ?_
  show own_Fin _ _ _ _ _ _ _ (T2.setTop (mkF m 31 #[.val (.ref oc), .val (.int (1 : Int32)), .val (.ref ob), .val (.int (1 : Int32)), .val (.int (2 : Int32)), .val (.int (1 : Int32)), .val (.int vb)] [(.int (vb.toInt8.toInt32)), (.int (1 : Int32)), (.ref ob)]))
  obtain ⟨cl4, Ar4, q4, S4, N4l, H4, G4⟩ := (id V_ob_2)
  have hin4 : ¬ ((1 : Int32) < 0 ∨ cl4.slots.size ≤ ((1 : Int32)).toNatClampNeg) := inb_of S4 ⟨by decide, by decide⟩
  obtain ⟨T4, h4, X4, e4, W4, st4⟩ := stB X2 hx hZ e2 Ar4 (j := (1 : Int32)) hin4 (g := (mkF m 31 #[.val (.ref oc), .val (.int (1 : Int32)), .val (.ref ob), .val (.int (1 : Int32)), .val (.int (2 : Int32)), .val (.int (1 : Int32)), .val (.int vb)] [(.int (vb.toInt8.toInt32)), (.int (1 : Int32)), (.ref ob)])) rfl rfl (hb hby own_dcpi2_31)
  refine own_Fin.go st4 ?_
  have V_ob_4 := Arv.set Ar4 q4 S4 N4l H4 G4 (fits_nar_byte _) W4 1 rfl (Nat.le_of_ble_eq_true rfl)
  replace V_ob_4 : Arv Z h4 ob kb .byte (2 : Int32) [(.int (va.toInt8.toInt32).toInt8.toInt32), (.int (vb.toInt8.toInt32).toInt8.toInt32)] (.int (0 : Int32)) := V_ob_4
  have V_oc_4 := Arv.other V_oc_2 W4 ne_oc_ob
  have Z4 := Nat.le_trans Z2 (Keep.of_wr W4).1
  have K4 := K2.wr W4 (Or.inl (List.mem_of_getElem? (i := 0) rfl))
  have N4 := Fr.snoc X4 N2 g_ob
  show own_Fin _ _ _ _ _ _ _ (T4.setTop (mkF m 32 #[.val (.ref oc), .val (.int (1 : Int32)), .val (.ref ob), .val (.int (1 : Int32)), .val (.int (2 : Int32)), .val (.int (1 : Int32)), .val (.int vb)] []))
  refine own_Fin.go (fun t k => XS.iinc X4.here hx rfl (hb hby own_dcpi2_32) rfl (l' := #[.val (.ref oc), .val (.int ((1 : Int32) + (1 : Int32))), .val (.ref ob), .val (.int (1 : Int32)), .val (.int (2 : Int32)), .val (.int (1 : Int32)), .val (.int vb)]) rfl k) ?_
  show own_Fin _ _ _ _ _ _ _ (T4.setTop (mkF m 35 #[.val (.ref oc), .val (.int ((1 : Int32) + (1 : Int32))), .val (.ref ob), .val (.int (1 : Int32)), .val (.int (2 : Int32)), .val (.int (1 : Int32)), .val (.int vb)] []))
  rw [show ((1 : Int32) + (1 : Int32)) = (2 : Int32) from by decide +kernel]
  show own_Fin _ _ _ _ _ _ _ (T4.setTop (mkF m 35 #[.val (.ref oc), .val (.int (2 : Int32)), .val (.ref ob), .val (.int (1 : Int32)), .val (.int (2 : Int32)), .val (.int (1 : Int32)), .val (.int vb)] []))
  refine own_Fin.go (fun t k => XS.iinc X4.here hx rfl (hb hby own_dcpi2_35) rfl (l' := #[.val (.ref oc), .val (.int (2 : Int32)), .val (.ref ob), .val (.int ((1 : Int32) + (1 : Int32))), .val (.int (2 : Int32)), .val (.int (1 : Int32)), .val (.int vb)]) rfl k) ?_
  show own_Fin _ _ _ _ _ _ _ (T4.setTop (mkF m 38 #[.val (.ref oc), .val (.int (2 : Int32)), .val (.ref ob), .val (.int ((1 : Int32) + (1 : Int32))), .val (.int (2 : Int32)), .val (.int (1 : Int32)), .val (.int vb)] []))
  rw [show ((1 : Int32) + (1 : Int32)) = (2 : Int32) from by decide +kernel]
  show own_Fin _ _ _ _ _ _ _ (T4.setTop (mkF m 38 #[.val (.ref oc), .val (.int (2 : Int32)), .val (.ref ob), .val (.int (2 : Int32)), .val (.int (2 : Int32)), .val (.int (1 : Int32)), .val (.int vb)] []))
  refine own_Fin.go (fun t k => XS.iinc X4.here hx rfl (hb hby own_dcpi2_38) rfl (l' := #[.val (.ref oc), .val (.int (2 : Int32)), .val (.ref ob), .val (.int (2 : Int32)), .val (.int (2 : Int32)), .val (.int ((1 : Int32) + (1 : Int32))), .val (.int vb)]) rfl k) ?_
  show own_Fin _ _ _ _ _ _ _ (T4.setTop (mkF m 41 #[.val (.ref oc), .val (.int (2 : Int32)), .val (.ref ob), .val (.int (2 : Int32)), .val (.int (2 : Int32)), .val (.int ((1 : Int32) + (1 : Int32))), .val (.int vb)] []))
  rw [show ((1 : Int32) + (1 : Int32)) = (2 : Int32) from by decide +kernel]
  show own_Fin _ _ _ _ _ _ _ (T4.setTop (mkF m 41 #[.val (.ref oc), .val (.int (2 : Int32)), .val (.ref ob), .val (.int (2 : Int32)), .val (.int (2 : Int32)), .val (.int (2 : Int32)), .val (.int vb)] []))
  refine own_Fin.go (fun t k => XS.goto X4.here hx rfl (pc0 := 41) (pc' := 3) rfl (hb hby own_dcpi2_41) (by decide) (by decide) k) ?_
  show own_Fin _ _ _ _ _ _ _ (T4.setTop (mkF m 3 #[.val (.ref oc), .val (.int (2 : Int32)), .val (.ref ob), .val (.int (2 : Int32)), .val (.int (2 : Int32)), .val (.int (2 : Int32)), .val (.int vb)] []))
  refine own_Fin.go (fun t k => XS.iload X4.here hx rfl (hb hby own_dcpi2_3) rfl k) ?_
  show own_Fin _ _ _ _ _ _ _ (T4.setTop (mkF m 5 #[.val (.ref oc), .val (.int (2 : Int32)), .val (.ref ob), .val (.int (2 : Int32)), .val (.int (2 : Int32)), .val (.int (2 : Int32)), .val (.int vb)] [(.int (2 : Int32))]))
  refine own_Fin.go (fun t k => XS.iload X4.here hx rfl (hb hby own_dcpi2_5) rfl k) ?_
  show own_Fin _ _ _ _ _ _ _ (T4.setTop (mkF m 7 #[.val (.ref oc), .val (.int (2 : Int32)), .val (.ref ob), .val (.int (2 : Int32)), .val (.int (2 : Int32)), .val (.int (2 : Int32)), .val (.int vb)] [(.int (2 : Int32)), (.int (2 : Int32))]))
  refine own_Fin.go (fun t k => XS.icmpYes X4.here hx rfl (pc0 := 7) (pc' := 44) rfl (hb hby own_dcpi2_7) rfl (by decide) (by decide) (by decide) k) ?_
  show own_Fin _ _ _ _ _ _ _ (T4.setTop (mkF m 44 #[.val (.ref oc), .val (.int (2 : Int32)), .val (.ref ob), .val (.int (2 : Int32)), .val (.int (2 : Int32)), .val (.int (2 : Int32)), .val (.int vb)] []))
  refine own_Fin.go (fun t k => XS.iload X4.here hx rfl (hb hby own_dcpi2_44) rfl k) ?_
  show own_Fin _ _ _ _ _ _ _ (T4.setTop (mkF m 46 #[.val (.ref oc), .val (.int (2 : Int32)), .val (.ref ob), .val (.int (2 : Int32)), .val (.int (2 : Int32)), .val (.int (2 : Int32)), .val (.int vb)] [(.int (2 : Int32))]))
  refine own_retI X4 hx Bd.returns (hb hby own_dcpi2_46) Bd.notSynchronized (by decide) (by decide) ?_
  rw [e4]
  exact ⟨rfl, N4, K4, V_ob_4⟩
theorem own_dcpr2_0 : decode jdk_52_method_16_code 0 = .ok (.iload_n 2, 1) := by decide +kernel
theorem own_dcpr2_1 : decode jdk_52_method_16_code 1 = .ok (.newarray .byte, 2) := by decide +kernel
theorem own_dcpr2_3 : decode jdk_52_method_16_code 3 = .ok (.astore_n 3, 1) := by decide +kernel
theorem own_dcpr2_4 : decode jdk_52_method_16_code 4 = .ok (.aload_n 0, 1) := by decide +kernel
theorem own_dcpr2_5 : decode jdk_52_method_16_code 5 = .ok (.iload_n 1, 1) := by decide +kernel
theorem own_dcpr2_6 : decode jdk_52_method_16_code 6 = .ok (.aload_n 3, 1) := by decide +kernel
theorem own_dcpr2_7 : decode jdk_52_method_16_code 7 = .ok (.iconst 0, 1) := by decide +kernel
theorem own_dcpr2_8 : decode jdk_52_method_16_code 8 = .ok (.iload_n 2, 1) := by decide +kernel
theorem own_dcpr2_9 : decode jdk_52_method_16_code 9 = .ok (.invokestatic 115, 3) := by decide +kernel
theorem own_dcpr2_12 : decode jdk_52_method_16_code 12 = .ok (.istore 4, 2) := by decide +kernel
theorem own_dcpr2_14 : decode jdk_52_method_16_code 14 = .ok (.iload 4, 2) := by decide +kernel
theorem own_dcpr2_16 : decode jdk_52_method_16_code 16 = .ok (.iload_n 2, 1) := by decide +kernel
theorem own_dcpr2_17 : decode jdk_52_method_16_code 17 = .ok (.if_icmp .eq 40, 3) := by decide +kernel
theorem own_dcpr2_57 : decode jdk_52_method_16_code 57 = .ok (.aload_n 3, 1) := by decide +kernel
theorem own_dcpr2_58 : decode jdk_52_method_16_code 58 = .ok (.areturn, 1) := by decide +kernel
theorem own_ef_cpr2 (m : MethodId) (oc : Addr) : entryFrame m #[(.ref oc), (.int (0 : Int32)), (.int (2 : Int32))] 6 = mkF m 0 #[.val (.ref oc), .val (.int (0 : Int32)), .val (.int (2 : Int32)), .unset, .unset, .unset] [] := by first | (simp [entryFrame, mkF, argsToLocals, Value.category]; done) | rfl
def own_Q_cpr2 (Z : State) (oc : Addr) (kc : ClassId) (va : Int32) (vb : Int32) (h0 : Heap) (n0 : Nat) (v : Option Value) (h : Heap) (L : List Loc) : Prop := ∃ ob : Addr, ∃ kb : ClassId, v = some (.ref ob) ∧ Fr n0 L ∧ Keep h0 h [] ∧ Arv Z h ob kb .byte (2 : Int32) [(.int (va.toInt8.toInt32).toInt8.toInt32), (.int (vb.toInt8.toInt32).toInt8.toInt32)] (.int (0 : Int32)) ∧ h0.size ≤ ob
set_option maxRecDepth 65536 in
set_option maxHeartbeats 40000000 in
theorem own_rm_cpr2 (l : Launch) (Z : State) (a0 : Array Value) (hw : ∀ d ∈ tables_1, d.before a0 Z = true) (ws : List Jvm.Cond) (oc : Addr) (kc : ClassId) (va : Int32) (vb : Int32) (h0 : Heap) (n0 : Nat) (Z0 : n0 ≤ h0.size) (V_oc : Arv Z h0 oc kc .char (2 : Int32) [(.int va), (.int vb)] (.int (0 : Int32))) (hva : ¬ (255 : Int32) < va) (hvb : ¬ (255 : Int32) < vb) :
    MetFree l (⟨"java/lang/StringUTF16", "compress", "([CII)[B"⟩ : MethodName) (head1 (Jvm.Cond.code (⟨"java/lang/StringUTF16", "compress", "([CII)[B"⟩ : MethodName) jdk_52_method_16_code 6 (some (.array .byte)) :: ws) ({ frames := 1, cells := 1, slots := 2, locals := 18 } : Room)) (fun a U => a = #[(.ref oc), (.int (0 : Int32)), (.int (2 : Int32))] ∧ Z.Warmed39 U.vm ∧ U.heap = h0) (fun _ _ _ _ _ => True) (fun _ U o U' => ∃ v L, o = .returned v ∧ own_Q_cpr2 Z oc kc va vb h0 n0 v U'.heap L ∧ FrameEnd U o U' L ({ frames := 1, cells := 1, slots := 2, locals := 18 } : Room).cells ({ frames := 1, cells := 1, slots := 2, locals := 18 } : Room).slots) := by
  refine MetFree.of_bodySF (plainFor_of_name own_pn10) hisR ?_
  intro p e s m args below meth c s₁ Bd hml0 hP hK
  obtain ⟨rfl, hZ, hh⟩ := hP
  have hx := Bd.exec
  have hby := Bd.bytes
  have hml : c.maxLocals = 6 := hml0
  have hown : s.vm.findClass "java/lang/StringUTF16" = some m.cls := findClass_of_methodNamed Bd.named
  have hnm := (name_of_methodNamed Bd.named Bd.method).1
  have X0 : Stand p l e ({ frames := 1, cells := 1, slots := 2, locals := 18 } : Room) s m #[(.ref oc), (.int (0 : Int32)), (.int (2 : Int32))] below meth c s₁ [] 0 0 := Stand.of_body Bd
  have e0 : s₁.heap = h0 := by rw [← hh, Bd.state]; rfl
  have N0 := Fr.nil n0
  have K0 := Keep.refl h0 []
  show own_Fin p e below s (own_Q_cpr2 Z oc kc va vb h0 n0) ({ frames := 1, cells := 1, slots := 2, locals := 18 } : Room).cells ({ frames := 1, cells := 1, slots := 2, locals := 18 } : Room).slots (s₁.setTop (entryFrame m #[(.ref oc), (.int (0 : Int32)), (.int (2 : Int32))] 6))
  refine own_Fin.go (fun t k => castTop (own_ef_cpr2 m oc) k) ?_
  refine own_Fin.go (fun t k => XS.iloadN X0.here hx rfl (hb hby own_dcpr2_0) rfl k) ?_
  show own_Fin _ _ _ _ _ _ _ (s₁.setTop (mkF m 1 #[.val (.ref oc), .val (.int (0 : Int32)), .val (.int (2 : Int32)), .unset, .unset, .unset] [(.int (2 : Int32))]))
  obtain ⟨T1, h1, k1, X1, e1, E1, A1, st1⟩ := newP X0 hx hZ (hw _ (List.mem_of_getElem? (i := 19) rfl)) e0 (g := (mkF m 1 #[.val (.ref oc), .val (.int (0 : Int32)), .val (.int (2 : Int32)), .unset, .unset, .unset] [(.int (2 : Int32))])) rfl (hb hby own_dcpr2_1) rfl (by decide) (cap := 2) (by decide) (by decide) (by decide) (by decide)
  obtain ⟨b1, g1⟩ : ∃ z, z = h0.size := ⟨_, rfl⟩
  rw [← g1] at A1 st1
  refine own_Fin.go st1 ?_
  have g_b1 : n0 ≤ b1 := Nat.le_trans Z0 (Nat.le_of_eq g1.symm)
  have sz_b1 : h0.size ≤ b1 := Nat.le_trans K0.1 (Nat.le_of_eq g1.symm)
  have ne_oc_b1 : oc ≠ b1 := Nat.ne_of_lt (Nat.lt_of_lt_of_le V_oc.lt (Nat.le_of_eq g1.symm))
  have V_oc_1 := V_oc.ext E1
  have Z1 := Nat.le_trans Z0 E1.1
  have K1 := K0.ext E1
  have V_b1 : Arv Z h1 b1 k1 .byte (2 : Int32) [(.int (0 : Int32)), (.int (0 : Int32))] (.int (0 : Int32)) := (Arv.new A1 (by decide)).pad (pad_rep [] (.int (0 : Int32)) 2)
  show own_Fin _ _ _ _ _ _ _ (T1.setTop (mkF m 3 #[.val (.ref oc), .val (.int (0 : Int32)), .val (.int (2 : Int32)), .unset, .unset, .unset] [(.ref b1)]))
  refine own_Fin.go (fun t k => XS.astoreN X1.here hx rfl (hb hby own_dcpr2_3) rfl rfl (l' := #[.val (.ref oc), .val (.int (0 : Int32)), .val (.int (2 : Int32)), .val (.ref b1), .unset, .unset]) rfl k) ?_
  show own_Fin _ _ _ _ _ _ _ (T1.setTop (mkF m 4 #[.val (.ref oc), .val (.int (0 : Int32)), .val (.int (2 : Int32)), .val (.ref b1), .unset, .unset] []))
  refine own_Fin.go (fun t k => XS.aloadN X1.here hx rfl (hb hby own_dcpr2_4) rfl rfl k) ?_
  show own_Fin _ _ _ _ _ _ _ (T1.setTop (mkF m 5 #[.val (.ref oc), .val (.int (0 : Int32)), .val (.int (2 : Int32)), .val (.ref b1), .unset, .unset] [(.ref oc)]))
  refine own_Fin.go (fun t k => XS.iloadN X1.here hx rfl (hb hby own_dcpr2_5) rfl k) ?_
  show own_Fin _ _ _ _ _ _ _ (T1.setTop (mkF m 6 #[.val (.ref oc), .val (.int (0 : Int32)), .val (.int (2 : Int32)), .val (.ref b1), .unset, .unset] [(.int (0 : Int32)), (.ref oc)]))
  refine own_Fin.go (fun t k => XS.aloadN X1.here hx rfl (hb hby own_dcpr2_6) rfl rfl k) ?_
  show own_Fin _ _ _ _ _ _ _ (T1.setTop (mkF m 7 #[.val (.ref oc), .val (.int (0 : Int32)), .val (.int (2 : Int32)), .val (.ref b1), .unset, .unset] [(.ref b1), (.int (0 : Int32)), (.ref oc)]))
  refine own_Fin.go (fun t k => XS.iconst X1.here hx rfl (hb hby own_dcpr2_7) k) ?_
  show own_Fin _ _ _ _ _ _ _ (T1.setTop (mkF m 8 #[.val (.ref oc), .val (.int (0 : Int32)), .val (.int (2 : Int32)), .val (.ref b1), .unset, .unset] [(.int (0 : Int32)), (.ref b1), (.int (0 : Int32)), (.ref oc)]))
  refine own_Fin.go (fun t k => XS.iloadN X1.here hx rfl (hb hby own_dcpr2_8) rfl k) ?_
  show own_Fin _ _ _ _ _ _ _ (T1.setTop (mkF m 9 #[.val (.ref oc), .val (.int (0 : Int32)), .val (.int (2 : Int32)), .val (.ref b1), .unset, .unset] [(.int (2 : Int32)), (.int (0 : Int32)), (.ref b1), (.int (0 : Int32)), (.ref oc)]))
  obtain ⟨_, _, ⟨T2, L2, k2, n2⟩, -, X2, ⟨Lc2, hQ2, l2, y2, z2⟩, st2⟩ := Jvm.LawKit.callS X1 hx (y := (⟨"java/lang/StringUTF16", "compress", "([CI[BII)I"⟩ : MethodName)) hown (mvT hZ (hw _ (List.mem_of_getElem? (i := 131) rfl))) (mvT hZ (hw _ (List.mem_of_getElem? (i := 132) rfl))) (mvT hZ (hw _ (List.mem_of_getElem? (i := 129) rfl))) (mvT hZ (hw _ (List.mem_of_getElem? (i := 133) rfl))) (by decide) (backOf (W := 0) (own_rm_cpi2 l Z a0 hw [] oc b1 kc k1 va vb h1 n0 Z1 V_oc_1 V_b1 ne_oc_b1 g_b1 hva hvb) hZ (hw _ (List.mem_of_getElem? (i := 133) rfl)) (hw _ (List.mem_of_getElem? (i := 129) rfl)) (by decide) (by decide)) (g := (mkF m 9 #[.val (.ref oc), .val (.int (0 : Int32)), .val (.int (2 : Int32)), .val (.ref b1), .unset, .unset] [(.int (2 : Int32)), (.int (0 : Int32)), (.ref b1), (.int (0 : Int32)), (.ref oc)])) rfl (by rw [hml]; rfl) (argsL := [(.ref oc), (.int (0 : Int32)), (.ref b1), (.int (0 : Int32)), (.int (2 : Int32))]) (rest := []) (lenOf own_pd4 rfl) rfl (by show 2 * 0 + _ ≤ _; exact Nat.le_of_eq rfl) (hb hby own_dcpr2_9) (fun _ _ => ⟨rfl, e1, (by decide : 1 + 0 ≤ _), (by decide : 2 + 0 ≤ _)⟩)
  dsimp only [Pt.U, Pt.locs, Pt.cells, Pt.slots] at X2 l2 y2 z2 st2 hQ2
  subst l2 y2 z2
  obtain ⟨rfl, N2q, K2q, c2_1⟩ := hQ2
  refine own_Fin.go (fun t k => st2 t k) ?_
  have N2 := Fr.app N0 N2q
  have V_oc_2 := V_oc_1.keep K2q (ninS ne_oc_b1 nin0)
  have Z2 := Nat.le_trans Z1 K2q.1
  have K2 := K1.trans K2q (allS (Or.inr sz_b1) all0)
  show own_Fin _ _ _ _ _ _ _ (T2.setTop (mkF m 12 #[.val (.ref oc), .val (.int (0 : Int32)), .val (.int (2 : Int32)), .val (.ref b1), .unset, .unset] [(.int (2 : Int32))]))
  refine own_Fin.go (fun t k => XS.istore X2.here hx rfl (hb hby own_dcpr2_12) rfl (l' := #[.val (.ref oc), .val (.int (0 : Int32)), .val (.int (2 : Int32)), .val (.ref b1), .val (.int (2 : Int32)), .unset]) rfl k) ?_
  show own_Fin _ _ _ _ _ _ _ (T2.setTop (mkF m 14 #[.val (.ref oc), .val (.int (0 : Int32)), .val (.int (2 : Int32)), .val (.ref b1), .val (.int (2 : Int32)), .unset] []))
  refine own_Fin.go (fun t k => XS.iload X2.here hx rfl (hb hby own_dcpr2_14) rfl k) ?_
  show own_Fin _ _ _ _ _ _ _ (T2.setTop (mkF m 16 #[.val (.ref oc), .val (.int (0 : Int32)), .val (.int (2 : Int32)), .val (.ref b1), .val (.int (2 : Int32)), .unset] [(.int (2 : Int32))]))
  refine own_Fin.go (fun t k => XS.iloadN X2.here hx rfl (hb hby own_dcpr2_16) rfl k) ?_
  show own_Fin _ _ _ _ _ _ _ (T2.setTop (mkF m 17 #[.val (.ref oc), .val (.int (0 : Int32)), .val (.int (2 : Int32)), .val (.ref b1), .val (.int (2 : Int32)), .unset] [(.int (2 : Int32)), (.int (2 : Int32))]))
  refine own_Fin.go (fun t k => XS.icmpYes X2.here hx rfl (pc0 := 17) (pc' := 57) rfl (hb hby own_dcpr2_17) rfl (by decide) (by decide) (by decide) k) ?_
  show own_Fin _ _ _ _ _ _ _ (T2.setTop (mkF m 57 #[.val (.ref oc), .val (.int (0 : Int32)), .val (.int (2 : Int32)), .val (.ref b1), .val (.int (2 : Int32)), .unset] []))
  refine own_Fin.go (fun t k => XS.aloadN X2.here hx rfl (hb hby own_dcpr2_57) rfl rfl k) ?_
  show own_Fin _ _ _ _ _ _ _ (T2.setTop (mkF m 58 #[.val (.ref oc), .val (.int (0 : Int32)), .val (.int (2 : Int32)), .val (.ref b1), .val (.int (2 : Int32)), .unset] [(.ref b1)]))
  refine own_retA X2 hx Bd.returns rfl (hb hby own_dcpr2_58) Bd.notSynchronized (by decide) (by decide) ?_
  exact ⟨_, k1, rfl, N2, K2, c2_1, sz_b1⟩
theorem own_dcfa2_0 : decode jdk_52_method_15_code 0 = .ok (.iload_n 1, 1) := by decide +kernel
theorem own_dcfa2_1 : decode jdk_52_method_15_code 1 = .ok (.aload_n 0, 1) := by decide +kernel
theorem own_dcfa2_2 : decode jdk_52_method_15_code 2 = .ok (.arraylength, 1) := by decide +kernel
theorem own_dcfa2_3 : decode jdk_52_method_15_code 3 = .ok (.isub, 1) := by decide +kernel
theorem own_dcfa2_4 : decode jdk_52_method_15_code 4 = .ok (.bipush 31, 2) := by decide +kernel
theorem own_dcfa2_6 : decode jdk_52_method_15_code 6 = .ok (.iushr, 1) := by decide +kernel
theorem own_dcfa2_7 : decode jdk_52_method_15_code 7 = .ok (.i2b, 1) := by decide +kernel
theorem own_dcfa2_8 : decode jdk_52_method_15_code 8 = .ok (.ireturn, 1) := by decide +kernel
theorem own_ef_cfa2 (m : MethodId) (ob : Addr) : entryFrame m #[(.ref ob), (.int (2 : Int32))] 2 = mkF m 0 #[.val (.ref ob), .val (.int (2 : Int32))] [] := by first | (simp [entryFrame, mkF, argsToLocals, Value.category]; done) | rfl
def own_Q_cfa2 (Z : State) (ob : Addr) (kb : ClassId) (va : Int32) (vb : Int32) (h0 : Heap) (n0 : Nat) (v : Option Value) (h : Heap) (L : List Loc) : Prop := v = some (.int (0 : Int32)) ∧ Fr n0 L ∧ h = h0
set_option maxRecDepth 65536 in
set_option maxHeartbeats 40000000 in
theorem own_rm_cfa2 (l : Launch) (Z : State) (a0 : Array Value) (hw : ∀ d ∈ tables_1, d.before a0 Z = true) (ws : List Jvm.Cond) (ob : Addr) (kb : ClassId) (va : Int32) (vb : Int32) (h0 : Heap) (n0 : Nat) (Z0 : n0 ≤ h0.size) (V_ob : Arv Z h0 ob kb .byte (2 : Int32) [(.int (va.toInt8.toInt32).toInt8.toInt32), (.int (vb.toInt8.toInt32).toInt8.toInt32)] (.int (0 : Int32))) :
    MetFree l (⟨"java/lang/StringUTF16", "coderFromArrayLen", "([BI)B"⟩ : MethodName) (head1 (Jvm.Cond.code (⟨"java/lang/StringUTF16", "coderFromArrayLen", "([BI)B"⟩ : MethodName) jdk_52_method_15_code 2 (some .byte) :: ws) ({ frames := 0, cells := 0, slots := 0, locals := 0 } : Room)) (fun a U => a = #[(.ref ob), (.int (2 : Int32))] ∧ Z.Warmed39 U.vm ∧ U.heap = h0) (fun _ _ _ _ _ => True) (fun _ U o U' => ∃ v L, o = .returned v ∧ own_Q_cfa2 Z ob kb va vb h0 n0 v U'.heap L ∧ FrameEnd U o U' L ({ frames := 0, cells := 0, slots := 0, locals := 0 } : Room).cells ({ frames := 0, cells := 0, slots := 0, locals := 0 } : Room).slots) := by
  refine MetFree.of_bodySF (plainFor_of_name own_pn10) hisR ?_
  intro p e s m args below meth c s₁ Bd hml0 hP hK
  obtain ⟨rfl, hZ, hh⟩ := hP
  have hx := Bd.exec
  have hby := Bd.bytes
  have hml : c.maxLocals = 2 := hml0
  have hown : s.vm.findClass "java/lang/StringUTF16" = some m.cls := findClass_of_methodNamed Bd.named
  have hnm := (name_of_methodNamed Bd.named Bd.method).1
  have X0 : Stand p l e ({ frames := 0, cells := 0, slots := 0, locals := 0 } : Room) s m #[(.ref ob), (.int (2 : Int32))] below meth c s₁ [] 0 0 := Stand.of_body Bd
  have e0 : s₁.heap = h0 := by rw [← hh, Bd.state]; rfl
  have N0 := Fr.nil n0
  show own_Fin p e below s (own_Q_cfa2 Z ob kb va vb h0 n0) ({ frames := 0, cells := 0, slots := 0, locals := 0 } : Room).cells ({ frames := 0, cells := 0, slots := 0, locals := 0 } : Room).slots (s₁.setTop (entryFrame m #[(.ref ob), (.int (2 : Int32))] 2))
  refine own_Fin.go (fun t k => castTop (own_ef_cfa2 m ob) k) ?_
  refine own_Fin.go (fun t k => XS.iloadN X0.here hx rfl (hb hby own_dcfa2_0) rfl k) ?_
  show own_Fin _ _ _ _ _ _ _ (s₁.setTop (mkF m 1 #[.val (.ref ob), .val (.int (2 : Int32))] [(.int (2 : Int32))]))
  refine own_Fin.go (fun t k => XS.aloadN X0.here hx rfl (hb hby own_dcfa2_1) rfl rfl k) ?_
  show own_Fin _ _ _ _ _ _ _ (s₁.setTop (mkF m 2 #[.val (.ref ob), .val (.int (2 : Int32))] [(.ref ob), (.int (2 : Int32))]))
  obtain ⟨cl1, Ar1, -, S1, N1l, -, -⟩ := (id V_ob)
  refine own_Fin.go (fun t k => X0.arraylength hx (by rw [e0]; exact Ar1.1) (State.isArrayOf_alike hZ.alike Ar1.2.1) (g := (mkF m 2 #[.val (.ref ob), .val (.int (2 : Int32))] [(.ref ob), (.int (2 : Int32))])) rfl rfl (hb hby own_dcfa2_2) t k) ?_
  rw [len_of S1 N1l]
  show own_Fin _ _ _ _ _ _ _ (s₁.setTop (mkF m 3 #[.val (.ref ob), .val (.int (2 : Int32))] [(.int (2 : Int32)), (.int (2 : Int32))]))
  refine own_Fin.go (fun t k => XS.isub X0.here hx rfl (hb hby own_dcfa2_3) rfl k) ?_
  show own_Fin _ _ _ _ _ _ _ (s₁.setTop (mkF m 4 #[.val (.ref ob), .val (.int (2 : Int32))] [(.int ((2 : Int32) - (2 : Int32)))]))
  rw [show ((2 : Int32) - (2 : Int32)) = (0 : Int32) from by decide +kernel]
  show own_Fin _ _ _ _ _ _ _ (s₁.setTop (mkF m 4 #[.val (.ref ob), .val (.int (2 : Int32))] [(.int (0 : Int32))]))
  refine own_Fin.go (fun t k => XS.bipush X0.here hx rfl (hb hby own_dcfa2_4) k) ?_
  show own_Fin _ _ _ _ _ _ _ (s₁.setTop (mkF m 6 #[.val (.ref ob), .val (.int (2 : Int32))] [(.int (31 : Int32)), (.int (0 : Int32))]))
  refine own_Fin.go (fun t k => XS.iushr X0.here hx rfl (hb hby own_dcfa2_6) rfl k) ?_
  show own_Fin _ _ _ _ _ _ _ (s₁.setTop (mkF m 7 #[.val (.ref ob), .val (.int (2 : Int32))] [(.int (((0 : Int32).toUInt32 >>> ((31 : Int32) &&& 31).toUInt32).toInt32))]))
  rw [show (((0 : Int32).toUInt32 >>> ((31 : Int32) &&& 31).toUInt32).toInt32) = (0 : Int32) from by decide +kernel]
  show own_Fin _ _ _ _ _ _ _ (s₁.setTop (mkF m 7 #[.val (.ref ob), .val (.int (2 : Int32))] [(.int (0 : Int32))]))
  refine own_Fin.go (fun t k => XS.i2b X0.here hx rfl (hb hby own_dcfa2_7) rfl k) ?_
  show own_Fin _ _ _ _ _ _ _ (s₁.setTop (mkF m 8 #[.val (.ref ob), .val (.int (2 : Int32))] [(.int ((0 : Int32).toInt8.toInt32))]))
  rw [show ((0 : Int32).toInt8.toInt32) = (0 : Int32) from by decide +kernel]
  show own_Fin _ _ _ _ _ _ _ (s₁.setTop (mkF m 8 #[.val (.ref ob), .val (.int (2 : Int32))] [(.int (0 : Int32))]))
  refine own_retN X0 hx (t := .byte) (w := (0 : Int32)) Bd.returns (by simp) (hb hby own_dcfa2_8) Bd.notSynchronized rfl (by decide) (by decide) ?_
  rw [e0]
  exact ⟨rfl, N0, rfl⟩
theorem own_dsiv2_0 : decode jdk_42_method_149_code 0 = .ok (.aload_n 0, 1) := by decide +kernel
theorem own_dsiv2_1 : decode jdk_42_method_149_code 1 = .ok (.invokespecial 1, 3) := by decide +kernel
theorem own_dsiv2_4 : decode jdk_42_method_149_code 4 = .ok (.iload_n 3, 1) := by decide +kernel
theorem own_dsiv2_5 : decode jdk_42_method_149_code 5 = .ok (.ifCond .ne 22, 3) := by decide +kernel
theorem own_dsiv2_27 : decode jdk_42_method_149_code 27 = .ok (.getstatic 38, 3) := by decide +kernel
theorem own_dsiv2_30 : decode jdk_42_method_149_code 30 = .ok (.ifCond .eq 28, 3) := by decide +kernel
theorem own_dsiv2_33 : decode jdk_42_method_149_code 33 = .ok (.aload_n 1, 1) := by decide +kernel
theorem own_dsiv2_34 : decode jdk_42_method_149_code 34 = .ok (.iload_n 2, 1) := by decide +kernel
theorem own_dsiv2_35 : decode jdk_42_method_149_code 35 = .ok (.iload_n 3, 1) := by decide +kernel
theorem own_dsiv2_36 : decode jdk_42_method_149_code 36 = .ok (.invokestatic 177, 3) := by decide +kernel
theorem own_dsiv2_39 : decode jdk_42_method_149_code 39 = .ok (.astore 5, 2) := by decide +kernel
theorem own_dsiv2_41 : decode jdk_42_method_149_code 41 = .ok (.aload_n 0, 1) := by decide +kernel
theorem own_dsiv2_42 : decode jdk_42_method_149_code 42 = .ok (.aload 5, 2) := by decide +kernel
theorem own_dsiv2_44 : decode jdk_42_method_149_code 44 = .ok (.iload_n 3, 1) := by decide +kernel
theorem own_dsiv2_45 : decode jdk_42_method_149_code 45 = .ok (.invokestatic 47, 3) := by decide +kernel
theorem own_dsiv2_48 : decode jdk_42_method_149_code 48 = .ok (.putfield 15, 3) := by decide +kernel
theorem own_dsiv2_51 : decode jdk_42_method_149_code 51 = .ok (.aload_n 0, 1) := by decide +kernel
theorem own_dsiv2_52 : decode jdk_42_method_149_code 52 = .ok (.aload 5, 2) := by decide +kernel
theorem own_dsiv2_54 : decode jdk_42_method_149_code 54 = .ok (.putfield 9, 3) := by decide +kernel
theorem own_dsiv2_57 : decode jdk_42_method_149_code 57 = .ok (.return_, 1) := by decide +kernel
theorem own_ef_siv2 (m : MethodId) (oa : Addr) (oc : Addr) : entryFrame m #[(.ref oa), (.ref oc), (.int (0 : Int32)), (.int (2 : Int32)), .null] 6 = mkF m 0 #[.val (.ref oa), .val (.ref oc), .val (.int (0 : Int32)), .val (.int (2 : Int32)), .val .null, .unset] [] := by first | (simp [entryFrame, mkF, argsToLocals, Value.category]; done) | rfl
def own_Q_siv2 (Z : State) (oa : Addr) (oc : Addr) (kc : ClassId) (vcs : Int32) (va : Int32) (vb : Int32) (h0 : Heap) (n0 : Nat) (v : Option Value) (h : Heap) (L : List Loc) : Prop := v = none ∧ Fr n0 L ∧ Keep h0 h [oa] ∧ Exa Z h oa "java/lang/String"
set_option maxRecDepth 65536 in
set_option maxHeartbeats 40000000 in
theorem own_rm_siv2 (l : Launch) (Z : State) (a0 : Array Value) (hw : ∀ d ∈ tables_1, d.before a0 Z = true) (ws : List Jvm.Cond) (oa : Addr) (oc : Addr) (kc : ClassId) (vcs : Int32) (va : Int32) (vb : Int32) (h0 : Heap) (n0 : Nat) (Z0 : n0 ≤ h0.size) (E_oa : Exa Z h0 oa "java/lang/String") (F_oa_value : Fld Z h0 oa "java/lang/String" "value" "[B" .null) (F_oa_coder : Fld Z h0 oa "java/lang/String" "coder" "B" (.int (0 : Int32))) (g_oa : n0 ≤ oa) (V_oc : Arv Z h0 oc kc .char (2 : Int32) [(.int va), (.int vb)] (.int (0 : Int32))) (ne_oa_oc : oa ≠ oc) (S_COMPACT_STRINGS : Sta Z h0 "java/lang/String" "COMPACT_STRINGS" "Z" (.int vcs)) (hcs : ¬ vcs = 0) (hva : ¬ (255 : Int32) < va) (hvb : ¬ (255 : Int32) < vb) :
    MetFree l (⟨"java/lang/String", "<init>", "([CIILjava/lang/Void;)V"⟩ : MethodName) (head1 (Jvm.Cond.code (⟨"java/lang/String", "<init>", "([CIILjava/lang/Void;)V"⟩ : MethodName) jdk_42_method_149_code 6 none :: ws) ({ frames := 2, cells := 1, slots := 2, locals := 35 } : Room)) (fun a U => a = #[(.ref oa), (.ref oc), (.int (0 : Int32)), (.int (2 : Int32)), .null] ∧ Z.Warmed39 U.vm ∧ U.heap = h0) (fun _ _ _ _ _ => True) (fun _ U o U' => ∃ v L, o = .returned v ∧ own_Q_siv2 Z oa oc kc vcs va vb h0 n0 v U'.heap L ∧ FrameEnd U o U' L ({ frames := 2, cells := 1, slots := 2, locals := 35 } : Room).cells ({ frames := 2, cells := 1, slots := 2, locals := 35 } : Room).slots) := by
  refine MetFree.of_bodySF (plainFor_of_name own_pn8) hisR ?_
  intro p e s m args below meth c s₁ Bd hml0 hP hK
  obtain ⟨rfl, hZ, hh⟩ := hP
  have hx := Bd.exec
  have hby := Bd.bytes
  have hml : c.maxLocals = 6 := hml0
  have hown : s.vm.findClass "java/lang/String" = some m.cls := findClass_of_methodNamed Bd.named
  have hnm := (name_of_methodNamed Bd.named Bd.method).1
  have X0 : Stand p l e ({ frames := 2, cells := 1, slots := 2, locals := 35 } : Room) s m #[(.ref oa), (.ref oc), (.int (0 : Int32)), (.int (2 : Int32)), .null] below meth c s₁ [] 0 0 := Stand.of_body Bd
  have e0 : s₁.heap = h0 := by rw [← hh, Bd.state]; rfl
  have N0 := Fr.nil n0
  have K0 := Keep.refl h0 [oa]
  show own_Fin p e below s (own_Q_siv2 Z oa oc kc vcs va vb h0 n0) ({ frames := 2, cells := 1, slots := 2, locals := 35 } : Room).cells ({ frames := 2, cells := 1, slots := 2, locals := 35 } : Room).slots (s₁.setTop (entryFrame m #[(.ref oa), (.ref oc), (.int (0 : Int32)), (.int (2 : Int32)), .null] 6))
  refine own_Fin.go (fun t k => castTop (own_ef_siv2 m oa oc) k) ?_
  refine own_Fin.go (fun t k => XS.aloadN X0.here hx rfl (hb hby own_dsiv2_0) rfl rfl k) ?_
  show own_Fin _ _ _ _ _ _ _ (s₁.setTop (mkF m 1 #[.val (.ref oa), .val (.ref oc), .val (.int (0 : Int32)), .val (.int (2 : Int32)), .val .null, .unset] [(.ref oa)]))
  obtain ⟨T1, X1, e1, st1⟩ := initO X0 hx hZ hown (hw _ (List.mem_of_getElem? (i := 15) rfl)) (hw _ (List.mem_of_getElem? (i := 16) rfl)) (hw _ (List.mem_of_getElem? (i := 17) rfl)) e0 (g := (mkF m 1 #[.val (.ref oa), .val (.ref oc), .val (.int (0 : Int32)), .val (.int (2 : Int32)), .val .null, .unset] [(.ref oa)])) rfl (by rw [hml]; rfl) rfl (hb hby own_dsiv2_1) (by decide) (W := 0) (by show 2 * 0 + _ ≤ _; exact Nat.le_of_eq rfl) (by decide)
  refine own_Fin.go st1 ?_
  show own_Fin _ _ _ _ _ _ _ (T1.setTop (mkF m 4 #[.val (.ref oa), .val (.ref oc), .val (.int (0 : Int32)), .val (.int (2 : Int32)), .val .null, .unset] []))
  refine own_Fin.go (fun t k => XS.iloadN X1.here hx rfl (hb hby own_dsiv2_4) rfl k) ?_
  show own_Fin _ _ _ _ _ _ _ (T1.setTop (mkF m 5 #[.val (.ref oa), .val (.ref oc), .val (.int (0 : Int32)), .val (.int (2 : Int32)), .val .null, .unset] [(.int (2 : Int32))]))
  refine own_Fin.go (fun t k => XS.ifYes X1.here hx rfl (pc0 := 5) (pc' := 27) rfl (hb hby own_dsiv2_5) rfl (by decide) (by decide) (by decide) k) ?_
  show own_Fin _ _ _ _ _ _ _ (T1.setTop (mkF m 27 #[.val (.ref oa), .val (.ref oc), .val (.int (0 : Int32)), .val (.int (2 : Int32)), .val .null, .unset] []))
  obtain ⟨T2, X2, e2, st2⟩ := getS2 X1 hx hZ hown (host := "") (Or.inl (hw _ (List.mem_of_getElem? (i := 126) rfl))) Via.refl e1 S_COMPACT_STRINGS (g := (mkF m 27 #[.val (.ref oa), .val (.ref oc), .val (.int (0 : Int32)), .val (.int (2 : Int32)), .val .null, .unset] [])) rfl (hb hby own_dsiv2_27)
  refine own_Fin.go st2 ?_
  show own_Fin _ _ _ _ _ _ _ (T2.setTop (mkF m 30 #[.val (.ref oa), .val (.ref oc), .val (.int (0 : Int32)), .val (.int (2 : Int32)), .val .null, .unset] [(.int vcs)]))
  have hc30 : ¬ (vcs = (0 : Int32)) := hcs
  refine own_Fin.go (fun t k => XS.ifNo X2.here hx rfl (hb hby own_dsiv2_30) rfl (Jvm.Free.XT.i0_eq_f hc30) k) ?_
  show own_Fin _ _ _ _ _ _ _ (T2.setTop (mkF m 33 #[.val (.ref oa), .val (.ref oc), .val (.int (0 : Int32)), .val (.int (2 : Int32)), .val .null, .unset] []))
  refine own_Fin.go (fun t k => XS.aloadN X2.here hx rfl (hb hby own_dsiv2_33) rfl rfl k) ?_
  show own_Fin _ _ _ _ _ _ _ (T2.setTop (mkF m 34 #[.val (.ref oa), .val (.ref oc), .val (.int (0 : Int32)), .val (.int (2 : Int32)), .val .null, .unset] [(.ref oc)]))
  refine own_Fin.go (fun t k => XS.iloadN X2.here hx rfl (hb hby own_dsiv2_34) rfl k) ?_
  show own_Fin _ _ _ _ _ _ _ (T2.setTop (mkF m 35 #[.val (.ref oa), .val (.ref oc), .val (.int (0 : Int32)), .val (.int (2 : Int32)), .val .null, .unset] [(.int (0 : Int32)), (.ref oc)]))
  refine own_Fin.go (fun t k => XS.iloadN X2.here hx rfl (hb hby own_dsiv2_35) rfl k) ?_
  show own_Fin _ _ _ _ _ _ _ (T2.setTop (mkF m 36 #[.val (.ref oa), .val (.ref oc), .val (.int (0 : Int32)), .val (.int (2 : Int32)), .val .null, .unset] [(.int (2 : Int32)), (.int (0 : Int32)), (.ref oc)]))
  obtain ⟨_, _, ⟨T3, L3, k3, n3⟩, -, X3, ⟨Lc3, hQ3, l3, y3, z3⟩, st3⟩ := Jvm.LawKit.callS X2 hx (y := (⟨"java/lang/StringUTF16", "compress", "([CII)[B"⟩ : MethodName)) hown (mvT hZ (hw _ (List.mem_of_getElem? (i := 127) rfl))) (mvT hZ (hw _ (List.mem_of_getElem? (i := 128) rfl))) (mvT hZ (hw _ (List.mem_of_getElem? (i := 129) rfl))) (mvT hZ (hw _ (List.mem_of_getElem? (i := 130) rfl))) (by decide) (backOf (W := 0) (own_rm_cpr2 l Z a0 hw [] oc kc va vb h0 n0 Z0 V_oc hva hvb) hZ (hw _ (List.mem_of_getElem? (i := 130) rfl)) (hw _ (List.mem_of_getElem? (i := 129) rfl)) (by decide) (by decide)) (g := (mkF m 36 #[.val (.ref oa), .val (.ref oc), .val (.int (0 : Int32)), .val (.int (2 : Int32)), .val .null, .unset] [(.int (2 : Int32)), (.int (0 : Int32)), (.ref oc)])) rfl (by rw [hml]; rfl) (argsL := [(.ref oc), (.int (0 : Int32)), (.int (2 : Int32))]) (rest := []) (lenOf own_pd5 rfl) rfl (by show 2 * 0 + _ ≤ _; exact Nat.le_of_eq rfl) (hb hby own_dsiv2_36) (fun _ _ => ⟨rfl, e2, (by decide : 0 + 1 ≤ _), (by decide : 0 + 2 ≤ _)⟩)
  dsimp only [Pt.U, Pt.locs, Pt.cells, Pt.slots] at X3 l3 y3 z3 st3 hQ3
  subst l3 y3 z3
  obtain ⟨r3, kb3, rfl, N3q, K3q, c3_1, c3_2⟩ := hQ3
  refine own_Fin.go (fun t k => st3 t k) ?_
  have N3 := Fr.app N0 N3q
  have E_oa_3 := E_oa.keep K3q
  have F_oa_value_3 := F_oa_value.keep K3q nin0
  have F_oa_coder_3 := F_oa_coder.keep K3q nin0
  have V_oc_3 := V_oc.keep K3q nin0
  have Z3 := Nat.le_trans Z0 K3q.1
  have K3 := K0.trans K3q all0
  have ne_oa_r3 : oa ≠ r3 := Nat.ne_of_lt (Nat.lt_of_lt_of_le F_oa_coder.lt c3_2)
  have ne_oc_r3 : oc ≠ r3 := Nat.ne_of_lt (Nat.lt_of_lt_of_le V_oc.lt c3_2)
  have g_r3 : n0 ≤ r3 := Nat.le_trans Z0 c3_2
  have sz_r3 : h0.size ≤ r3 := Nat.le_trans K0.1 c3_2
  show own_Fin _ _ _ _ _ _ _ (T3.setTop (mkF m 39 #[.val (.ref oa), .val (.ref oc), .val (.int (0 : Int32)), .val (.int (2 : Int32)), .val .null, .unset] [(.ref r3)]))
  refine own_Fin.go (fun t k => XS.astore X3.here hx rfl (hb hby own_dsiv2_39) rfl rfl (l' := #[.val (.ref oa), .val (.ref oc), .val (.int (0 : Int32)), .val (.int (2 : Int32)), .val .null, .val (.ref r3)]) rfl k) ?_
  show own_Fin _ _ _ _ _ _ _ (T3.setTop (mkF m 41 #[.val (.ref oa), .val (.ref oc), .val (.int (0 : Int32)), .val (.int (2 : Int32)), .val .null, .val (.ref r3)] []))
  refine own_Fin.go (fun t k => XS.aloadN X3.here hx rfl (hb hby own_dsiv2_41) rfl rfl k) ?_
  show own_Fin _ _ _ _ _ _ _ (T3.setTop (mkF m 42 #[.val (.ref oa), .val (.ref oc), .val (.int (0 : Int32)), .val (.int (2 : Int32)), .val .null, .val (.ref r3)] [(.ref oa)]))
  refine own_Fin.go (fun t k => XS.aload X3.here hx rfl (hb hby own_dsiv2_42) rfl rfl k) ?_
  show own_Fin _ _ _ _ _ _ _ (T3.setTop (mkF m 44 #[.val (.ref oa), .val (.ref oc), .val (.int (0 : Int32)), .val (.int (2 : Int32)), .val .null, .val (.ref r3)] [(.ref r3), (.ref oa)]))
  refine own_Fin.go (fun t k => XS.iloadN X3.here hx rfl (hb hby own_dsiv2_44) rfl k) ?_
  show own_Fin _ _ _ _ _ _ _ (T3.setTop (mkF m 45 #[.val (.ref oa), .val (.ref oc), .val (.int (0 : Int32)), .val (.int (2 : Int32)), .val .null, .val (.ref r3)] [(.int (2 : Int32)), (.ref r3), (.ref oa)]))
  obtain ⟨_, _, ⟨T4, L4, k4, n4⟩, -, X4, ⟨Lc4, hQ4, l4, y4, z4⟩, st4⟩ := Jvm.LawKit.callS X3 hx (y := (⟨"java/lang/StringUTF16", "coderFromArrayLen", "([BI)B"⟩ : MethodName)) hown (mvT hZ (hw _ (List.mem_of_getElem? (i := 134) rfl))) (mvT hZ (hw _ (List.mem_of_getElem? (i := 135) rfl))) (mvT hZ (hw _ (List.mem_of_getElem? (i := 129) rfl))) (mvT hZ (hw _ (List.mem_of_getElem? (i := 136) rfl))) (by decide) (backOf (W := 1) (own_rm_cfa2 l Z a0 hw [] r3 kb3 va vb T3.heap n0 Z3 c3_1) hZ (hw _ (List.mem_of_getElem? (i := 136) rfl)) (hw _ (List.mem_of_getElem? (i := 129) rfl)) (by decide) (by decide)) (g := (mkF m 45 #[.val (.ref oa), .val (.ref oc), .val (.int (0 : Int32)), .val (.int (2 : Int32)), .val .null, .val (.ref r3)] [(.int (2 : Int32)), (.ref r3), (.ref oa)])) rfl (by rw [hml]; rfl) (argsL := [(.ref r3), (.int (2 : Int32))]) (rest := [(.ref oa)]) (lenOf own_pd6 rfl) rfl (by show 2 * 0 + _ ≤ _; exact Nat.le_of_eq rfl) (hb hby own_dsiv2_45) (fun _ _ => ⟨rfl, rfl, (by decide : 1 + 0 ≤ _), (by decide : 2 + 0 ≤ _)⟩)
  dsimp only [Pt.U, Pt.locs, Pt.cells, Pt.slots] at X4 l4 y4 z4 st4 hQ4
  subst l4 y4 z4
  obtain ⟨rfl, N4q, e4⟩ := hQ4
  refine own_Fin.go (fun t k => st4 t k) ?_
  have N4 := Fr.app N3 N4q
  show own_Fin _ _ _ _ _ _ _ (T4.setTop (mkF m 48 #[.val (.ref oa), .val (.ref oc), .val (.int (0 : Int32)), .val (.int (2 : Int32)), .val .null, .val (.ref r3)] [(.int (0 : Int32)), (.ref oa)]))
  obtain ⟨T5, h5, X5, e5, W5, st5⟩ := putFN X4 hx hZ hown (hw _ (List.mem_of_getElem? (i := 25) rfl)) Via.refl e4 F_oa_coder_3 E_oa_3 (Or.inr ⟨(hw _ (List.mem_of_getElem? (i := 21) rfl)), rfl, hnm⟩) (hw _ (List.mem_of_getElem? (i := 5) rfl)) (ty := .byte) (v' := .int (0 : Int32)) (by decide) rfl rfl (g := (mkF m 48 #[.val (.ref oa), .val (.ref oc), .val (.int (0 : Int32)), .val (.int (2 : Int32)), .val .null, .val (.ref r3)] [(.int (0 : Int32)), (.ref oa)])) rfl rfl (hb hby own_dsiv2_48)
  refine own_Fin.go st5 ?_
  have F_oa_coder_5 := Fld.same W5 F_oa_coder_3
  have E_oa_5 := Exa.wr W5 E_oa_3
  have F_oa_value_5 := Fld.other W5 F_oa_value_3 (Or.inr (slot_ne (Or.inr (hw _ (List.mem_of_getElem? (i := 20) rfl))) (Or.inr (hw _ (List.mem_of_getElem? (i := 21) rfl))) (by decide) (t := (.array .byte)) (t' := .byte) (by decide) (by decide)))
  have V_r3_5 := Arv.other c3_1 W5 (Ne.symm ne_oa_r3)
  have Z5 := Nat.le_trans Z3 (Keep.of_wr W5).1
  have K5 := K3.wr W5 (Or.inl (List.mem_of_getElem? (i := 0) rfl))
  have N5 := Fr.snoc X5 N4 g_oa
  show own_Fin _ _ _ _ _ _ _ (T5.setTop (mkF m 51 #[.val (.ref oa), .val (.ref oc), .val (.int (0 : Int32)), .val (.int (2 : Int32)), .val .null, .val (.ref r3)] []))
  refine own_Fin.go (fun t k => XS.aloadN X5.here hx rfl (hb hby own_dsiv2_51) rfl rfl k) ?_
  show own_Fin _ _ _ _ _ _ _ (T5.setTop (mkF m 52 #[.val (.ref oa), .val (.ref oc), .val (.int (0 : Int32)), .val (.int (2 : Int32)), .val .null, .val (.ref r3)] [(.ref oa)]))
  refine own_Fin.go (fun t k => XS.aload X5.here hx rfl (hb hby own_dsiv2_52) rfl rfl k) ?_
  show own_Fin _ _ _ _ _ _ _ (T5.setTop (mkF m 54 #[.val (.ref oa), .val (.ref oc), .val (.int (0 : Int32)), .val (.int (2 : Int32)), .val .null, .val (.ref r3)] [(.ref r3), (.ref oa)]))
  obtain ⟨T6, h6, X6, e6, W6, st6⟩ := putF X5 hx hZ hown (host := "") (Or.inl (hw _ (List.mem_of_getElem? (i := 24) rfl))) Via.refl e5 F_oa_value_5 E_oa_5 (Or.inr ⟨(hw _ (List.mem_of_getElem? (i := 20) rfl)), rfl, hnm⟩) (hw _ (List.mem_of_getElem? (i := 5) rfl)) (ty := (.array .byte)) (by decide) rfl rfl (g := (mkF m 54 #[.val (.ref oa), .val (.ref oc), .val (.int (0 : Int32)), .val (.int (2 : Int32)), .val .null, .val (.ref r3)] [(.ref r3), (.ref oa)])) rfl rfl (hb hby own_dsiv2_54)
  refine own_Fin.go st6 ?_
  have F_oa_value_6 := Fld.same W6 F_oa_value_5
  have E_oa_6 := Exa.wr W6 E_oa_5
  have F_oa_coder_6 := Fld.other W6 F_oa_coder_5 (Or.inr (slot_ne (Or.inr (hw _ (List.mem_of_getElem? (i := 21) rfl))) (Or.inr (hw _ (List.mem_of_getElem? (i := 20) rfl))) (by decide) (t := .byte) (t' := (.array .byte)) (by decide) (by decide)))
  have V_r3_6 := Arv.other V_r3_5 W6 (Ne.symm ne_oa_r3)
  have Z6 := Nat.le_trans Z5 (Keep.of_wr W6).1
  have K6 := K5.wr W6 (Or.inl (List.mem_of_getElem? (i := 0) rfl))
  have N6 := Fr.snoc X6 N5 g_oa
  show own_Fin _ _ _ _ _ _ _ (T6.setTop (mkF m 57 #[.val (.ref oa), .val (.ref oc), .val (.int (0 : Int32)), .val (.int (2 : Int32)), .val .null, .val (.ref r3)] []))
  refine own_ret0 X6 hx Bd.returns (hb hby own_dsiv2_57) Bd.notSynchronized (by decide) (by decide) ?_
  rw [e6]
  exact ⟨rfl, N6, K6, E_oa_6⟩
theorem own_dsic2_0 : decode jdk_42_method_3_code 0 = .ok (.aload_n 0, 1) := by decide +kernel
theorem own_dsic2_1 : decode jdk_42_method_3_code 1 = .ok (.aload_n 1, 1) := by decide +kernel
theorem own_dsic2_2 : decode jdk_42_method_3_code 2 = .ok (.iconst 0, 1) := by decide +kernel
theorem own_dsic2_3 : decode jdk_42_method_3_code 3 = .ok (.aload_n 1, 1) := by decide +kernel
theorem own_dsic2_4 : decode jdk_42_method_3_code 4 = .ok (.arraylength, 1) := by decide +kernel
theorem own_dsic2_5 : decode jdk_42_method_3_code 5 = .ok (.aconst_null, 1) := by decide +kernel
theorem own_dsic2_6 : decode jdk_42_method_3_code 6 = .ok (.invokespecial 27, 3) := by decide +kernel
theorem own_dsic2_9 : decode jdk_42_method_3_code 9 = .ok (.return_, 1) := by decide +kernel
theorem own_ef_sic2 (m : MethodId) (oa : Addr) (oc : Addr) : entryFrame m #[(.ref oa), (.ref oc)] 2 = mkF m 0 #[.val (.ref oa), .val (.ref oc)] [] := by first | (simp [entryFrame, mkF, argsToLocals, Value.category]; done) | rfl
def own_Q_sic2 (Z : State) (oa : Addr) (oc : Addr) (kc : ClassId) (vcs : Int32) (va : Int32) (vb : Int32) (h0 : Heap) (n0 : Nat) (v : Option Value) (h : Heap) (L : List Loc) : Prop := v = none ∧ Fr n0 L ∧ Keep h0 h [oa] ∧ Exa Z h oa "java/lang/String"
set_option maxRecDepth 65536 in
set_option maxHeartbeats 40000000 in
theorem own_rm_sic2 (l : Launch) (Z : State) (a0 : Array Value) (hw : ∀ d ∈ tables_1, d.before a0 Z = true) (ws : List Jvm.Cond) (oa : Addr) (oc : Addr) (kc : ClassId) (vcs : Int32) (va : Int32) (vb : Int32) (h0 : Heap) (n0 : Nat) (Z0 : n0 ≤ h0.size) (E_oa : Exa Z h0 oa "java/lang/String") (F_oa_value : Fld Z h0 oa "java/lang/String" "value" "[B" .null) (F_oa_coder : Fld Z h0 oa "java/lang/String" "coder" "B" (.int (0 : Int32))) (g_oa : n0 ≤ oa) (V_oc : Arv Z h0 oc kc .char (2 : Int32) [(.int va), (.int vb)] (.int (0 : Int32))) (ne_oa_oc : oa ≠ oc) (S_COMPACT_STRINGS : Sta Z h0 "java/lang/String" "COMPACT_STRINGS" "Z" (.int vcs)) (hcs : ¬ vcs = 0) (hva : ¬ (255 : Int32) < va) (hvb : ¬ (255 : Int32) < vb) :
    MetFree l (⟨"java/lang/String", "<init>", "([C)V"⟩ : MethodName) (head1 (Jvm.Cond.code (⟨"java/lang/String", "<init>", "([C)V"⟩ : MethodName) jdk_42_method_3_code 2 none :: ws) ({ frames := 3, cells := 1, slots := 2, locals := 52 } : Room)) (fun a U => a = #[(.ref oa), (.ref oc)] ∧ Z.Warmed39 U.vm ∧ U.heap = h0) (fun _ _ _ _ _ => True) (fun _ U o U' => ∃ v L, o = .returned v ∧ own_Q_sic2 Z oa oc kc vcs va vb h0 n0 v U'.heap L ∧ FrameEnd U o U' L ({ frames := 3, cells := 1, slots := 2, locals := 52 } : Room).cells ({ frames := 3, cells := 1, slots := 2, locals := 52 } : Room).slots) := by
  refine MetFree.of_bodySF (plainFor_of_name own_pn8) hisR ?_
  intro p e s m args below meth c s₁ Bd hml0 hP hK
  obtain ⟨rfl, hZ, hh⟩ := hP
  have hx := Bd.exec
  have hby := Bd.bytes
  have hml : c.maxLocals = 2 := hml0
  have hown : s.vm.findClass "java/lang/String" = some m.cls := findClass_of_methodNamed Bd.named
  have hnm := (name_of_methodNamed Bd.named Bd.method).1
  have X0 : Stand p l e ({ frames := 3, cells := 1, slots := 2, locals := 52 } : Room) s m #[(.ref oa), (.ref oc)] below meth c s₁ [] 0 0 := Stand.of_body Bd
  have e0 : s₁.heap = h0 := by rw [← hh, Bd.state]; rfl
  have N0 := Fr.nil n0
  have K0 := Keep.refl h0 [oa]
  show own_Fin p e below s (own_Q_sic2 Z oa oc kc vcs va vb h0 n0) ({ frames := 3, cells := 1, slots := 2, locals := 52 } : Room).cells ({ frames := 3, cells := 1, slots := 2, locals := 52 } : Room).slots (s₁.setTop (entryFrame m #[(.ref oa), (.ref oc)] 2))
  refine own_Fin.go (fun t k => castTop (own_ef_sic2 m oa oc) k) ?_
  refine own_Fin.go (fun t k => XS.aloadN X0.here hx rfl (hb hby own_dsic2_0) rfl rfl k) ?_
  show own_Fin _ _ _ _ _ _ _ (s₁.setTop (mkF m 1 #[.val (.ref oa), .val (.ref oc)] [(.ref oa)]))
  refine own_Fin.go (fun t k => XS.aloadN X0.here hx rfl (hb hby own_dsic2_1) rfl rfl k) ?_
  show own_Fin _ _ _ _ _ _ _ (s₁.setTop (mkF m 2 #[.val (.ref oa), .val (.ref oc)] [(.ref oc), (.ref oa)]))
  refine own_Fin.go (fun t k => XS.iconst X0.here hx rfl (hb hby own_dsic2_2) k) ?_
  show own_Fin _ _ _ _ _ _ _ (s₁.setTop (mkF m 3 #[.val (.ref oa), .val (.ref oc)] [(.int (0 : Int32)), (.ref oc), (.ref oa)]))
  refine own_Fin.go (fun t k => XS.aloadN X0.here hx rfl (hb hby own_dsic2_3) rfl rfl k) ?_
  show own_Fin _ _ _ _ _ _ _ (s₁.setTop (mkF m 4 #[.val (.ref oa), .val (.ref oc)] [(.ref oc), (.int (0 : Int32)), (.ref oc), (.ref oa)]))
  obtain ⟨cl1, Ar1, -, S1, N1l, -, -⟩ := (id V_oc)
  refine own_Fin.go (fun t k => X0.arraylength hx (by rw [e0]; exact Ar1.1) (State.isArrayOf_alike hZ.alike Ar1.2.1) (g := (mkF m 4 #[.val (.ref oa), .val (.ref oc)] [(.ref oc), (.int (0 : Int32)), (.ref oc), (.ref oa)])) rfl rfl (hb hby own_dsic2_4) t k) ?_
  rw [len_of S1 N1l]
  show own_Fin _ _ _ _ _ _ _ (s₁.setTop (mkF m 5 #[.val (.ref oa), .val (.ref oc)] [(.int (2 : Int32)), (.int (0 : Int32)), (.ref oc), (.ref oa)]))
  refine own_Fin.go (fun t k => XS.aconstNull X0.here hx rfl (hb hby own_dsic2_5) k) ?_
  show own_Fin _ _ _ _ _ _ _ (s₁.setTop (mkF m 6 #[.val (.ref oa), .val (.ref oc)] [.null, (.int (2 : Int32)), (.int (0 : Int32)), (.ref oc), (.ref oa)]))
  obtain ⟨_, _, ⟨T2, L2, k2, n2⟩, -, X2, ⟨Lc2, hQ2, l2, y2, z2⟩, st2⟩ := X0.specialBack hx (y := (⟨"java/lang/String", "<init>", "([CIILjava/lang/Void;)V"⟩ : MethodName)) rfl hown (mvT hZ (hw _ (List.mem_of_getElem? (i := 11) rfl))) (mvT hZ (hw _ (List.mem_of_getElem? (i := 12) rfl))) (mvT hZ (hw _ (List.mem_of_getElem? (i := 14) rfl))) (by decide) (backOf (W := 0) (own_rm_siv2 l Z a0 hw [] oa oc kc vcs va vb h0 n0 Z0 E_oa F_oa_value F_oa_coder g_oa V_oc ne_oa_oc S_COMPACT_STRINGS hcs hva hvb) hZ (hw _ (List.mem_of_getElem? (i := 14) rfl)) (hw _ (List.mem_of_getElem? (i := 6) rfl)) (by decide) (by decide)) (g := (mkF m 6 #[.val (.ref oa), .val (.ref oc)] [.null, (.int (2 : Int32)), (.int (0 : Int32)), (.ref oc), (.ref oa)])) rfl (by rw [hml]; rfl) (Steps.refl _) (a := oa) (argsL := [(.ref oc), (.int (0 : Int32)), (.int (2 : Int32)), .null]) (rest := []) (lenOf own_pd7 rfl) rfl (by show 2 * 0 + _ ≤ _; exact Nat.le_of_eq rfl) (hb hby own_dsic2_6) (fun _ _ => ⟨rfl, e0, (by decide : 0 + 1 ≤ _), (by decide : 0 + 2 ≤ _)⟩)
  dsimp only [Pt.U, Pt.locs, Pt.cells, Pt.slots] at X2 l2 y2 z2 st2 hQ2
  subst l2 y2 z2
  obtain ⟨rfl, N2q, K2q, c2_1⟩ := hQ2
  refine own_Fin.go (fun t k => st2.trans k) ?_
  have N2 := Fr.app N0 N2q
  have V_oc_2 := V_oc.keep K2q (ninS (Ne.symm ne_oa_oc) nin0)
  have S_COMPACT_STRINGS_2 := own_staKeep1 S_COMPACT_STRINGS K2q E_oa
  have Z2 := Nat.le_trans Z0 K2q.1
  have K2 := K0.trans K2q (allS (Or.inl (List.mem_of_getElem? (i := 0) rfl)) all0)
  show own_Fin _ _ _ _ _ _ _ (T2.setTop (mkF m 9 #[.val (.ref oa), .val (.ref oc)] []))
  refine own_ret0 X2 hx Bd.returns (hb hby own_dsic2_9) Bd.notSynchronized (by decide) (by decide) ?_
  exact ⟨rfl, N2, K2, c2_1⟩
theorem own_dsiv0_0 : decode jdk_42_method_149_code 0 = .ok (.aload_n 0, 1) := by decide +kernel
theorem own_dsiv0_1 : decode jdk_42_method_149_code 1 = .ok (.invokespecial 1, 3) := by decide +kernel
theorem own_dsiv0_4 : decode jdk_42_method_149_code 4 = .ok (.iload_n 3, 1) := by decide +kernel
theorem own_dsiv0_5 : decode jdk_42_method_149_code 5 = .ok (.ifCond .ne 22, 3) := by decide +kernel
theorem own_dsiv0_8 : decode jdk_42_method_149_code 8 = .ok (.aload_n 0, 1) := by decide +kernel
theorem own_dsiv0_9 : decode jdk_42_method_149_code 9 = .ok (.ldc 7, 2) := by decide +kernel
theorem own_dsiv0_11 : decode jdk_42_method_149_code 11 = .ok (.getfield 9, 3) := by decide +kernel
theorem own_dsiv0_14 : decode jdk_42_method_149_code 14 = .ok (.putfield 9, 3) := by decide +kernel
theorem own_dsiv0_17 : decode jdk_42_method_149_code 17 = .ok (.aload_n 0, 1) := by decide +kernel
theorem own_dsiv0_18 : decode jdk_42_method_149_code 18 = .ok (.ldc 7, 2) := by decide +kernel
theorem own_dsiv0_20 : decode jdk_42_method_149_code 20 = .ok (.getfield 15, 3) := by decide +kernel
theorem own_dsiv0_23 : decode jdk_42_method_149_code 23 = .ok (.putfield 15, 3) := by decide +kernel
theorem own_dsiv0_26 : decode jdk_42_method_149_code 26 = .ok (.return_, 1) := by decide +kernel
theorem own_ef_siv0 (m : MethodId) (oa : Addr) (oc : Addr) : entryFrame m #[(.ref oa), (.ref oc), (.int (0 : Int32)), (.int (0 : Int32)), .null] 6 = mkF m 0 #[.val (.ref oa), .val (.ref oc), .val (.int (0 : Int32)), .val (.int (0 : Int32)), .val .null, .unset] [] := by first | (simp [entryFrame, mkF, argsToLocals, Value.category]; done) | rfl
def own_Q_siv0 (Z : State) (oa : Addr) (oc : Addr) (h0 : Heap) (n0 : Nat) (v : Option Value) (h : Heap) (L : List Loc) : Prop := v = none ∧ Fr n0 L ∧ Keep h0 h [oa] ∧ Exa Z h oa "java/lang/String"
set_option maxRecDepth 65536 in
set_option maxHeartbeats 40000000 in
theorem own_rm_siv0 (l : Launch) (Z : State) (a0 : Array Value) (hw : ∀ d ∈ tables_1, d.before a0 Z = true) (ws : List Jvm.Cond) (oa : Addr) (oc : Addr) (h0 : Heap) (n0 : Nat) (Z0 : n0 ≤ h0.size) (E_oa : Exa Z h0 oa "java/lang/String") (F_oa_value : Fld Z h0 oa "java/lang/String" "value" "[B" .null) (F_oa_coder : Fld Z h0 oa "java/lang/String" "coder" "B" (.int (0 : Int32))) (g_oa : n0 ≤ oa) :
    MetFree l (⟨"java/lang/String", "<init>", "([CIILjava/lang/Void;)V"⟩ : MethodName) (head1 (Jvm.Cond.code (⟨"java/lang/String", "<init>", "([CIILjava/lang/Void;)V"⟩ : MethodName) jdk_42_method_149_code 6 none :: ws) ({ frames := 1, cells := 4, slots := 8, locals := 12 } : Room)) (fun a U => a = #[(.ref oa), (.ref oc), (.int (0 : Int32)), (.int (0 : Int32)), .null] ∧ Z.Warmed39 U.vm ∧ U.heap = h0 ∧ CHv Z own_EL U.vm h0) (fun _ _ _ _ _ => True) (fun _ U o U' => ∃ v L, o = .returned v ∧ own_Q_siv0 Z oa oc h0 n0 v U'.heap L ∧ CHr Z own_EL U.vm U.heap U'.vm U'.heap ∧ ReturnedEndW U o U' L ({ frames := 1, cells := 4, slots := 8, locals := 12 } : Room).cells ({ frames := 1, cells := 4, slots := 8, locals := 12 } : Room).slots) := by
  refine MetFree.of_bodySF (plainFor_of_name own_pn8) hisR ?_
  intro p e s m args below meth c s₁ Bd hml0 hP hK
  obtain ⟨rfl, hZ, hh, hCH⟩ := hP
  have hx := Bd.exec
  have hby := Bd.bytes
  have hml : c.maxLocals = 6 := hml0
  have hown : s.vm.findClass "java/lang/String" = some m.cls := findClass_of_methodNamed Bd.named
  have hnm := (name_of_methodNamed Bd.named Bd.method).1
  have X0 : Stand p l e ({ frames := 1, cells := 4, slots := 8, locals := 12 } : Room) s m #[(.ref oa), (.ref oc), (.int (0 : Int32)), (.int (0 : Int32)), .null] below meth c s₁ [] 0 0 := Stand.of_body Bd
  have e0 : s₁.heap = h0 := by rw [← hh, Bd.state]; rfl
  have N0 := Fr.nil n0
  have K0 := Keep.refl h0 [oa]
  have hS : s.Since s.vm 0 := State.WarmedH.since (State.WarmedH.refl s) 0
  have hk0 : 0 ≤ h0.size := Nat.zero_le _
  have hEL : EW Z a0 own_EL := EW.cons (hw _ (List.mem_of_getElem? (i := 18) rfl)) (by decide) (EW.nil)
  have C0 : CHr Z own_EL s.vm s.heap s.vm h0 := by rw [hh]; exact CHr.refl hCH
  have Sf_oa : Safe Z own_EL s.vm h0 oa := own_safeNull hZ.alike E_oa F_oa_value
  have wS : ∀ a ∈ Bundle.stringAtoms, a.before a0 Z = true := by
    intro a ha
    simp only [Bundle.stringAtoms, Bundle.sN, List.mem_cons, List.not_mem_nil, or_false] at ha
    rcases ha with rfl | rfl | rfl | rfl | rfl | rfl | rfl
    · exact (hw _ (List.mem_of_getElem? (i := 6) rfl))
    · exact (hw _ (List.mem_of_getElem? (i := 5) rfl))
    · exact (hw _ (List.mem_of_getElem? (i := 19) rfl))
    · exact (hw _ (List.mem_of_getElem? (i := 20) rfl))
    · exact (hw _ (List.mem_of_getElem? (i := 21) rfl))
    · exact (hw _ (List.mem_of_getElem? (i := 22) rfl))
    · exact (hw _ (List.mem_of_getElem? (i := 23) rfl))
  show own_FinH p e below s (own_Q_siv0 Z oa oc h0 n0) (CHr Z own_EL s.vm s.heap) ({ frames := 1, cells := 4, slots := 8, locals := 12 } : Room).cells ({ frames := 1, cells := 4, slots := 8, locals := 12 } : Room).slots (s₁.setTop (entryFrame m #[(.ref oa), (.ref oc), (.int (0 : Int32)), (.int (0 : Int32)), .null] 6))
  refine own_FinH.go (fun t k => castTop (own_ef_siv0 m oa oc) k) ?_
  refine own_FinH.go (fun t k => XS.aloadN X0.here hx rfl (hb hby own_dsiv0_0) rfl rfl k) ?_
  show own_FinH _ _ _ _ _ _ _ _ (s₁.setTop (mkF m 1 #[.val (.ref oa), .val (.ref oc), .val (.int (0 : Int32)), .val (.int (0 : Int32)), .val .null, .unset] [(.ref oa)]))
  obtain ⟨T1, X1, e1, st1⟩ := initO X0 hx hZ hown (hw _ (List.mem_of_getElem? (i := 15) rfl)) (hw _ (List.mem_of_getElem? (i := 16) rfl)) (hw _ (List.mem_of_getElem? (i := 17) rfl)) e0 (g := (mkF m 1 #[.val (.ref oa), .val (.ref oc), .val (.int (0 : Int32)), .val (.int (0 : Int32)), .val .null, .unset] [(.ref oa)])) rfl (by rw [hml]; rfl) rfl (hb hby own_dsiv0_1) (by decide) (W := 0) (by show 2 * 0 + _ ≤ _; exact Nat.le_of_eq rfl) (by decide)
  refine own_FinH.go st1 ?_
  show own_FinH _ _ _ _ _ _ _ _ (T1.setTop (mkF m 4 #[.val (.ref oa), .val (.ref oc), .val (.int (0 : Int32)), .val (.int (0 : Int32)), .val .null, .unset] []))
  refine own_FinH.go (fun t k => XS.iloadN X1.here hx rfl (hb hby own_dsiv0_4) rfl k) ?_
  show own_FinH _ _ _ _ _ _ _ _ (T1.setTop (mkF m 5 #[.val (.ref oa), .val (.ref oc), .val (.int (0 : Int32)), .val (.int (0 : Int32)), .val .null, .unset] [(.int (0 : Int32))]))
  refine own_FinH.go (fun t k => XS.ifNo X1.here hx rfl (hb hby own_dsiv0_5) rfl (by decide) k) ?_
  show own_FinH _ _ _ _ _ _ _ _ (T1.setTop (mkF m 8 #[.val (.ref oa), .val (.ref oc), .val (.int (0 : Int32)), .val (.int (0 : Int32)), .val .null, .unset] []))
  refine own_FinH.go (fun t k => XS.aloadN X1.here hx rfl (hb hby own_dsiv0_8) rfl rfl k) ?_
  show own_FinH _ _ _ _ _ _ _ _ (T1.setTop (mkF m 9 #[.val (.ref oa), .val (.ref oc), .val (.int (0 : Int32)), .val (.int (0 : Int32)), .val .null, .unset] [(.ref oa)]))
  obtain ⟨b2, T2, h2, kk2, v2, k2, X2, e2, E2, hS, hk2, hZ', hown', A2, Fc2, Fv2, V2, -, -, C2q, -, -, st2⟩ := ldcCH (s := s) (vm0 := s.vm) X1 hx hZ hown (hw _ (List.mem_of_getElem? (i := 18) rfl)) wS e1 hS hk0 hEL (List.mem_of_getElem? (i := 0) rfl) C0.1 (vs := []) (z := (0 : Int32)) ⟨by decide, by decide⟩ (by decide) rfl (g := (mkF m 9 #[.val (.ref oa), .val (.ref oc), .val (.int (0 : Int32)), .val (.int (0 : Int32)), .val .null, .unset] [(.ref oa)])) rfl (hb hby own_dsiv0_9) (n := 0) (by decide) (by decide) (by decide) (by decide)
  have hZ : Z.Warmed39 T2.vm := hZ'
  have hown : T2.vm.findClass "java/lang/String" = some m.cls := hown'
  have Sf_oa_2 := C2q.safe F_oa_coder.lt Sf_oa
  have C2 := C0.trans C2q
  refine own_FinH.go st2 ?_
  have E_oa_2 := Exa.ext E2 E_oa
  have F_oa_value_2 := Fld.ext E2 F_oa_value
  have F_oa_coder_2 := Fld.ext E2 F_oa_coder
  have Z2 := Nat.le_trans Z0 E2.1
  have K2 := K0.ext E2
  show own_FinH _ _ _ _ _ _ _ _ (T2.setTop (mkF m 11 #[.val (.ref oa), .val (.ref oc), .val (.int (0 : Int32)), .val (.int (0 : Int32)), .val .null, .unset] [(.ref b2), (.ref oa)]))
  obtain ⟨T3, X3, e3, st3⟩ := getF X2 hx hZ hown (host := "") (Or.inl (hw _ (List.mem_of_getElem? (i := 24) rfl))) Via.refl e2 Fv2 (g := (mkF m 11 #[.val (.ref oa), .val (.ref oc), .val (.int (0 : Int32)), .val (.int (0 : Int32)), .val .null, .unset] [(.ref b2), (.ref oa)])) rfl rfl (hb hby own_dsiv0_11)
  refine own_FinH.go st3 ?_
  show own_FinH _ _ _ _ _ _ _ _ (T3.setTop (mkF m 14 #[.val (.ref oa), .val (.ref oc), .val (.int (0 : Int32)), .val (.int (0 : Int32)), .val .null, .unset] [(.ref v2), (.ref oa)]))
  obtain ⟨T4, h4, X4, e4, W4, st4⟩ := putF X3 hx hZ hown (host := "") (Or.inl (hw _ (List.mem_of_getElem? (i := 24) rfl))) Via.refl e3 F_oa_value_2 E_oa_2 (Or.inr ⟨(hw _ (List.mem_of_getElem? (i := 20) rfl)), rfl, hnm⟩) (hw _ (List.mem_of_getElem? (i := 5) rfl)) (ty := (.array .byte)) (by decide) rfl rfl (g := (mkF m 14 #[.val (.ref oa), .val (.ref oc), .val (.int (0 : Int32)), .val (.int (0 : Int32)), .val .null, .unset] [(.ref v2), (.ref oa)])) rfl rfl (hb hby own_dsiv0_14)
  refine own_FinH.go st4 ?_
  have F_oa_value_4 := Fld.same W4 F_oa_value_2
  have E_oa_4 := Exa.wr W4 E_oa_2
  have F_oa_coder_4 := Fld.other W4 F_oa_coder_2 (Or.inr (slot_ne (Or.inr (hw _ (List.mem_of_getElem? (i := 21) rfl))) (Or.inr (hw _ (List.mem_of_getElem? (i := 20) rfl))) (by decide) (t := .byte) (t' := (.array .byte)) (by decide) (by decide)))
  have Z4 := Nat.le_trans Z2 (Keep.of_wr W4).1
  have hk4 := Nat.le_trans hk2 (Keep.of_wr W4).1
  have K4 := K2.wr W4 (Or.inl (List.mem_of_getElem? (i := 0) rfl))
  have N4 := Fr.snoc X4 N0 g_oa
  have Sf_oa_4 := Safe.wr W4 Sf_oa_2 C2.1 Sf_oa_2
  have C4 := C2.trans (CHr.wr W4 Sf_oa_2 C2.1)
  show own_FinH _ _ _ _ _ _ _ _ (T4.setTop (mkF m 17 #[.val (.ref oa), .val (.ref oc), .val (.int (0 : Int32)), .val (.int (0 : Int32)), .val .null, .unset] []))
  refine own_FinH.go (fun t k => XS.aloadN X4.here hx rfl (hb hby own_dsiv0_17) rfl rfl k) ?_
  show own_FinH _ _ _ _ _ _ _ _ (T4.setTop (mkF m 18 #[.val (.ref oa), .val (.ref oc), .val (.int (0 : Int32)), .val (.int (0 : Int32)), .val .null, .unset] [(.ref oa)]))
  obtain ⟨b5, T5, h5, kk5, v5, k5, X5, e5, E5, hS, hk5, hZ', hown', A5, Fc5, Fv5, V5, -, -, C5q, -, -, st5⟩ := ldcCH (s := s) (vm0 := T2.vm) X4 hx hZ hown (hw _ (List.mem_of_getElem? (i := 18) rfl)) wS e4 hS hk4 hEL (List.mem_of_getElem? (i := 0) rfl) C4.1 (vs := []) (z := (0 : Int32)) ⟨by decide, by decide⟩ (by decide) rfl (g := (mkF m 18 #[.val (.ref oa), .val (.ref oc), .val (.int (0 : Int32)), .val (.int (0 : Int32)), .val .null, .unset] [(.ref oa)])) rfl (hb hby own_dsiv0_18) (n := 0) (by decide) (by decide) (by decide) (by decide)
  have hZ : Z.Warmed39 T5.vm := hZ'
  have hown : T5.vm.findClass "java/lang/String" = some m.cls := hown'
  have Sf_oa_5 := C5q.safe F_oa_coder_4.lt Sf_oa_4
  have C5 := C4.trans C5q
  refine own_FinH.go st5 ?_
  have E_oa_5 := Exa.ext E5 E_oa_4
  have F_oa_value_5 := Fld.ext E5 F_oa_value_4
  have F_oa_coder_5 := Fld.ext E5 F_oa_coder_4
  have Z5 := Nat.le_trans Z4 E5.1
  have K5 := K4.ext E5
  show own_FinH _ _ _ _ _ _ _ _ (T5.setTop (mkF m 20 #[.val (.ref oa), .val (.ref oc), .val (.int (0 : Int32)), .val (.int (0 : Int32)), .val .null, .unset] [(.ref b5), (.ref oa)]))
  obtain ⟨T6, X6, e6, st6⟩ := getF X5 hx hZ hown (host := "") (Or.inl (hw _ (List.mem_of_getElem? (i := 25) rfl))) Via.refl e5 Fc5 (g := (mkF m 20 #[.val (.ref oa), .val (.ref oc), .val (.int (0 : Int32)), .val (.int (0 : Int32)), .val .null, .unset] [(.ref b5), (.ref oa)])) rfl rfl (hb hby own_dsiv0_20)
  refine own_FinH.go st6 ?_
  show own_FinH _ _ _ _ _ _ _ _ (T6.setTop (mkF m 23 #[.val (.ref oa), .val (.ref oc), .val (.int (0 : Int32)), .val (.int (0 : Int32)), .val .null, .unset] [(.int (0 : Int32)), (.ref oa)]))
  obtain ⟨T7, h7, X7, e7, W7, st7⟩ := putFN X6 hx hZ hown (hw _ (List.mem_of_getElem? (i := 25) rfl)) Via.refl e6 F_oa_coder_5 E_oa_5 (Or.inr ⟨(hw _ (List.mem_of_getElem? (i := 21) rfl)), rfl, hnm⟩) (hw _ (List.mem_of_getElem? (i := 5) rfl)) (ty := .byte) (v' := .int (0 : Int32)) (by decide) rfl rfl (g := (mkF m 23 #[.val (.ref oa), .val (.ref oc), .val (.int (0 : Int32)), .val (.int (0 : Int32)), .val .null, .unset] [(.int (0 : Int32)), (.ref oa)])) rfl rfl (hb hby own_dsiv0_23)
  refine own_FinH.go st7 ?_
  have F_oa_coder_7 := Fld.same W7 F_oa_coder_5
  have E_oa_7 := Exa.wr W7 E_oa_5
  have F_oa_value_7 := Fld.other W7 F_oa_value_5 (Or.inr (slot_ne (Or.inr (hw _ (List.mem_of_getElem? (i := 20) rfl))) (Or.inr (hw _ (List.mem_of_getElem? (i := 21) rfl))) (by decide) (t := (.array .byte)) (t' := .byte) (by decide) (by decide)))
  have Z7 := Nat.le_trans Z5 (Keep.of_wr W7).1
  have hk7 := Nat.le_trans hk5 (Keep.of_wr W7).1
  have K7 := K5.wr W7 (Or.inl (List.mem_of_getElem? (i := 0) rfl))
  have N7 := Fr.snoc X7 N4 g_oa
  have Sf_oa_7 := Safe.wr W7 Sf_oa_5 C5.1 Sf_oa_5
  have C7 := C5.trans (CHr.wr W7 Sf_oa_5 C5.1)
  show own_FinH _ _ _ _ _ _ _ _ (T7.setTop (mkF m 26 #[.val (.ref oa), .val (.ref oc), .val (.int (0 : Int32)), .val (.int (0 : Int32)), .val .null, .unset] []))
  refine own_ret0H (s := s) (vm₁ := T5.vm) X7 hx hS (by rw [e7]; exact hk7) Bd.returns (hb hby own_dsiv0_26) Bd.notSynchronized (by decide) (by decide) (by rw [e7]; exact C7.trans (CHv.at (s := s) (vm0 := T5.vm) X7 hZ hEL C7.1)) ?_
  rw [e7]
  exact ⟨rfl, N7, K7, E_oa_7⟩
theorem own_dsic0_0 : decode jdk_42_method_3_code 0 = .ok (.aload_n 0, 1) := by decide +kernel
theorem own_dsic0_1 : decode jdk_42_method_3_code 1 = .ok (.aload_n 1, 1) := by decide +kernel
theorem own_dsic0_2 : decode jdk_42_method_3_code 2 = .ok (.iconst 0, 1) := by decide +kernel
theorem own_dsic0_3 : decode jdk_42_method_3_code 3 = .ok (.aload_n 1, 1) := by decide +kernel
theorem own_dsic0_4 : decode jdk_42_method_3_code 4 = .ok (.arraylength, 1) := by decide +kernel
theorem own_dsic0_5 : decode jdk_42_method_3_code 5 = .ok (.aconst_null, 1) := by decide +kernel
theorem own_dsic0_6 : decode jdk_42_method_3_code 6 = .ok (.invokespecial 27, 3) := by decide +kernel
theorem own_dsic0_9 : decode jdk_42_method_3_code 9 = .ok (.return_, 1) := by decide +kernel
theorem own_ef_sic0 (m : MethodId) (oa : Addr) (oc : Addr) : entryFrame m #[(.ref oa), (.ref oc)] 2 = mkF m 0 #[.val (.ref oa), .val (.ref oc)] [] := by first | (simp [entryFrame, mkF, argsToLocals, Value.category]; done) | rfl
def own_Q_sic0 (Z : State) (oa : Addr) (oc : Addr) (kc : ClassId) (h0 : Heap) (n0 : Nat) (v : Option Value) (h : Heap) (L : List Loc) : Prop := v = none ∧ Fr n0 L ∧ Keep h0 h [oa] ∧ Exa Z h oa "java/lang/String"
set_option maxRecDepth 65536 in
set_option maxHeartbeats 40000000 in
theorem own_rm_sic0 (l : Launch) (Z : State) (a0 : Array Value) (hw : ∀ d ∈ tables_1, d.before a0 Z = true) (ws : List Jvm.Cond) (oa : Addr) (oc : Addr) (kc : ClassId) (h0 : Heap) (n0 : Nat) (Z0 : n0 ≤ h0.size) (E_oa : Exa Z h0 oa "java/lang/String") (F_oa_value : Fld Z h0 oa "java/lang/String" "value" "[B" .null) (F_oa_coder : Fld Z h0 oa "java/lang/String" "coder" "B" (.int (0 : Int32))) (g_oa : n0 ≤ oa) (V_oc : Arv Z h0 oc kc .char (0 : Int32) [] (.int (0 : Int32))) (ne_oa_oc : oa ≠ oc) :
    MetFree l (⟨"java/lang/String", "<init>", "([C)V"⟩ : MethodName) (head1 (Jvm.Cond.code (⟨"java/lang/String", "<init>", "([C)V"⟩ : MethodName) jdk_42_method_3_code 2 none :: ws) ({ frames := 2, cells := 4, slots := 8, locals := 29 } : Room)) (fun a U => a = #[(.ref oa), (.ref oc)] ∧ Z.Warmed39 U.vm ∧ U.heap = h0 ∧ CHv Z own_EL U.vm h0) (fun _ _ _ _ _ => True) (fun _ U o U' => ∃ v L, o = .returned v ∧ own_Q_sic0 Z oa oc kc h0 n0 v U'.heap L ∧ CHr Z own_EL U.vm U.heap U'.vm U'.heap ∧ ReturnedEndW U o U' L ({ frames := 2, cells := 4, slots := 8, locals := 29 } : Room).cells ({ frames := 2, cells := 4, slots := 8, locals := 29 } : Room).slots) := by
  refine MetFree.of_bodySF (plainFor_of_name own_pn8) hisR ?_
  intro p e s m args below meth c s₁ Bd hml0 hP hK
  obtain ⟨rfl, hZ, hh, hCH⟩ := hP
  have hx := Bd.exec
  have hby := Bd.bytes
  have hml : c.maxLocals = 2 := hml0
  have hown : s.vm.findClass "java/lang/String" = some m.cls := findClass_of_methodNamed Bd.named
  have hnm := (name_of_methodNamed Bd.named Bd.method).1
  have X0 : Stand p l e ({ frames := 2, cells := 4, slots := 8, locals := 29 } : Room) s m #[(.ref oa), (.ref oc)] below meth c s₁ [] 0 0 := Stand.of_body Bd
  have e0 : s₁.heap = h0 := by rw [← hh, Bd.state]; rfl
  have N0 := Fr.nil n0
  have K0 := Keep.refl h0 [oa]
  have hS : s.Since s.vm 0 := State.WarmedH.since (State.WarmedH.refl s) 0
  have hk0 : 0 ≤ h0.size := Nat.zero_le _
  have hEL : EW Z a0 own_EL := EW.cons (hw _ (List.mem_of_getElem? (i := 18) rfl)) (by decide) (EW.nil)
  have C0 : CHr Z own_EL s.vm s.heap s.vm h0 := by rw [hh]; exact CHr.refl hCH
  have Sf_oa : Safe Z own_EL s.vm h0 oa := own_safeNull hZ.alike E_oa F_oa_value
  have wS : ∀ a ∈ Bundle.stringAtoms, a.before a0 Z = true := by
    intro a ha
    simp only [Bundle.stringAtoms, Bundle.sN, List.mem_cons, List.not_mem_nil, or_false] at ha
    rcases ha with rfl | rfl | rfl | rfl | rfl | rfl | rfl
    · exact (hw _ (List.mem_of_getElem? (i := 6) rfl))
    · exact (hw _ (List.mem_of_getElem? (i := 5) rfl))
    · exact (hw _ (List.mem_of_getElem? (i := 19) rfl))
    · exact (hw _ (List.mem_of_getElem? (i := 20) rfl))
    · exact (hw _ (List.mem_of_getElem? (i := 21) rfl))
    · exact (hw _ (List.mem_of_getElem? (i := 22) rfl))
    · exact (hw _ (List.mem_of_getElem? (i := 23) rfl))
  show own_FinH p e below s (own_Q_sic0 Z oa oc kc h0 n0) (CHr Z own_EL s.vm s.heap) ({ frames := 2, cells := 4, slots := 8, locals := 29 } : Room).cells ({ frames := 2, cells := 4, slots := 8, locals := 29 } : Room).slots (s₁.setTop (entryFrame m #[(.ref oa), (.ref oc)] 2))
  refine own_FinH.go (fun t k => castTop (own_ef_sic0 m oa oc) k) ?_
  refine own_FinH.go (fun t k => XS.aloadN X0.here hx rfl (hb hby own_dsic0_0) rfl rfl k) ?_
  show own_FinH _ _ _ _ _ _ _ _ (s₁.setTop (mkF m 1 #[.val (.ref oa), .val (.ref oc)] [(.ref oa)]))
  refine own_FinH.go (fun t k => XS.aloadN X0.here hx rfl (hb hby own_dsic0_1) rfl rfl k) ?_
  show own_FinH _ _ _ _ _ _ _ _ (s₁.setTop (mkF m 2 #[.val (.ref oa), .val (.ref oc)] [(.ref oc), (.ref oa)]))
  refine own_FinH.go (fun t k => XS.iconst X0.here hx rfl (hb hby own_dsic0_2) k) ?_
  show own_FinH _ _ _ _ _ _ _ _ (s₁.setTop (mkF m 3 #[.val (.ref oa), .val (.ref oc)] [(.int (0 : Int32)), (.ref oc), (.ref oa)]))
  refine own_FinH.go (fun t k => XS.aloadN X0.here hx rfl (hb hby own_dsic0_3) rfl rfl k) ?_
  show own_FinH _ _ _ _ _ _ _ _ (s₁.setTop (mkF m 4 #[.val (.ref oa), .val (.ref oc)] [(.ref oc), (.int (0 : Int32)), (.ref oc), (.ref oa)]))
  obtain ⟨cl1, Ar1, -, S1, N1l, -, -⟩ := (id V_oc)
  refine own_FinH.go (fun t k => X0.arraylength hx (by rw [e0]; exact Ar1.1) (State.isArrayOf_alike hZ.alike Ar1.2.1) (g := (mkF m 4 #[.val (.ref oa), .val (.ref oc)] [(.ref oc), (.int (0 : Int32)), (.ref oc), (.ref oa)])) rfl rfl (hb hby own_dsic0_4) t k) ?_
  rw [len_of S1 N1l]
  show own_FinH _ _ _ _ _ _ _ _ (s₁.setTop (mkF m 5 #[.val (.ref oa), .val (.ref oc)] [(.int (0 : Int32)), (.int (0 : Int32)), (.ref oc), (.ref oa)]))
  refine own_FinH.go (fun t k => XS.aconstNull X0.here hx rfl (hb hby own_dsic0_5) k) ?_
  show own_FinH _ _ _ _ _ _ _ _ (s₁.setTop (mkF m 6 #[.val (.ref oa), .val (.ref oc)] [.null, (.int (0 : Int32)), (.int (0 : Int32)), (.ref oc), (.ref oa)]))
  obtain ⟨_, _, ⟨T2, L2, k2, n2⟩, -, X2, hS2, hgr2, ⟨Lc2, hQ2, l2, y2, z2, C2q⟩, st2⟩ := X0.specialBackS hx (y := (⟨"java/lang/String", "<init>", "([CIILjava/lang/Void;)V"⟩ : MethodName)) rfl hown (mvT hZ (hw _ (List.mem_of_getElem? (i := 11) rfl))) (mvT hZ (hw _ (List.mem_of_getElem? (i := 12) rfl))) (mvT hZ (hw _ (List.mem_of_getElem? (i := 14) rfl))) (by decide) (backOfSH (s := s) (vm0 := s.vm) (W := 0) (own_rm_siv0 l Z a0 hw [] oa oc  h0 n0 Z0 E_oa F_oa_value F_oa_coder g_oa) hZ (hw _ (List.mem_of_getElem? (i := 14) rfl)) (hw _ (List.mem_of_getElem? (i := 6) rfl)) (by decide) (by decide) hEL C0.1) (g := (mkF m 6 #[.val (.ref oa), .val (.ref oc)] [.null, (.int (0 : Int32)), (.int (0 : Int32)), (.ref oc), (.ref oa)])) rfl (by rw [hml]; rfl) (Steps.refl _) (a := oa) (argsL := [(.ref oc), (.int (0 : Int32)), (.int (0 : Int32)), .null]) (rest := []) (lenOf own_pd7 rfl) rfl (by show 2 * 0 + _ ≤ _; exact Nat.le_of_eq rfl) (hb hby own_dsic0_6) (fun _ _ => ⟨rfl, e0, (by decide : 0 + 4 ≤ _), (by decide : 0 + 8 ≤ _)⟩)
  dsimp only [Pt.U, Pt.locs, Pt.cells, Pt.slots] at X2 l2 y2 z2 st2 hQ2 hS2 hgr2 C2q
  subst l2 y2 z2
  have Sf_oa_2 := C2q.safe F_oa_coder.lt Sf_oa
  have C2 := C0.trans C2q
  have hS := foldS hS (by rw [e0]; exact hk0) hS2 hgr2
  have hk2 : T2.heap.size ≤ T2.heap.size := Nat.le_refl _
  have hZ : Z.Warmed39 T2.vm := State.Warmed39.trans (t := s) hZ hS2.1
  have hown : T2.vm.findClass "java/lang/String" = some m.cls := by rw [hS2.1.alike.findClass]; exact hown
  have X2 : Stand p l e ({ frames := 2, cells := 4, slots := 8, locals := 29 } : Room) (s.setVm T2.vm) m #[(.ref oa), (.ref oc)] below meth c T2 _ _ _ := X2
  obtain ⟨rfl, N2q, K2q, c2_1⟩ := hQ2
  refine own_FinH.go (fun t k => st2.trans k) ?_
  have N2 := Fr.app N0 N2q
  have Z2 := Nat.le_trans Z0 K2q.1
  have K2 := K0.trans K2q (allS (Or.inl (List.mem_of_getElem? (i := 0) rfl)) all0)
  show own_FinH _ _ _ _ _ _ _ _ (T2.setTop (mkF m 9 #[.val (.ref oa), .val (.ref oc)] []))
  refine own_ret0H (s := s) (vm₁ := T2.vm) X2 hx hS hk2 Bd.returns (hb hby own_dsic0_9) Bd.notSynchronized (by decide) (by decide) (C2.trans (CHv.at (s := s) (vm0 := T2.vm) X2 hZ hEL C2.1)) ?_
  exact ⟨rfl, N2, K2, c2_1⟩
theorem own_pd8 : parseMethodDescriptor "([C)V" = some ⟨[(.array .char)], none⟩ := by decide +kernel
theorem own_dstr_0 : decode method_2_code 0 = .ok (.iload_n 0, 1) := by decide +kernel
theorem own_dstr_1 : decode method_2_code 1 = .ok (.bipush 16, 2) := by decide +kernel
theorem own_dstr_3 : decode method_2_code 3 = .ok (.iushr, 1) := by decide +kernel
theorem own_dstr_4 : decode method_2_code 4 = .ok (.iconst 3, 1) := by decide +kernel
theorem own_dstr_5 : decode method_2_code 5 = .ok (.iand, 1) := by decide +kernel
theorem own_dstr_6 : decode method_2_code 6 = .ok (.istore_n 1, 1) := by decide +kernel
theorem own_dstr_7 : decode method_2_code 7 = .ok (.iload_n 0, 1) := by decide +kernel
theorem own_dstr_8 : decode method_2_code 8 = .ok (.sipush 255, 3) := by decide +kernel
theorem own_dstr_11 : decode method_2_code 11 = .ok (.iand, 1) := by decide +kernel
theorem own_dstr_12 : decode method_2_code 12 = .ok (.i2c, 1) := by decide +kernel
theorem own_dstr_13 : decode method_2_code 13 = .ok (.istore_n 2, 1) := by decide +kernel
theorem own_dstr_14 : decode method_2_code 14 = .ok (.iload_n 0, 1) := by decide +kernel
theorem own_dstr_15 : decode method_2_code 15 = .ok (.bipush 8, 2) := by decide +kernel
theorem own_dstr_17 : decode method_2_code 17 = .ok (.iushr, 1) := by decide +kernel
theorem own_dstr_18 : decode method_2_code 18 = .ok (.sipush 255, 3) := by decide +kernel
theorem own_dstr_21 : decode method_2_code 21 = .ok (.iand, 1) := by decide +kernel
theorem own_dstr_22 : decode method_2_code 22 = .ok (.i2c, 1) := by decide +kernel
theorem own_dstr_23 : decode method_2_code 23 = .ok (.istore_n 3, 1) := by decide +kernel
theorem own_dstr_24 : decode method_2_code 24 = .ok (.iload_n 1, 1) := by decide +kernel
theorem own_dstr_25 : decode method_2_code 25 = .ok (.ifCond .ne 14, 3) := by decide +kernel
theorem own_dstr_28 : decode method_2_code 28 = .ok (.new 7, 3) := by decide +kernel
theorem own_dstr_31 : decode method_2_code 31 = .ok (.dup, 1) := by decide +kernel
theorem own_dstr_32 : decode method_2_code 32 = .ok (.iconst 0, 1) := by decide +kernel
theorem own_dstr_33 : decode method_2_code 33 = .ok (.newarray .char, 2) := by decide +kernel
theorem own_dstr_35 : decode method_2_code 35 = .ok (.invokespecial 9, 3) := by decide +kernel
theorem own_dstr_38 : decode method_2_code 38 = .ok (.areturn, 1) := by decide +kernel
theorem own_dstr_39 : decode method_2_code 39 = .ok (.iload_n 1, 1) := by decide +kernel
theorem own_dstr_40 : decode method_2_code 40 = .ok (.iconst 1, 1) := by decide +kernel
theorem own_dstr_41 : decode method_2_code 41 = .ok (.if_icmp .ne 18, 3) := by decide +kernel
theorem own_dstr_44 : decode method_2_code 44 = .ok (.new 7, 3) := by decide +kernel
theorem own_dstr_47 : decode method_2_code 47 = .ok (.dup, 1) := by decide +kernel
theorem own_dstr_48 : decode method_2_code 48 = .ok (.iconst 1, 1) := by decide +kernel
theorem own_dstr_49 : decode method_2_code 49 = .ok (.newarray .char, 2) := by decide +kernel
theorem own_dstr_51 : decode method_2_code 51 = .ok (.dup, 1) := by decide +kernel
theorem own_dstr_52 : decode method_2_code 52 = .ok (.iconst 0, 1) := by decide +kernel
theorem own_dstr_53 : decode method_2_code 53 = .ok (.iload_n 2, 1) := by decide +kernel
theorem own_dstr_54 : decode method_2_code 54 = .ok (.castore, 1) := by decide +kernel
theorem own_dstr_55 : decode method_2_code 55 = .ok (.invokespecial 9, 3) := by decide +kernel
theorem own_dstr_58 : decode method_2_code 58 = .ok (.areturn, 1) := by decide +kernel
theorem own_dstr_59 : decode method_2_code 59 = .ok (.new 7, 3) := by decide +kernel
theorem own_dstr_62 : decode method_2_code 62 = .ok (.dup, 1) := by decide +kernel
theorem own_dstr_63 : decode method_2_code 63 = .ok (.iconst 2, 1) := by decide +kernel
theorem own_dstr_64 : decode method_2_code 64 = .ok (.newarray .char, 2) := by decide +kernel
theorem own_dstr_66 : decode method_2_code 66 = .ok (.dup, 1) := by decide +kernel
theorem own_dstr_67 : decode method_2_code 67 = .ok (.iconst 0, 1) := by decide +kernel
theorem own_dstr_68 : decode method_2_code 68 = .ok (.iload_n 2, 1) := by decide +kernel
theorem own_dstr_69 : decode method_2_code 69 = .ok (.castore, 1) := by decide +kernel
theorem own_dstr_70 : decode method_2_code 70 = .ok (.dup, 1) := by decide +kernel
theorem own_dstr_71 : decode method_2_code 71 = .ok (.iconst 1, 1) := by decide +kernel
theorem own_dstr_72 : decode method_2_code 72 = .ok (.iload_n 3, 1) := by decide +kernel
theorem own_dstr_73 : decode method_2_code 73 = .ok (.castore, 1) := by decide +kernel
theorem own_dstr_74 : decode method_2_code 74 = .ok (.invokespecial 9, 3) := by decide +kernel
theorem own_dstr_77 : decode method_2_code 77 = .ok (.areturn, 1) := by decide +kernel
theorem own_ef_str (m : MethodId) (va : Int32) : entryFrame m #[(.int va)] 4 = mkF m 0 #[.val (.int va), .unset, .unset, .unset] [] := by first | (simp [entryFrame, mkF, argsToLocals, Value.category]; done) | rfl
def own_Q_str (Z : State) (va : Int32) (vcs : Int32) (h0 : Heap) (n0 : Nat) (v : Option Value) (h : Heap) (L : List Loc) : Prop := ∃ ob : Addr, v = some (.ref ob) ∧ Fr n0 L ∧ Keep h0 h [] ∧ Exa Z h ob "java/lang/String" ∧ h0.size ≤ ob
set_option maxRecDepth 65536 in
set_option maxHeartbeats 40000000 in
theorem own_rm_str (l : Launch) (Z : State) (a0 : Array Value) (hw : ∀ d ∈ tables_1, d.before a0 Z = true) (ws : List Jvm.Cond) (va : Int32) (vcs : Int32) (h0 : Heap) (n0 : Nat) (Z0 : n0 ≤ h0.size) (S_COMPACT_STRINGS : Sta Z h0 "java/lang/String" "COMPACT_STRINGS" "Z" (.int vcs)) (hcs : ¬ vcs = 0) :
    MetFree l (⟨"com/example/wardkeeper/wardkeeper/patient/IdentifierTypeKeyPinLaw", "str", "(I)Ljava/lang/String;"⟩ : MethodName) (head1 (Jvm.Cond.code (⟨"com/example/wardkeeper/wardkeeper/patient/IdentifierTypeKeyPinLaw", "str", "(I)Ljava/lang/String;"⟩ : MethodName) method_2_code 4 (some (.object "java/lang/String")) :: ws) ({ frames := 4, cells := 6, slots := 12, locals := 66 } : Room)) (fun a U => a = #[(.int va)] ∧ Z.Warmed39 U.vm ∧ U.heap = h0 ∧ CHv Z own_EL U.vm h0) (fun _ _ _ _ _ => True) (fun _ U o U' => ∃ v L, o = .returned v ∧ own_Q_str Z va vcs h0 n0 v U'.heap L ∧ CHr Z own_EL U.vm U.heap U'.vm U'.heap ∧ ReturnedEndW U o U' L ({ frames := 4, cells := 6, slots := 12, locals := 66 } : Room).cells ({ frames := 4, cells := 6, slots := 12, locals := 66 } : Room).slots) := by
  refine MetFree.of_bodySF (plainFor_of_name own_pn9) hisR ?_
  intro p e s m args below meth c s₁ Bd hml0 hP hK
  obtain ⟨rfl, hZ, hh, hCH⟩ := hP
  have hx := Bd.exec
  have hby := Bd.bytes
  have hml : c.maxLocals = 4 := hml0
  have hown : s.vm.findClass "com/example/wardkeeper/wardkeeper/patient/IdentifierTypeKeyPinLaw" = some m.cls := findClass_of_methodNamed Bd.named
  have hnm := (name_of_methodNamed Bd.named Bd.method).1
  have X0 : Stand p l e ({ frames := 4, cells := 6, slots := 12, locals := 66 } : Room) s m #[(.int va)] below meth c s₁ [] 0 0 := Stand.of_body Bd
  have e0 : s₁.heap = h0 := by rw [← hh, Bd.state]; rfl
  have N0 := Fr.nil n0
  have K0 := Keep.refl h0 []
  have hS : s.Since s.vm 0 := State.WarmedH.since (State.WarmedH.refl s) 0
  have hk0 : 0 ≤ h0.size := Nat.zero_le _
  have hEL : EW Z a0 own_EL := EW.cons (hw _ (List.mem_of_getElem? (i := 18) rfl)) (by decide) (EW.nil)
  have C0 : CHr Z own_EL s.vm s.heap s.vm h0 := by rw [hh]; exact CHr.refl hCH
  have wS : ∀ a ∈ Bundle.stringAtoms, a.before a0 Z = true := by
    intro a ha
    simp only [Bundle.stringAtoms, Bundle.sN, List.mem_cons, List.not_mem_nil, or_false] at ha
    rcases ha with rfl | rfl | rfl | rfl | rfl | rfl | rfl
    · exact (hw _ (List.mem_of_getElem? (i := 6) rfl))
    · exact (hw _ (List.mem_of_getElem? (i := 5) rfl))
    · exact (hw _ (List.mem_of_getElem? (i := 19) rfl))
    · exact (hw _ (List.mem_of_getElem? (i := 20) rfl))
    · exact (hw _ (List.mem_of_getElem? (i := 21) rfl))
    · exact (hw _ (List.mem_of_getElem? (i := 22) rfl))
    · exact (hw _ (List.mem_of_getElem? (i := 23) rfl))
  show own_FinH p e below s (own_Q_str Z va vcs h0 n0) (CHr Z own_EL s.vm s.heap) ({ frames := 4, cells := 6, slots := 12, locals := 66 } : Room).cells ({ frames := 4, cells := 6, slots := 12, locals := 66 } : Room).slots (s₁.setTop (entryFrame m #[(.int va)] 4))
  refine own_FinH.go (fun t k => castTop (own_ef_str m va) k) ?_
  refine own_FinH.go (fun t k => XS.iloadN X0.here hx rfl (hb hby own_dstr_0) rfl k) ?_
  show own_FinH _ _ _ _ _ _ _ _ (s₁.setTop (mkF m 1 #[.val (.int va), .unset, .unset, .unset] [(.int va)]))
  refine own_FinH.go (fun t k => XS.bipush X0.here hx rfl (hb hby own_dstr_1) k) ?_
  show own_FinH _ _ _ _ _ _ _ _ (s₁.setTop (mkF m 3 #[.val (.int va), .unset, .unset, .unset] [(.int (16 : Int32)), (.int va)]))
  refine own_FinH.go (fun t k => XS.iushr X0.here hx rfl (hb hby own_dstr_3) rfl k) ?_
  show own_FinH _ _ _ _ _ _ _ _ (s₁.setTop (mkF m 4 #[.val (.int va), .unset, .unset, .unset] [(.int ((va.toUInt32 >>> ((16 : Int32) &&& 31).toUInt32).toInt32))]))
  refine own_FinH.go (fun t k => XS.iconst X0.here hx rfl (hb hby own_dstr_4) k) ?_
  show own_FinH _ _ _ _ _ _ _ _ (s₁.setTop (mkF m 5 #[.val (.int va), .unset, .unset, .unset] [(.int (3 : Int32)), (.int ((va.toUInt32 >>> ((16 : Int32) &&& 31).toUInt32).toInt32))]))
  refine own_FinH.go (fun t k => XS.iand X0.here hx rfl (hb hby own_dstr_5) rfl k) ?_
  show own_FinH _ _ _ _ _ _ _ _ (s₁.setTop (mkF m 6 #[.val (.int va), .unset, .unset, .unset] [(.int (((va.toUInt32 >>> ((16 : Int32) &&& 31).toUInt32).toInt32) &&& (3 : Int32)))]))
  refine own_FinH.go (fun t k => XS.istoreN X0.here hx rfl (hb hby own_dstr_6) rfl (l' := #[.val (.int va), .val (.int (((va.toUInt32 >>> ((16 : Int32) &&& 31).toUInt32).toInt32) &&& (3 : Int32))), .unset, .unset]) rfl k) ?_
  show own_FinH _ _ _ _ _ _ _ _ (s₁.setTop (mkF m 7 #[.val (.int va), .val (.int (((va.toUInt32 >>> ((16 : Int32) &&& 31).toUInt32).toInt32) &&& (3 : Int32))), .unset, .unset] []))
  refine own_FinH.go (fun t k => XS.iloadN X0.here hx rfl (hb hby own_dstr_7) rfl k) ?_
  show own_FinH _ _ _ _ _ _ _ _ (s₁.setTop (mkF m 8 #[.val (.int va), .val (.int (((va.toUInt32 >>> ((16 : Int32) &&& 31).toUInt32).toInt32) &&& (3 : Int32))), .unset, .unset] [(.int va)]))
  refine own_FinH.go (fun t k => XS.sipush X0.here hx rfl (hb hby own_dstr_8) k) ?_
  show own_FinH _ _ _ _ _ _ _ _ (s₁.setTop (mkF m 11 #[.val (.int va), .val (.int (((va.toUInt32 >>> ((16 : Int32) &&& 31).toUInt32).toInt32) &&& (3 : Int32))), .unset, .unset] [(.int (255 : Int32)), (.int va)]))
  refine own_FinH.go (fun t k => XS.iand X0.here hx rfl (hb hby own_dstr_11) rfl k) ?_
  show own_FinH _ _ _ _ _ _ _ _ (s₁.setTop (mkF m 12 #[.val (.int va), .val (.int (((va.toUInt32 >>> ((16 : Int32) &&& 31).toUInt32).toInt32) &&& (3 : Int32))), .unset, .unset] [(.int (va &&& (255 : Int32)))]))
  refine own_FinH.go (fun t k => XS.i2c X0.here hx rfl (hb hby own_dstr_12) rfl k) ?_
  show own_FinH _ _ _ _ _ _ _ _ (s₁.setTop (mkF m 13 #[.val (.int va), .val (.int (((va.toUInt32 >>> ((16 : Int32) &&& 31).toUInt32).toInt32) &&& (3 : Int32))), .unset, .unset] [(.int ((va &&& (255 : Int32)).toUInt32.toUInt16.toUInt32.toInt32))]))
  refine own_FinH.go (fun t k => XS.istoreN X0.here hx rfl (hb hby own_dstr_13) rfl (l' := #[.val (.int va), .val (.int (((va.toUInt32 >>> ((16 : Int32) &&& 31).toUInt32).toInt32) &&& (3 : Int32))), .val (.int ((va &&& (255 : Int32)).toUInt32.toUInt16.toUInt32.toInt32)), .unset]) rfl k) ?_
  show own_FinH _ _ _ _ _ _ _ _ (s₁.setTop (mkF m 14 #[.val (.int va), .val (.int (((va.toUInt32 >>> ((16 : Int32) &&& 31).toUInt32).toInt32) &&& (3 : Int32))), .val (.int ((va &&& (255 : Int32)).toUInt32.toUInt16.toUInt32.toInt32)), .unset] []))
  refine own_FinH.go (fun t k => XS.iloadN X0.here hx rfl (hb hby own_dstr_14) rfl k) ?_
  show own_FinH _ _ _ _ _ _ _ _ (s₁.setTop (mkF m 15 #[.val (.int va), .val (.int (((va.toUInt32 >>> ((16 : Int32) &&& 31).toUInt32).toInt32) &&& (3 : Int32))), .val (.int ((va &&& (255 : Int32)).toUInt32.toUInt16.toUInt32.toInt32)), .unset] [(.int va)]))
  refine own_FinH.go (fun t k => XS.bipush X0.here hx rfl (hb hby own_dstr_15) k) ?_
  show own_FinH _ _ _ _ _ _ _ _ (s₁.setTop (mkF m 17 #[.val (.int va), .val (.int (((va.toUInt32 >>> ((16 : Int32) &&& 31).toUInt32).toInt32) &&& (3 : Int32))), .val (.int ((va &&& (255 : Int32)).toUInt32.toUInt16.toUInt32.toInt32)), .unset] [(.int (8 : Int32)), (.int va)]))
  refine own_FinH.go (fun t k => XS.iushr X0.here hx rfl (hb hby own_dstr_17) rfl k) ?_
  show own_FinH _ _ _ _ _ _ _ _ (s₁.setTop (mkF m 18 #[.val (.int va), .val (.int (((va.toUInt32 >>> ((16 : Int32) &&& 31).toUInt32).toInt32) &&& (3 : Int32))), .val (.int ((va &&& (255 : Int32)).toUInt32.toUInt16.toUInt32.toInt32)), .unset] [(.int ((va.toUInt32 >>> ((8 : Int32) &&& 31).toUInt32).toInt32))]))
  refine own_FinH.go (fun t k => XS.sipush X0.here hx rfl (hb hby own_dstr_18) k) ?_
  show own_FinH _ _ _ _ _ _ _ _ (s₁.setTop (mkF m 21 #[.val (.int va), .val (.int (((va.toUInt32 >>> ((16 : Int32) &&& 31).toUInt32).toInt32) &&& (3 : Int32))), .val (.int ((va &&& (255 : Int32)).toUInt32.toUInt16.toUInt32.toInt32)), .unset] [(.int (255 : Int32)), (.int ((va.toUInt32 >>> ((8 : Int32) &&& 31).toUInt32).toInt32))]))
  refine own_FinH.go (fun t k => XS.iand X0.here hx rfl (hb hby own_dstr_21) rfl k) ?_
  show own_FinH _ _ _ _ _ _ _ _ (s₁.setTop (mkF m 22 #[.val (.int va), .val (.int (((va.toUInt32 >>> ((16 : Int32) &&& 31).toUInt32).toInt32) &&& (3 : Int32))), .val (.int ((va &&& (255 : Int32)).toUInt32.toUInt16.toUInt32.toInt32)), .unset] [(.int (((va.toUInt32 >>> ((8 : Int32) &&& 31).toUInt32).toInt32) &&& (255 : Int32)))]))
  refine own_FinH.go (fun t k => XS.i2c X0.here hx rfl (hb hby own_dstr_22) rfl k) ?_
  show own_FinH _ _ _ _ _ _ _ _ (s₁.setTop (mkF m 23 #[.val (.int va), .val (.int (((va.toUInt32 >>> ((16 : Int32) &&& 31).toUInt32).toInt32) &&& (3 : Int32))), .val (.int ((va &&& (255 : Int32)).toUInt32.toUInt16.toUInt32.toInt32)), .unset] [(.int ((((va.toUInt32 >>> ((8 : Int32) &&& 31).toUInt32).toInt32) &&& (255 : Int32)).toUInt32.toUInt16.toUInt32.toInt32))]))
  refine own_FinH.go (fun t k => XS.istoreN X0.here hx rfl (hb hby own_dstr_23) rfl (l' := #[.val (.int va), .val (.int (((va.toUInt32 >>> ((16 : Int32) &&& 31).toUInt32).toInt32) &&& (3 : Int32))), .val (.int ((va &&& (255 : Int32)).toUInt32.toUInt16.toUInt32.toInt32)), .val (.int ((((va.toUInt32 >>> ((8 : Int32) &&& 31).toUInt32).toInt32) &&& (255 : Int32)).toUInt32.toUInt16.toUInt32.toInt32))]) rfl k) ?_
  show own_FinH _ _ _ _ _ _ _ _ (s₁.setTop (mkF m 24 #[.val (.int va), .val (.int (((va.toUInt32 >>> ((16 : Int32) &&& 31).toUInt32).toInt32) &&& (3 : Int32))), .val (.int ((va &&& (255 : Int32)).toUInt32.toUInt16.toUInt32.toInt32)), .val (.int ((((va.toUInt32 >>> ((8 : Int32) &&& 31).toUInt32).toInt32) &&& (255 : Int32)).toUInt32.toUInt16.toUInt32.toInt32))] []))
  refine own_FinH.go (fun t k => XS.iloadN X0.here hx rfl (hb hby own_dstr_24) rfl k) ?_
  show own_FinH _ _ _ _ _ _ _ _ (s₁.setTop (mkF m 25 #[.val (.int va), .val (.int (((va.toUInt32 >>> ((16 : Int32) &&& 31).toUInt32).toInt32) &&& (3 : Int32))), .val (.int ((va &&& (255 : Int32)).toUInt32.toUInt16.toUInt32.toInt32)), .val (.int ((((va.toUInt32 >>> ((8 : Int32) &&& 31).toUInt32).toInt32) &&& (255 : Int32)).toUInt32.toUInt16.toUInt32.toInt32))] [(.int (((va.toUInt32 >>> ((16 : Int32) &&& 31).toUInt32).toInt32) &&& (3 : Int32)))]))
  by_cases hc25 : (((va.toUInt32 >>> ((16 : Int32) &&& 31).toUInt32).toInt32) &&& (3 : Int32)) = (0 : Int32)
  · refine own_FinH.go (fun t k => XS.ifNo X0.here hx rfl (hb hby own_dstr_25) rfl (Jvm.Free.XT.i0_ne_f hc25) k) ?_
    show own_FinH _ _ _ _ _ _ _ _ (s₁.setTop (mkF m 28 #[.val (.int va), .val (.int (((va.toUInt32 >>> ((16 : Int32) &&& 31).toUInt32).toInt32) &&& (3 : Int32))), .val (.int ((va &&& (255 : Int32)).toUInt32.toUInt16.toUInt32.toInt32)), .val (.int ((((va.toUInt32 >>> ((8 : Int32) &&& 31).toUInt32).toInt32) &&& (255 : Int32)).toUInt32.toUInt16.toUInt32.toInt32))] []))
    obtain ⟨T1, h1, X1, e1, E1, A1, D1, -, st1⟩ := newO X0 hx hZ hown (hw _ (List.mem_of_getElem? (i := 4) rfl)) (hw _ (List.mem_of_getElem? (i := 5) rfl)) (hw _ (List.mem_of_getElem? (i := 6) rfl)) e0 (g := (mkF m 28 #[.val (.int va), .val (.int (((va.toUInt32 >>> ((16 : Int32) &&& 31).toUInt32).toInt32) &&& (3 : Int32))), .val (.int ((va &&& (255 : Int32)).toUInt32.toUInt16.toUInt32.toInt32)), .val (.int ((((va.toUInt32 >>> ((8 : Int32) &&& 31).toUInt32).toInt32) &&& (255 : Int32)).toUInt32.toUInt16.toUInt32.toInt32))] [])) rfl (hb hby own_dstr_28) (by decide) (by decide)
    obtain ⟨b1, g1⟩ : ∃ z, z = h0.size := ⟨_, rfl⟩
    rw [← g1] at A1 D1 st1
    refine own_FinH.go st1 ?_
    have g_b1 : n0 ≤ b1 := Nat.le_trans Z0 (Nat.le_of_eq g1.symm)
    have sz_b1 : h0.size ≤ b1 := Nat.le_trans K0.1 (Nat.le_of_eq g1.symm)
    have Sf_b1 : Safe Z own_EL (s.vm) h0 b1 := Safe.new (Nat.le_of_eq g1.symm)
    have S_COMPACT_STRINGS_1 := Sta.ext E1 S_COMPACT_STRINGS
    have Z1 := Nat.le_trans Z0 E1.1
    have hk1 := Nat.le_trans hk0 E1.1
    have K1 := K0.ext E1
    have Sf_b1_1 := Safe.ext E1 C0.1 Sf_b1
    have C1 := C0.trans (CHr.ext E1 C0.1)
    have F_b1_value : Fld Z h1 b1 "java/lang/String" "value" "[B" .null := D1 (Or.inr (hw _ (List.mem_of_getElem? (i := 20) rfl))) (ty := (.array .byte)) (by decide)
    have F_b1_coder : Fld Z h1 b1 "java/lang/String" "coder" "B" (.int (0 : Int32)) := D1 (Or.inr (hw _ (List.mem_of_getElem? (i := 21) rfl))) (ty := .byte) (by decide)
    show own_FinH _ _ _ _ _ _ _ _ (T1.setTop (mkF m 31 #[.val (.int va), .val (.int (((va.toUInt32 >>> ((16 : Int32) &&& 31).toUInt32).toInt32) &&& (3 : Int32))), .val (.int ((va &&& (255 : Int32)).toUInt32.toUInt16.toUInt32.toInt32)), .val (.int ((((va.toUInt32 >>> ((8 : Int32) &&& 31).toUInt32).toInt32) &&& (255 : Int32)).toUInt32.toUInt16.toUInt32.toInt32))] [(.ref b1)]))
    refine own_FinH.go (fun t k => XS.dup X1.here hx rfl (hb hby own_dstr_31) rfl rfl k) ?_
    show own_FinH _ _ _ _ _ _ _ _ (T1.setTop (mkF m 32 #[.val (.int va), .val (.int (((va.toUInt32 >>> ((16 : Int32) &&& 31).toUInt32).toInt32) &&& (3 : Int32))), .val (.int ((va &&& (255 : Int32)).toUInt32.toUInt16.toUInt32.toInt32)), .val (.int ((((va.toUInt32 >>> ((8 : Int32) &&& 31).toUInt32).toInt32) &&& (255 : Int32)).toUInt32.toUInt16.toUInt32.toInt32))] [(.ref b1), (.ref b1)]))
    refine own_FinH.go (fun t k => XS.iconst X1.here hx rfl (hb hby own_dstr_32) k) ?_
    show own_FinH _ _ _ _ _ _ _ _ (T1.setTop (mkF m 33 #[.val (.int va), .val (.int (((va.toUInt32 >>> ((16 : Int32) &&& 31).toUInt32).toInt32) &&& (3 : Int32))), .val (.int ((va &&& (255 : Int32)).toUInt32.toUInt16.toUInt32.toInt32)), .val (.int ((((va.toUInt32 >>> ((8 : Int32) &&& 31).toUInt32).toInt32) &&& (255 : Int32)).toUInt32.toUInt16.toUInt32.toInt32))] [(.int (0 : Int32)), (.ref b1), (.ref b1)]))
    obtain ⟨T2, h2, k2, X2, e2, E2, A2, st2⟩ := newP X1 hx hZ (hw _ (List.mem_of_getElem? (i := 7) rfl)) e1 (g := (mkF m 33 #[.val (.int va), .val (.int (((va.toUInt32 >>> ((16 : Int32) &&& 31).toUInt32).toInt32) &&& (3 : Int32))), .val (.int ((va &&& (255 : Int32)).toUInt32.toUInt16.toUInt32.toInt32)), .val (.int ((((va.toUInt32 >>> ((8 : Int32) &&& 31).toUInt32).toInt32) &&& (255 : Int32)).toUInt32.toUInt16.toUInt32.toInt32))] [(.int (0 : Int32)), (.ref b1), (.ref b1)])) rfl (hb hby own_dstr_33) rfl (by decide) (cap := 0) (by decide) (by decide) (by decide) (by decide)
    obtain ⟨b2, g2⟩ : ∃ z, z = h1.size := ⟨_, rfl⟩
    rw [← g2] at A2 st2
    refine own_FinH.go st2 ?_
    have g_b2 : n0 ≤ b2 := Nat.le_trans Z1 (Nat.le_of_eq g2.symm)
    have sz_b2 : h0.size ≤ b2 := Nat.le_trans K1.1 (Nat.le_of_eq g2.symm)
    have ne_b1_b2 : b1 ≠ b2 := Nat.ne_of_lt (Nat.lt_of_lt_of_le F_b1_coder.lt (Nat.le_of_eq g2.symm))
    have Sf_b2 : Safe Z own_EL (s.vm) h1 b2 := Safe.new (Nat.le_of_eq g2.symm)
    have S_COMPACT_STRINGS_2 := Sta.ext E2 S_COMPACT_STRINGS_1
    have E_b1_2 := Exa.ext E2 A1
    have F_b1_value_2 := Fld.ext E2 F_b1_value
    have F_b1_coder_2 := Fld.ext E2 F_b1_coder
    have Z2 := Nat.le_trans Z1 E2.1
    have hk2 := Nat.le_trans hk1 E2.1
    have K2 := K1.ext E2
    have Sf_b1_2 := Safe.ext E2 C1.1 Sf_b1_1
    have Sf_b2_2 := Safe.ext E2 C1.1 Sf_b2
    have C2 := C1.trans (CHr.ext E2 C1.1)
    have V_b2 : Arv Z h2 b2 k2 .char (0 : Int32) [] (.int (0 : Int32)) := (Arv.new A2 (by decide)).pad (pad_rep [] (.int (0 : Int32)) 0)
    show own_FinH _ _ _ _ _ _ _ _ (T2.setTop (mkF m 35 #[.val (.int va), .val (.int (((va.toUInt32 >>> ((16 : Int32) &&& 31).toUInt32).toInt32) &&& (3 : Int32))), .val (.int ((va &&& (255 : Int32)).toUInt32.toUInt16.toUInt32.toInt32)), .val (.int ((((va.toUInt32 >>> ((8 : Int32) &&& 31).toUInt32).toInt32) &&& (255 : Int32)).toUInt32.toUInt16.toUInt32.toInt32))] [(.ref b2), (.ref b1), (.ref b1)]))
    obtain ⟨_, _, ⟨T3, L3, k3, n3⟩, -, X3, hS3, hgr3, ⟨Lc3, hQ3, l3, y3, z3, C3q⟩, st3⟩ := X2.specialBackS hx (y := (⟨"java/lang/String", "<init>", "([C)V"⟩ : MethodName)) rfl hown (mvT hZ (hw _ (List.mem_of_getElem? (i := 8) rfl))) (mvT hZ (hw _ (List.mem_of_getElem? (i := 9) rfl))) (mvT hZ (hw _ (List.mem_of_getElem? (i := 10) rfl))) (by decide) (backOfSH (s := s) (vm0 := s.vm) (W := 1) (own_rm_sic0 l Z a0 hw [] b1 b2 k2 h2 n0 Z2 E_b1_2 F_b1_value_2 F_b1_coder_2 g_b1 V_b2 ne_b1_b2) hZ (hw _ (List.mem_of_getElem? (i := 10) rfl)) (hw _ (List.mem_of_getElem? (i := 6) rfl)) (by decide) (by decide) hEL C2.1) (g := (mkF m 35 #[.val (.int va), .val (.int (((va.toUInt32 >>> ((16 : Int32) &&& 31).toUInt32).toInt32) &&& (3 : Int32))), .val (.int ((va &&& (255 : Int32)).toUInt32.toUInt16.toUInt32.toInt32)), .val (.int ((((va.toUInt32 >>> ((8 : Int32) &&& 31).toUInt32).toInt32) &&& (255 : Int32)).toUInt32.toUInt16.toUInt32.toInt32))] [(.ref b2), (.ref b1), (.ref b1)])) rfl (by rw [hml]; rfl) (Steps.refl _) (a := b1) (argsL := [(.ref b2)]) (rest := [(.ref b1)]) (lenOf own_pd8 rfl) rfl (by show 2 * 0 + _ ≤ _; exact Nat.le_of_eq rfl) (hb hby own_dstr_35) (fun _ _ => ⟨rfl, e2, (by decide : 2 + 4 ≤ _), (by decide : 4 + 8 ≤ _)⟩)
    dsimp only [Pt.U, Pt.locs, Pt.cells, Pt.slots] at X3 l3 y3 z3 st3 hQ3 hS3 hgr3 C3q
    subst l3 y3 z3
    have Sf_b1_3 := C3q.safe F_b1_coder_2.lt Sf_b1_2
    have C3 := C2.trans C3q
    have hS := foldS hS (by rw [e2]; exact hk2) hS3 hgr3
    have hk3 : T3.heap.size ≤ T3.heap.size := Nat.le_refl _
    have hZ : Z.Warmed39 T3.vm := State.Warmed39.trans (t := s) hZ hS3.1
    have hown : T3.vm.findClass "com/example/wardkeeper/wardkeeper/patient/IdentifierTypeKeyPinLaw" = some m.cls := by rw [hS3.1.alike.findClass]; exact hown
    have X3 : Stand p l e ({ frames := 4, cells := 6, slots := 12, locals := 66 } : Room) (s.setVm T3.vm) m #[(.int va)] below meth c T3 _ _ _ := X3
    obtain ⟨rfl, N3q, K3q, c3_1⟩ := hQ3
    refine own_FinH.go (fun t k => st3.trans k) ?_
    have N3 := Fr.app N0 N3q
    have Z3 := Nat.le_trans Z2 K3q.1
    have K3 := K2.trans K3q (allS (Or.inr sz_b1) all0)
    show own_FinH _ _ _ _ _ _ _ _ (T3.setTop (mkF m 38 #[.val (.int va), .val (.int (((va.toUInt32 >>> ((16 : Int32) &&& 31).toUInt32).toInt32) &&& (3 : Int32))), .val (.int ((va &&& (255 : Int32)).toUInt32.toUInt16.toUInt32.toInt32)), .val (.int ((((va.toUInt32 >>> ((8 : Int32) &&& 31).toUInt32).toInt32) &&& (255 : Int32)).toUInt32.toUInt16.toUInt32.toInt32))] [(.ref b1)]))
    refine own_retAH (s := s) (vm₁ := T3.vm) X3 hx hS hk3 Bd.returns rfl (hb hby own_dstr_38) Bd.notSynchronized (by decide) (by decide) (C3.trans (CHv.at (s := s) (vm0 := T3.vm) X3 hZ hEL C3.1)) ?_
    exact ⟨_, rfl, N3, K3, c3_1, sz_b1⟩
  · refine own_FinH.go (fun t k => XS.ifYes X0.here hx rfl (pc0 := 25) (pc' := 39) rfl (hb hby own_dstr_25) rfl (Jvm.Free.XT.i0_ne_t hc25) (by decide) (by decide) k) ?_
    show own_FinH _ _ _ _ _ _ _ _ (s₁.setTop (mkF m 39 #[.val (.int va), .val (.int (((va.toUInt32 >>> ((16 : Int32) &&& 31).toUInt32).toInt32) &&& (3 : Int32))), .val (.int ((va &&& (255 : Int32)).toUInt32.toUInt16.toUInt32.toInt32)), .val (.int ((((va.toUInt32 >>> ((8 : Int32) &&& 31).toUInt32).toInt32) &&& (255 : Int32)).toUInt32.toUInt16.toUInt32.toInt32))] []))
    refine own_FinH.go (fun t k => XS.iloadN X0.here hx rfl (hb hby own_dstr_39) rfl k) ?_
    show own_FinH _ _ _ _ _ _ _ _ (s₁.setTop (mkF m 40 #[.val (.int va), .val (.int (((va.toUInt32 >>> ((16 : Int32) &&& 31).toUInt32).toInt32) &&& (3 : Int32))), .val (.int ((va &&& (255 : Int32)).toUInt32.toUInt16.toUInt32.toInt32)), .val (.int ((((va.toUInt32 >>> ((8 : Int32) &&& 31).toUInt32).toInt32) &&& (255 : Int32)).toUInt32.toUInt16.toUInt32.toInt32))] [(.int (((va.toUInt32 >>> ((16 : Int32) &&& 31).toUInt32).toInt32) &&& (3 : Int32)))]))
    refine own_FinH.go (fun t k => XS.iconst X0.here hx rfl (hb hby own_dstr_40) k) ?_
    show own_FinH _ _ _ _ _ _ _ _ (s₁.setTop (mkF m 41 #[.val (.int va), .val (.int (((va.toUInt32 >>> ((16 : Int32) &&& 31).toUInt32).toInt32) &&& (3 : Int32))), .val (.int ((va &&& (255 : Int32)).toUInt32.toUInt16.toUInt32.toInt32)), .val (.int ((((va.toUInt32 >>> ((8 : Int32) &&& 31).toUInt32).toInt32) &&& (255 : Int32)).toUInt32.toUInt16.toUInt32.toInt32))] [(.int (1 : Int32)), (.int (((va.toUInt32 >>> ((16 : Int32) &&& 31).toUInt32).toInt32) &&& (3 : Int32)))]))
    by_cases hc41 : (((va.toUInt32 >>> ((16 : Int32) &&& 31).toUInt32).toInt32) &&& (3 : Int32)) = (1 : Int32)
    · refine own_FinH.go (fun t k => XS.icmpNo X0.here hx rfl (hb hby own_dstr_41) rfl (Jvm.Free.XT.ii_ne_f hc41) k) ?_
      show own_FinH _ _ _ _ _ _ _ _ (s₁.setTop (mkF m 44 #[.val (.int va), .val (.int (((va.toUInt32 >>> ((16 : Int32) &&& 31).toUInt32).toInt32) &&& (3 : Int32))), .val (.int ((va &&& (255 : Int32)).toUInt32.toUInt16.toUInt32.toInt32)), .val (.int ((((va.toUInt32 >>> ((8 : Int32) &&& 31).toUInt32).toInt32) &&& (255 : Int32)).toUInt32.toUInt16.toUInt32.toInt32))] []))
      obtain ⟨T4, h4, X4, e4, E4, A4, D4, -, st4⟩ := newO X0 hx hZ hown (hw _ (List.mem_of_getElem? (i := 4) rfl)) (hw _ (List.mem_of_getElem? (i := 5) rfl)) (hw _ (List.mem_of_getElem? (i := 6) rfl)) e0 (g := (mkF m 44 #[.val (.int va), .val (.int (((va.toUInt32 >>> ((16 : Int32) &&& 31).toUInt32).toInt32) &&& (3 : Int32))), .val (.int ((va &&& (255 : Int32)).toUInt32.toUInt16.toUInt32.toInt32)), .val (.int ((((va.toUInt32 >>> ((8 : Int32) &&& 31).toUInt32).toInt32) &&& (255 : Int32)).toUInt32.toUInt16.toUInt32.toInt32))] [])) rfl (hb hby own_dstr_44) (by decide) (by decide)
      obtain ⟨b4, g4⟩ : ∃ z, z = h0.size := ⟨_, rfl⟩
      rw [← g4] at A4 D4 st4
      refine own_FinH.go st4 ?_
      have g_b4 : n0 ≤ b4 := Nat.le_trans Z0 (Nat.le_of_eq g4.symm)
      have sz_b4 : h0.size ≤ b4 := Nat.le_trans K0.1 (Nat.le_of_eq g4.symm)
      have Sf_b4 : Safe Z own_EL (s.vm) h0 b4 := Safe.new (Nat.le_of_eq g4.symm)
      have S_COMPACT_STRINGS_4 := Sta.ext E4 S_COMPACT_STRINGS
      have Z4 := Nat.le_trans Z0 E4.1
      have hk4 := Nat.le_trans hk0 E4.1
      have K4 := K0.ext E4
      have Sf_b4_4 := Safe.ext E4 C0.1 Sf_b4
      have C4 := C0.trans (CHr.ext E4 C0.1)
      have F_b4_value : Fld Z h4 b4 "java/lang/String" "value" "[B" .null := D4 (Or.inr (hw _ (List.mem_of_getElem? (i := 20) rfl))) (ty := (.array .byte)) (by decide)
      have F_b4_coder : Fld Z h4 b4 "java/lang/String" "coder" "B" (.int (0 : Int32)) := D4 (Or.inr (hw _ (List.mem_of_getElem? (i := 21) rfl))) (ty := .byte) (by decide)
      show own_FinH _ _ _ _ _ _ _ _ (T4.setTop (mkF m 47 #[.val (.int va), .val (.int (((va.toUInt32 >>> ((16 : Int32) &&& 31).toUInt32).toInt32) &&& (3 : Int32))), .val (.int ((va &&& (255 : Int32)).toUInt32.toUInt16.toUInt32.toInt32)), .val (.int ((((va.toUInt32 >>> ((8 : Int32) &&& 31).toUInt32).toInt32) &&& (255 : Int32)).toUInt32.toUInt16.toUInt32.toInt32))] [(.ref b4)]))
      refine own_FinH.go (fun t k => XS.dup X4.here hx rfl (hb hby own_dstr_47) rfl rfl k) ?_
      show own_FinH _ _ _ _ _ _ _ _ (T4.setTop (mkF m 48 #[.val (.int va), .val (.int (((va.toUInt32 >>> ((16 : Int32) &&& 31).toUInt32).toInt32) &&& (3 : Int32))), .val (.int ((va &&& (255 : Int32)).toUInt32.toUInt16.toUInt32.toInt32)), .val (.int ((((va.toUInt32 >>> ((8 : Int32) &&& 31).toUInt32).toInt32) &&& (255 : Int32)).toUInt32.toUInt16.toUInt32.toInt32))] [(.ref b4), (.ref b4)]))
      refine own_FinH.go (fun t k => XS.iconst X4.here hx rfl (hb hby own_dstr_48) k) ?_
      show own_FinH _ _ _ _ _ _ _ _ (T4.setTop (mkF m 49 #[.val (.int va), .val (.int (((va.toUInt32 >>> ((16 : Int32) &&& 31).toUInt32).toInt32) &&& (3 : Int32))), .val (.int ((va &&& (255 : Int32)).toUInt32.toUInt16.toUInt32.toInt32)), .val (.int ((((va.toUInt32 >>> ((8 : Int32) &&& 31).toUInt32).toInt32) &&& (255 : Int32)).toUInt32.toUInt16.toUInt32.toInt32))] [(.int (1 : Int32)), (.ref b4), (.ref b4)]))
      obtain ⟨T5, h5, k5, X5, e5, E5, A5, st5⟩ := newP X4 hx hZ (hw _ (List.mem_of_getElem? (i := 7) rfl)) e4 (g := (mkF m 49 #[.val (.int va), .val (.int (((va.toUInt32 >>> ((16 : Int32) &&& 31).toUInt32).toInt32) &&& (3 : Int32))), .val (.int ((va &&& (255 : Int32)).toUInt32.toUInt16.toUInt32.toInt32)), .val (.int ((((va.toUInt32 >>> ((8 : Int32) &&& 31).toUInt32).toInt32) &&& (255 : Int32)).toUInt32.toUInt16.toUInt32.toInt32))] [(.int (1 : Int32)), (.ref b4), (.ref b4)])) rfl (hb hby own_dstr_49) rfl (by decide) (cap := 1) (by decide) (by decide) (by decide) (by decide)
      obtain ⟨b5, g5⟩ : ∃ z, z = h4.size := ⟨_, rfl⟩
      rw [← g5] at A5 st5
      refine own_FinH.go st5 ?_
      have g_b5 : n0 ≤ b5 := Nat.le_trans Z4 (Nat.le_of_eq g5.symm)
      have sz_b5 : h0.size ≤ b5 := Nat.le_trans K4.1 (Nat.le_of_eq g5.symm)
      have ne_b4_b5 : b4 ≠ b5 := Nat.ne_of_lt (Nat.lt_of_lt_of_le F_b4_coder.lt (Nat.le_of_eq g5.symm))
      have Sf_b5 : Safe Z own_EL (s.vm) h4 b5 := Safe.new (Nat.le_of_eq g5.symm)
      have S_COMPACT_STRINGS_5 := Sta.ext E5 S_COMPACT_STRINGS_4
      have E_b4_5 := Exa.ext E5 A4
      have F_b4_value_5 := Fld.ext E5 F_b4_value
      have F_b4_coder_5 := Fld.ext E5 F_b4_coder
      have Z5 := Nat.le_trans Z4 E5.1
      have hk5 := Nat.le_trans hk4 E5.1
      have K5 := K4.ext E5
      have Sf_b4_5 := Safe.ext E5 C4.1 Sf_b4_4
      have Sf_b5_5 := Safe.ext E5 C4.1 Sf_b5
      have C5 := C4.trans (CHr.ext E5 C4.1)
      have V_b5 : Arv Z h5 b5 k5 .char (1 : Int32) [(.int (0 : Int32))] (.int (0 : Int32)) := (Arv.new A5 (by decide)).pad (pad_rep [] (.int (0 : Int32)) 1)
      show own_FinH _ _ _ _ _ _ _ _ (T5.setTop (mkF m 51 #[.val (.int va), .val (.int (((va.toUInt32 >>> ((16 : Int32) &&& 31).toUInt32).toInt32) &&& (3 : Int32))), .val (.int ((va &&& (255 : Int32)).toUInt32.toUInt16.toUInt32.toInt32)), .val (.int ((((va.toUInt32 >>> ((8 : Int32) &&& 31).toUInt32).toInt32) &&& (255 : Int32)).toUInt32.toUInt16.toUInt32.toInt32))] [(.ref b5), (.ref b4), (.ref b4)]))
      refine own_FinH.go (fun t k => XS.dup X5.here hx rfl (hb hby own_dstr_51) rfl rfl k) ?_
      show own_FinH _ _ _ _ _ _ _ _ (T5.setTop (mkF m 52 #[.val (.int va), .val (.int (((va.toUInt32 >>> ((16 : Int32) &&& 31).toUInt32).toInt32) &&& (3 : Int32))), .val (.int ((va &&& (255 : Int32)).toUInt32.toUInt16.toUInt32.toInt32)), .val (.int ((((va.toUInt32 >>> ((8 : Int32) &&& 31).toUInt32).toInt32) &&& (255 : Int32)).toUInt32.toUInt16.toUInt32.toInt32))] [(.ref b5), (.ref b5), (.ref b4), (.ref b4)]))
      refine own_FinH.go (fun t k => XS.iconst X5.here hx rfl (hb hby own_dstr_52) k) ?_
      show own_FinH _ _ _ _ _ _ _ _ (T5.setTop (mkF m 53 #[.val (.int va), .val (.int (((va.toUInt32 >>> ((16 : Int32) &&& 31).toUInt32).toInt32) &&& (3 : Int32))), .val (.int ((va &&& (255 : Int32)).toUInt32.toUInt16.toUInt32.toInt32)), .val (.int ((((va.toUInt32 >>> ((8 : Int32) &&& 31).toUInt32).toInt32) &&& (255 : Int32)).toUInt32.toUInt16.toUInt32.toInt32))] [(.int (0 : Int32)), (.ref b5), (.ref b5), (.ref b4), (.ref b4)]))
      refine own_FinH.go (fun t k => XS.iloadN X5.here hx rfl (hb hby own_dstr_53) rfl k) ?_
      show own_FinH _ _ _ _ _ _ _ _ (T5.setTop (mkF m 54 #[.val (.int va), .val (.int (((va.toUInt32 >>> ((16 : Int32) &&& 31).toUInt32).toInt32) &&& (3 : Int32))), .val (.int ((va &&& (255 : Int32)).toUInt32.toUInt16.toUInt32.toInt32)), .val (.int ((((va.toUInt32 >>> ((8 : Int32) &&& 31).toUInt32).toInt32) &&& (255 : Int32)).toUInt32.toUInt16.toUInt32.toInt32))] [(.int ((va &&& (255 : Int32)).toUInt32.toUInt16.toUInt32.toInt32)), (.int (0 : Int32)), (.ref b5), (.ref b5), (.ref b4), (.ref b4)]))
      obtain ⟨cl6, Ar6, q6, S6, N6l, H6, G6⟩ := (id V_b5)
      have hin6 : ¬ ((0 : Int32) < 0 ∨ cl6.slots.size ≤ ((0 : Int32)).toNatClampNeg) := inb_of S6 ⟨by decide, by decide⟩
      obtain ⟨T6, h6, X6, e6, W6, st6⟩ := stC X5 hx hZ e5 Ar6 (j := (0 : Int32)) hin6 (g := (mkF m 54 #[.val (.int va), .val (.int (((va.toUInt32 >>> ((16 : Int32) &&& 31).toUInt32).toInt32) &&& (3 : Int32))), .val (.int ((va &&& (255 : Int32)).toUInt32.toUInt16.toUInt32.toInt32)), .val (.int ((((va.toUInt32 >>> ((8 : Int32) &&& 31).toUInt32).toInt32) &&& (255 : Int32)).toUInt32.toUInt16.toUInt32.toInt32))] [(.int ((va &&& (255 : Int32)).toUInt32.toUInt16.toUInt32.toInt32)), (.int (0 : Int32)), (.ref b5), (.ref b5), (.ref b4), (.ref b4)])) rfl rfl (hb hby own_dstr_54)
      refine own_FinH.go st6 ?_
      have V_b5_6 := Arv.set Ar6 q6 S6 N6l H6 G6 (fits_nar_char _) W6 0 rfl (Nat.le_of_ble_eq_true rfl)
      replace V_b5_6 : Arv Z h6 b5 k5 .char (1 : Int32) [(.int (nar .char ((va &&& (255 : Int32)).toUInt32.toUInt16.toUInt32.toInt32)))] (.int (0 : Int32)) := V_b5_6
      have S_COMPACT_STRINGS_6 := Sta.wr W6 S_COMPACT_STRINGS_5
      have E_b4_6 := Exa.wr W6 E_b4_5
      have F_b4_value_6 := Fld.other W6 F_b4_value_5 (Or.inl ne_b4_b5)
      have F_b4_coder_6 := Fld.other W6 F_b4_coder_5 (Or.inl ne_b4_b5)
      have Z6 := Nat.le_trans Z5 (Keep.of_wr W6).1
      have hk6 := Nat.le_trans hk5 (Keep.of_wr W6).1
      have K6 := K5.wr W6 (Or.inr sz_b5)
      have N6 := Fr.snoc X6 N0 g_b5
      have Sf_b4_6 := Safe.wr W6 Sf_b5_5 C5.1 Sf_b4_5
      have Sf_b5_6 := Safe.wr W6 Sf_b5_5 C5.1 Sf_b5_5
      have C6 := C5.trans (CHr.wr W6 Sf_b5_5 C5.1)
      show own_FinH _ _ _ _ _ _ _ _ (T6.setTop (mkF m 55 #[.val (.int va), .val (.int (((va.toUInt32 >>> ((16 : Int32) &&& 31).toUInt32).toInt32) &&& (3 : Int32))), .val (.int ((va &&& (255 : Int32)).toUInt32.toUInt16.toUInt32.toInt32)), .val (.int ((((va.toUInt32 >>> ((8 : Int32) &&& 31).toUInt32).toInt32) &&& (255 : Int32)).toUInt32.toUInt16.toUInt32.toInt32))] [(.ref b5), (.ref b4), (.ref b4)]))
      obtain ⟨_, _, ⟨T7, L7, k7, n7⟩, -, X7, ⟨Lc7, hQ7, l7, y7, z7⟩, st7⟩ := X6.specialBack hx (y := (⟨"java/lang/String", "<init>", "([C)V"⟩ : MethodName)) rfl hown (mvT hZ (hw _ (List.mem_of_getElem? (i := 8) rfl))) (mvT hZ (hw _ (List.mem_of_getElem? (i := 9) rfl))) (mvT hZ (hw _ (List.mem_of_getElem? (i := 10) rfl))) (by decide) (backOf (W := 1) (own_rm_sic1 l Z a0 hw [] b4 b5 k5 vcs (nar .char ((va &&& (255 : Int32)).toUInt32.toUInt16.toUInt32.toInt32)) h6 n0 Z6 E_b4_6 F_b4_value_6 F_b4_coder_6 g_b4 V_b5_6 ne_b4_b5 S_COMPACT_STRINGS_6 hcs (own_b255 _)) hZ (hw _ (List.mem_of_getElem? (i := 10) rfl)) (hw _ (List.mem_of_getElem? (i := 6) rfl)) (by decide) (by decide)) (g := (mkF m 55 #[.val (.int va), .val (.int (((va.toUInt32 >>> ((16 : Int32) &&& 31).toUInt32).toInt32) &&& (3 : Int32))), .val (.int ((va &&& (255 : Int32)).toUInt32.toUInt16.toUInt32.toInt32)), .val (.int ((((va.toUInt32 >>> ((8 : Int32) &&& 31).toUInt32).toInt32) &&& (255 : Int32)).toUInt32.toUInt16.toUInt32.toInt32))] [(.ref b5), (.ref b4), (.ref b4)])) rfl (by rw [hml]; rfl) (Steps.refl _) (a := b4) (argsL := [(.ref b5)]) (rest := [(.ref b4)]) (lenOf own_pd8 rfl) rfl (by show 2 * 0 + _ ≤ _; exact Nat.le_of_eq rfl) (hb hby own_dstr_55) (fun _ _ => ⟨rfl, e6, (by decide : 2 + 1 ≤ _), (by decide : 5 + 1 ≤ _)⟩)
      dsimp only [Pt.U, Pt.locs, Pt.cells, Pt.slots] at X7 l7 y7 z7 st7 hQ7
      subst l7 y7 z7
      obtain ⟨rfl, N7q, K7q, c7_1⟩ := hQ7
      refine own_FinH.go (fun t k => st7.trans k) ?_
      have N7 := Fr.app N6 N7q
      have Z7 := Nat.le_trans Z6 K7q.1
      have hk7 := Nat.le_trans hk6 K7q.1
      have Sf_b4_7 := Safe.keep K7q (allS Sf_b4_6 all0) C6.1 Sf_b4_6
      have Sf_b5_7 := Safe.keep K7q (allS Sf_b4_6 all0) C6.1 Sf_b5_6
      have C7 := C6.trans (CHr.keep K7q (allS Sf_b4_6 all0) C6.1)
      have K7 := K6.trans K7q (allS (Or.inr sz_b4) all0)
      show own_FinH _ _ _ _ _ _ _ _ (T7.setTop (mkF m 58 #[.val (.int va), .val (.int (((va.toUInt32 >>> ((16 : Int32) &&& 31).toUInt32).toInt32) &&& (3 : Int32))), .val (.int ((va &&& (255 : Int32)).toUInt32.toUInt16.toUInt32.toInt32)), .val (.int ((((va.toUInt32 >>> ((8 : Int32) &&& 31).toUInt32).toInt32) &&& (255 : Int32)).toUInt32.toUInt16.toUInt32.toInt32))] [(.ref b4)]))
      refine own_retAH (s := s) (vm₁ := s.vm) X7 hx hS hk7 Bd.returns rfl (hb hby own_dstr_58) Bd.notSynchronized (by decide) (by decide) (C7.trans (CHv.at (s := s) (vm0 := s.vm) X7 hZ hEL C7.1)) ?_
      exact ⟨_, rfl, N7, K7, c7_1, sz_b4⟩
    · refine own_FinH.go (fun t k => XS.icmpYes X0.here hx rfl (pc0 := 41) (pc' := 59) rfl (hb hby own_dstr_41) rfl (Jvm.Free.XT.ii_ne_t hc41) (by decide) (by decide) k) ?_
      show own_FinH _ _ _ _ _ _ _ _ (s₁.setTop (mkF m 59 #[.val (.int va), .val (.int (((va.toUInt32 >>> ((16 : Int32) &&& 31).toUInt32).toInt32) &&& (3 : Int32))), .val (.int ((va &&& (255 : Int32)).toUInt32.toUInt16.toUInt32.toInt32)), .val (.int ((((va.toUInt32 >>> ((8 : Int32) &&& 31).toUInt32).toInt32) &&& (255 : Int32)).toUInt32.toUInt16.toUInt32.toInt32))] []))
      obtain ⟨T8, h8, X8, e8, E8, A8, D8, -, st8⟩ := newO X0 hx hZ hown (hw _ (List.mem_of_getElem? (i := 4) rfl)) (hw _ (List.mem_of_getElem? (i := 5) rfl)) (hw _ (List.mem_of_getElem? (i := 6) rfl)) e0 (g := (mkF m 59 #[.val (.int va), .val (.int (((va.toUInt32 >>> ((16 : Int32) &&& 31).toUInt32).toInt32) &&& (3 : Int32))), .val (.int ((va &&& (255 : Int32)).toUInt32.toUInt16.toUInt32.toInt32)), .val (.int ((((va.toUInt32 >>> ((8 : Int32) &&& 31).toUInt32).toInt32) &&& (255 : Int32)).toUInt32.toUInt16.toUInt32.toInt32))] [])) rfl (hb hby own_dstr_59) (by decide) (by decide)
      obtain ⟨b8, g8⟩ : ∃ z, z = h0.size := ⟨_, rfl⟩
      rw [← g8] at A8 D8 st8
      refine own_FinH.go st8 ?_
      have g_b8 : n0 ≤ b8 := Nat.le_trans Z0 (Nat.le_of_eq g8.symm)
      have sz_b8 : h0.size ≤ b8 := Nat.le_trans K0.1 (Nat.le_of_eq g8.symm)
      have Sf_b8 : Safe Z own_EL (s.vm) h0 b8 := Safe.new (Nat.le_of_eq g8.symm)
      have S_COMPACT_STRINGS_8 := Sta.ext E8 S_COMPACT_STRINGS
      have Z8 := Nat.le_trans Z0 E8.1
      have hk8 := Nat.le_trans hk0 E8.1
      have K8 := K0.ext E8
      have Sf_b8_8 := Safe.ext E8 C0.1 Sf_b8
      have C8 := C0.trans (CHr.ext E8 C0.1)
      have F_b8_value : Fld Z h8 b8 "java/lang/String" "value" "[B" .null := D8 (Or.inr (hw _ (List.mem_of_getElem? (i := 20) rfl))) (ty := (.array .byte)) (by decide)
      have F_b8_coder : Fld Z h8 b8 "java/lang/String" "coder" "B" (.int (0 : Int32)) := D8 (Or.inr (hw _ (List.mem_of_getElem? (i := 21) rfl))) (ty := .byte) (by decide)
      show own_FinH _ _ _ _ _ _ _ _ (T8.setTop (mkF m 62 #[.val (.int va), .val (.int (((va.toUInt32 >>> ((16 : Int32) &&& 31).toUInt32).toInt32) &&& (3 : Int32))), .val (.int ((va &&& (255 : Int32)).toUInt32.toUInt16.toUInt32.toInt32)), .val (.int ((((va.toUInt32 >>> ((8 : Int32) &&& 31).toUInt32).toInt32) &&& (255 : Int32)).toUInt32.toUInt16.toUInt32.toInt32))] [(.ref b8)]))
      refine own_FinH.go (fun t k => XS.dup X8.here hx rfl (hb hby own_dstr_62) rfl rfl k) ?_
      show own_FinH _ _ _ _ _ _ _ _ (T8.setTop (mkF m 63 #[.val (.int va), .val (.int (((va.toUInt32 >>> ((16 : Int32) &&& 31).toUInt32).toInt32) &&& (3 : Int32))), .val (.int ((va &&& (255 : Int32)).toUInt32.toUInt16.toUInt32.toInt32)), .val (.int ((((va.toUInt32 >>> ((8 : Int32) &&& 31).toUInt32).toInt32) &&& (255 : Int32)).toUInt32.toUInt16.toUInt32.toInt32))] [(.ref b8), (.ref b8)]))
      refine own_FinH.go (fun t k => XS.iconst X8.here hx rfl (hb hby own_dstr_63) k) ?_
      show own_FinH _ _ _ _ _ _ _ _ (T8.setTop (mkF m 64 #[.val (.int va), .val (.int (((va.toUInt32 >>> ((16 : Int32) &&& 31).toUInt32).toInt32) &&& (3 : Int32))), .val (.int ((va &&& (255 : Int32)).toUInt32.toUInt16.toUInt32.toInt32)), .val (.int ((((va.toUInt32 >>> ((8 : Int32) &&& 31).toUInt32).toInt32) &&& (255 : Int32)).toUInt32.toUInt16.toUInt32.toInt32))] [(.int (2 : Int32)), (.ref b8), (.ref b8)]))
      obtain ⟨T9, h9, k9, X9, e9, E9, A9, st9⟩ := newP X8 hx hZ (hw _ (List.mem_of_getElem? (i := 7) rfl)) e8 (g := (mkF m 64 #[.val (.int va), .val (.int (((va.toUInt32 >>> ((16 : Int32) &&& 31).toUInt32).toInt32) &&& (3 : Int32))), .val (.int ((va &&& (255 : Int32)).toUInt32.toUInt16.toUInt32.toInt32)), .val (.int ((((va.toUInt32 >>> ((8 : Int32) &&& 31).toUInt32).toInt32) &&& (255 : Int32)).toUInt32.toUInt16.toUInt32.toInt32))] [(.int (2 : Int32)), (.ref b8), (.ref b8)])) rfl (hb hby own_dstr_64) rfl (by decide) (cap := 2) (by decide) (by decide) (by decide) (by decide)
      obtain ⟨b9, g9⟩ : ∃ z, z = h8.size := ⟨_, rfl⟩
      rw [← g9] at A9 st9
      refine own_FinH.go st9 ?_
      have g_b9 : n0 ≤ b9 := Nat.le_trans Z8 (Nat.le_of_eq g9.symm)
      have sz_b9 : h0.size ≤ b9 := Nat.le_trans K8.1 (Nat.le_of_eq g9.symm)
      have ne_b8_b9 : b8 ≠ b9 := Nat.ne_of_lt (Nat.lt_of_lt_of_le F_b8_coder.lt (Nat.le_of_eq g9.symm))
      have Sf_b9 : Safe Z own_EL (s.vm) h8 b9 := Safe.new (Nat.le_of_eq g9.symm)
      have S_COMPACT_STRINGS_9 := Sta.ext E9 S_COMPACT_STRINGS_8
      have E_b8_9 := Exa.ext E9 A8
      have F_b8_value_9 := Fld.ext E9 F_b8_value
      have F_b8_coder_9 := Fld.ext E9 F_b8_coder
      have Z9 := Nat.le_trans Z8 E9.1
      have hk9 := Nat.le_trans hk8 E9.1
      have K9 := K8.ext E9
      have Sf_b8_9 := Safe.ext E9 C8.1 Sf_b8_8
      have Sf_b9_9 := Safe.ext E9 C8.1 Sf_b9
      have C9 := C8.trans (CHr.ext E9 C8.1)
      have V_b9 : Arv Z h9 b9 k9 .char (2 : Int32) [(.int (0 : Int32)), (.int (0 : Int32))] (.int (0 : Int32)) := (Arv.new A9 (by decide)).pad (pad_rep [] (.int (0 : Int32)) 2)
      show own_FinH _ _ _ _ _ _ _ _ (T9.setTop (mkF m 66 #[.val (.int va), .val (.int (((va.toUInt32 >>> ((16 : Int32) &&& 31).toUInt32).toInt32) &&& (3 : Int32))), .val (.int ((va &&& (255 : Int32)).toUInt32.toUInt16.toUInt32.toInt32)), .val (.int ((((va.toUInt32 >>> ((8 : Int32) &&& 31).toUInt32).toInt32) &&& (255 : Int32)).toUInt32.toUInt16.toUInt32.toInt32))] [(.ref b9), (.ref b8), (.ref b8)]))
      refine own_FinH.go (fun t k => XS.dup X9.here hx rfl (hb hby own_dstr_66) rfl rfl k) ?_
      show own_FinH _ _ _ _ _ _ _ _ (T9.setTop (mkF m 67 #[.val (.int va), .val (.int (((va.toUInt32 >>> ((16 : Int32) &&& 31).toUInt32).toInt32) &&& (3 : Int32))), .val (.int ((va &&& (255 : Int32)).toUInt32.toUInt16.toUInt32.toInt32)), .val (.int ((((va.toUInt32 >>> ((8 : Int32) &&& 31).toUInt32).toInt32) &&& (255 : Int32)).toUInt32.toUInt16.toUInt32.toInt32))] [(.ref b9), (.ref b9), (.ref b8), (.ref b8)]))
      refine own_FinH.go (fun t k => XS.iconst X9.here hx rfl (hb hby own_dstr_67) k) ?_
      show own_FinH _ _ _ _ _ _ _ _ (T9.setTop (mkF m 68 #[.val (.int va), .val (.int (((va.toUInt32 >>> ((16 : Int32) &&& 31).toUInt32).toInt32) &&& (3 : Int32))), .val (.int ((va &&& (255 : Int32)).toUInt32.toUInt16.toUInt32.toInt32)), .val (.int ((((va.toUInt32 >>> ((8 : Int32) &&& 31).toUInt32).toInt32) &&& (255 : Int32)).toUInt32.toUInt16.toUInt32.toInt32))] [(.int (0 : Int32)), (.ref b9), (.ref b9), (.ref b8), (.ref b8)]))
      refine own_FinH.go (fun t k => XS.iloadN X9.here hx rfl (hb hby own_dstr_68) rfl k) ?_
      show own_FinH _ _ _ _ _ _ _ _ (T9.setTop (mkF m 69 #[.val (.int va), .val (.int (((va.toUInt32 >>> ((16 : Int32) &&& 31).toUInt32).toInt32) &&& (3 : Int32))), .val (.int ((va &&& (255 : Int32)).toUInt32.toUInt16.toUInt32.toInt32)), .val (.int ((((va.toUInt32 >>> ((8 : Int32) &&& 31).toUInt32).toInt32) &&& (255 : Int32)).toUInt32.toUInt16.toUInt32.toInt32))] [(.int ((va &&& (255 : Int32)).toUInt32.toUInt16.toUInt32.toInt32)), (.int (0 : Int32)), (.ref b9), (.ref b9), (.ref b8), (.ref b8)]))
      obtain ⟨cl10, Ar10, q10, S10, N10l, H10, G10⟩ := (id V_b9)
      have hin10 : ¬ ((0 : Int32) < 0 ∨ cl10.slots.size ≤ ((0 : Int32)).toNatClampNeg) := inb_of S10 ⟨by decide, by decide⟩
      obtain ⟨T10, h10, X10, e10, W10, st10⟩ := stC X9 hx hZ e9 Ar10 (j := (0 : Int32)) hin10 (g := (mkF m 69 #[.val (.int va), .val (.int (((va.toUInt32 >>> ((16 : Int32) &&& 31).toUInt32).toInt32) &&& (3 : Int32))), .val (.int ((va &&& (255 : Int32)).toUInt32.toUInt16.toUInt32.toInt32)), .val (.int ((((va.toUInt32 >>> ((8 : Int32) &&& 31).toUInt32).toInt32) &&& (255 : Int32)).toUInt32.toUInt16.toUInt32.toInt32))] [(.int ((va &&& (255 : Int32)).toUInt32.toUInt16.toUInt32.toInt32)), (.int (0 : Int32)), (.ref b9), (.ref b9), (.ref b8), (.ref b8)])) rfl rfl (hb hby own_dstr_69)
      refine own_FinH.go st10 ?_
      have V_b9_10 := Arv.set Ar10 q10 S10 N10l H10 G10 (fits_nar_char _) W10 0 rfl (Nat.le_of_ble_eq_true rfl)
      replace V_b9_10 : Arv Z h10 b9 k9 .char (2 : Int32) [(.int (nar .char ((va &&& (255 : Int32)).toUInt32.toUInt16.toUInt32.toInt32))), (.int (0 : Int32))] (.int (0 : Int32)) := V_b9_10
      have S_COMPACT_STRINGS_10 := Sta.wr W10 S_COMPACT_STRINGS_9
      have E_b8_10 := Exa.wr W10 E_b8_9
      have F_b8_value_10 := Fld.other W10 F_b8_value_9 (Or.inl ne_b8_b9)
      have F_b8_coder_10 := Fld.other W10 F_b8_coder_9 (Or.inl ne_b8_b9)
      have Z10 := Nat.le_trans Z9 (Keep.of_wr W10).1
      have hk10 := Nat.le_trans hk9 (Keep.of_wr W10).1
      have K10 := K9.wr W10 (Or.inr sz_b9)
      have N10 := Fr.snoc X10 N0 g_b9
      have Sf_b8_10 := Safe.wr W10 Sf_b9_9 C9.1 Sf_b8_9
      have Sf_b9_10 := Safe.wr W10 Sf_b9_9 C9.1 Sf_b9_9
      have C10 := C9.trans (CHr.wr W10 Sf_b9_9 C9.1)
      show own_FinH _ _ _ _ _ _ _ _ (T10.setTop (mkF m 70 #[.val (.int va), .val (.int (((va.toUInt32 >>> ((16 : Int32) &&& 31).toUInt32).toInt32) &&& (3 : Int32))), .val (.int ((va &&& (255 : Int32)).toUInt32.toUInt16.toUInt32.toInt32)), .val (.int ((((va.toUInt32 >>> ((8 : Int32) &&& 31).toUInt32).toInt32) &&& (255 : Int32)).toUInt32.toUInt16.toUInt32.toInt32))] [(.ref b9), (.ref b8), (.ref b8)]))
      refine own_FinH.go (fun t k => XS.dup X10.here hx rfl (hb hby own_dstr_70) rfl rfl k) ?_
      show own_FinH _ _ _ _ _ _ _ _ (T10.setTop (mkF m 71 #[.val (.int va), .val (.int (((va.toUInt32 >>> ((16 : Int32) &&& 31).toUInt32).toInt32) &&& (3 : Int32))), .val (.int ((va &&& (255 : Int32)).toUInt32.toUInt16.toUInt32.toInt32)), .val (.int ((((va.toUInt32 >>> ((8 : Int32) &&& 31).toUInt32).toInt32) &&& (255 : Int32)).toUInt32.toUInt16.toUInt32.toInt32))] [(.ref b9), (.ref b9), (.ref b8), (.ref b8)]))
      refine own_FinH.go (fun t k => XS.iconst X10.here hx rfl (hb hby own_dstr_71) k) ?_
      show own_FinH _ _ _ _ _ _ _ _ (T10.setTop (mkF m 72 #[.val (.int va), .val (.int (((va.toUInt32 >>> ((16 : Int32) &&& 31).toUInt32).toInt32) &&& (3 : Int32))), .val (.int ((va &&& (255 : Int32)).toUInt32.toUInt16.toUInt32.toInt32)), .val (.int ((((va.toUInt32 >>> ((8 : Int32) &&& 31).toUInt32).toInt32) &&& (255 : Int32)).toUInt32.toUInt16.toUInt32.toInt32))] [(.int (1 : Int32)), (.ref b9), (.ref b9), (.ref b8), (.ref b8)]))
      refine own_FinH.go (fun t k => XS.iloadN X10.here hx rfl (hb hby own_dstr_72) rfl k) ?_
      show own_FinH _ _ _ _ _ _ _ _ (T10.setTop (mkF m 73 #[.val (.int va), .val (.int (((va.toUInt32 >>> ((16 : Int32) &&& 31).toUInt32).toInt32) &&& (3 : Int32))), .val (.int ((va &&& (255 : Int32)).toUInt32.toUInt16.toUInt32.toInt32)), .val (.int ((((va.toUInt32 >>> ((8 : Int32) &&& 31).toUInt32).toInt32) &&& (255 : Int32)).toUInt32.toUInt16.toUInt32.toInt32))] [(.int ((((va.toUInt32 >>> ((8 : Int32) &&& 31).toUInt32).toInt32) &&& (255 : Int32)).toUInt32.toUInt16.toUInt32.toInt32)), (.int (1 : Int32)), (.ref b9), (.ref b9), (.ref b8), (.ref b8)]))
      obtain ⟨cl11, Ar11, q11, S11, N11l, H11, G11⟩ := (id V_b9_10)
      have hin11 : ¬ ((1 : Int32) < 0 ∨ cl11.slots.size ≤ ((1 : Int32)).toNatClampNeg) := inb_of S11 ⟨by decide, by decide⟩
      obtain ⟨T11, h11, X11, e11, W11, st11⟩ := stC X10 hx hZ e10 Ar11 (j := (1 : Int32)) hin11 (g := (mkF m 73 #[.val (.int va), .val (.int (((va.toUInt32 >>> ((16 : Int32) &&& 31).toUInt32).toInt32) &&& (3 : Int32))), .val (.int ((va &&& (255 : Int32)).toUInt32.toUInt16.toUInt32.toInt32)), .val (.int ((((va.toUInt32 >>> ((8 : Int32) &&& 31).toUInt32).toInt32) &&& (255 : Int32)).toUInt32.toUInt16.toUInt32.toInt32))] [(.int ((((va.toUInt32 >>> ((8 : Int32) &&& 31).toUInt32).toInt32) &&& (255 : Int32)).toUInt32.toUInt16.toUInt32.toInt32)), (.int (1 : Int32)), (.ref b9), (.ref b9), (.ref b8), (.ref b8)])) rfl rfl (hb hby own_dstr_73)
      refine own_FinH.go st11 ?_
      have V_b9_11 := Arv.set Ar11 q11 S11 N11l H11 G11 (fits_nar_char _) W11 1 rfl (Nat.le_of_ble_eq_true rfl)
      replace V_b9_11 : Arv Z h11 b9 k9 .char (2 : Int32) [(.int (nar .char ((va &&& (255 : Int32)).toUInt32.toUInt16.toUInt32.toInt32))), (.int (nar .char ((((va.toUInt32 >>> ((8 : Int32) &&& 31).toUInt32).toInt32) &&& (255 : Int32)).toUInt32.toUInt16.toUInt32.toInt32)))] (.int (0 : Int32)) := V_b9_11
      have S_COMPACT_STRINGS_11 := Sta.wr W11 S_COMPACT_STRINGS_10
      have E_b8_11 := Exa.wr W11 E_b8_10
      have F_b8_value_11 := Fld.other W11 F_b8_value_10 (Or.inl ne_b8_b9)
      have F_b8_coder_11 := Fld.other W11 F_b8_coder_10 (Or.inl ne_b8_b9)
      have Z11 := Nat.le_trans Z10 (Keep.of_wr W11).1
      have hk11 := Nat.le_trans hk10 (Keep.of_wr W11).1
      have K11 := K10.wr W11 (Or.inr sz_b9)
      have N11 := Fr.snoc X11 N10 g_b9
      have Sf_b8_11 := Safe.wr W11 Sf_b9_10 C10.1 Sf_b8_10
      have Sf_b9_11 := Safe.wr W11 Sf_b9_10 C10.1 Sf_b9_10
      have C11 := C10.trans (CHr.wr W11 Sf_b9_10 C10.1)
      show own_FinH _ _ _ _ _ _ _ _ (T11.setTop (mkF m 74 #[.val (.int va), .val (.int (((va.toUInt32 >>> ((16 : Int32) &&& 31).toUInt32).toInt32) &&& (3 : Int32))), .val (.int ((va &&& (255 : Int32)).toUInt32.toUInt16.toUInt32.toInt32)), .val (.int ((((va.toUInt32 >>> ((8 : Int32) &&& 31).toUInt32).toInt32) &&& (255 : Int32)).toUInt32.toUInt16.toUInt32.toInt32))] [(.ref b9), (.ref b8), (.ref b8)]))
      obtain ⟨_, _, ⟨T12, L12, k12, n12⟩, -, X12, ⟨Lc12, hQ12, l12, y12, z12⟩, st12⟩ := X11.specialBack hx (y := (⟨"java/lang/String", "<init>", "([C)V"⟩ : MethodName)) rfl hown (mvT hZ (hw _ (List.mem_of_getElem? (i := 8) rfl))) (mvT hZ (hw _ (List.mem_of_getElem? (i := 9) rfl))) (mvT hZ (hw _ (List.mem_of_getElem? (i := 10) rfl))) (by decide) (backOf (W := 1) (own_rm_sic2 l Z a0 hw [] b8 b9 k9 vcs (nar .char ((va &&& (255 : Int32)).toUInt32.toUInt16.toUInt32.toInt32)) (nar .char ((((va.toUInt32 >>> ((8 : Int32) &&& 31).toUInt32).toInt32) &&& (255 : Int32)).toUInt32.toUInt16.toUInt32.toInt32)) h11 n0 Z11 E_b8_11 F_b8_value_11 F_b8_coder_11 g_b8 V_b9_11 ne_b8_b9 S_COMPACT_STRINGS_11 hcs (own_b255 _) (own_b255 _)) hZ (hw _ (List.mem_of_getElem? (i := 10) rfl)) (hw _ (List.mem_of_getElem? (i := 6) rfl)) (by decide) (by decide)) (g := (mkF m 74 #[.val (.int va), .val (.int (((va.toUInt32 >>> ((16 : Int32) &&& 31).toUInt32).toInt32) &&& (3 : Int32))), .val (.int ((va &&& (255 : Int32)).toUInt32.toUInt16.toUInt32.toInt32)), .val (.int ((((va.toUInt32 >>> ((8 : Int32) &&& 31).toUInt32).toInt32) &&& (255 : Int32)).toUInt32.toUInt16.toUInt32.toInt32))] [(.ref b9), (.ref b8), (.ref b8)])) rfl (by rw [hml]; rfl) (Steps.refl _) (a := b8) (argsL := [(.ref b9)]) (rest := [(.ref b8)]) (lenOf own_pd8 rfl) rfl (by show 2 * 0 + _ ≤ _; exact Nat.le_of_eq rfl) (hb hby own_dstr_74) (fun _ _ => ⟨rfl, e11, (by decide : 2 + 1 ≤ _), (by decide : 6 + 2 ≤ _)⟩)
      dsimp only [Pt.U, Pt.locs, Pt.cells, Pt.slots] at X12 l12 y12 z12 st12 hQ12
      subst l12 y12 z12
      obtain ⟨rfl, N12q, K12q, c12_1⟩ := hQ12
      refine own_FinH.go (fun t k => st12.trans k) ?_
      have N12 := Fr.app N11 N12q
      have Z12 := Nat.le_trans Z11 K12q.1
      have hk12 := Nat.le_trans hk11 K12q.1
      have Sf_b8_12 := Safe.keep K12q (allS Sf_b8_11 all0) C11.1 Sf_b8_11
      have Sf_b9_12 := Safe.keep K12q (allS Sf_b8_11 all0) C11.1 Sf_b9_11
      have C12 := C11.trans (CHr.keep K12q (allS Sf_b8_11 all0) C11.1)
      have K12 := K11.trans K12q (allS (Or.inr sz_b8) all0)
      show own_FinH _ _ _ _ _ _ _ _ (T12.setTop (mkF m 77 #[.val (.int va), .val (.int (((va.toUInt32 >>> ((16 : Int32) &&& 31).toUInt32).toInt32) &&& (3 : Int32))), .val (.int ((va &&& (255 : Int32)).toUInt32.toUInt16.toUInt32.toInt32)), .val (.int ((((va.toUInt32 >>> ((8 : Int32) &&& 31).toUInt32).toInt32) &&& (255 : Int32)).toUInt32.toUInt16.toUInt32.toInt32))] [(.ref b8)]))
      refine own_retAH (s := s) (vm₁ := s.vm) X12 hx hS hk12 Bd.returns rfl (hb hby own_dstr_77) Bd.notSynchronized (by decide) (by decide) (C12.trans (CHv.at (s := s) (vm0 := s.vm) X12 hZ hEL C12.1)) ?_
      exact ⟨_, rfl, N12, K12, c12_1, sz_b8⟩
theorem own_pd9 : parseMethodDescriptor "(I)Ljava/lang/String;" = some ⟨[.int], some (.object "java/lang/String")⟩ := by decide +kernel
theorem own_pd10 : parseMethodDescriptor "(I)Lcom/example/wardkeeper/wardkeeper/patient/Identifier$Level;" = some ⟨[.int], some (.object "com/example/wardkeeper/wardkeeper/patient/Identifier$Level")⟩ := by decide +kernel
theorem own_pd11 : parseMethodDescriptor "(Lcom/example/wardkeeper/wardkeeper/patient/Identifier$Level;Ljava/lang/String;Ljava/lang/String;Ljava/lang/String;Ljava/lang/String;Ljava/lang/String;)V" = some ⟨[(.object "com/example/wardkeeper/wardkeeper/patient/Identifier$Level"), (.object "java/lang/String"), (.object "java/lang/String"), (.object "java/lang/String"), (.object "java/lang/String"), (.object "java/lang/String")], none⟩ := by decide +kernel
theorem own_pd12 : parseMethodDescriptor "()Ljava/util/List;" = some ⟨[], some (.object "java/util/List")⟩ := by decide +kernel
theorem own_pd13 : parseMethodDescriptor "()I" = some ⟨[], some .int⟩ := by decide +kernel
theorem own_pd14 : parseMethodDescriptor "(I)Ljava/lang/Object;" = some ⟨[.int], some (.object "java/lang/Object")⟩ := by decide +kernel
theorem own_pd15 : parseMethodDescriptor "(Ljava/lang/Object;)Z" = some ⟨[(.object "java/lang/Object")], some .boolean⟩ := by decide +kernel
theorem own_ef_law (m : MethodId) (va : Int32) (vb : Int32) (vc : Int32) (vd : Int32) (ve : Int32) (vf : Int32) : entryFrame m #[(.int va), (.int vb), (.int vc), (.int vd), (.int ve), (.int vf)] maxLocals = mkF m 0 #[.val (.int va), .val (.int vb), .val (.int vc), .val (.int vd), .val (.int ve), .val (.int vf), .unset, .unset, .unset, .unset, .unset, .unset, .unset] [] := by first | (simp [entryFrame, mkF, argsToLocals, Value.category, maxLocals]; done) | rfl
def own_Q_law (Z : State) (va : Int32) (vb : Int32) (vc : Int32) (vd : Int32) (ve : Int32) (vf : Int32) (vcs : Int32) (oNATIONAL : Addr) (oORGANISATION : Addr) (oTEAM : Addr) (om : Addr) (h0 : Heap) (n0 : Nat) (v : Option Value) (h : Heap) (L : List Loc) : Prop := v = some (.int (1 : Int32)) ∧ Fr n0 L
set_option maxRecDepth 65536 in
set_option maxHeartbeats 40000000 in
theorem own_rm_law (l : Launch) (Z : State) (a0 : Array Value) (hw : ∀ d ∈ tables_1, d.before a0 Z = true) (ws : List Jvm.Cond) (va : Int32) (vb : Int32) (vc : Int32) (vd : Int32) (ve : Int32) (vf : Int32) (vcs : Int32) (oNATIONAL : Addr) (oORGANISATION : Addr) (oTEAM : Addr) (om : Addr) (h0 : Heap) (n0 : Nat) (Z0 : n0 ≤ h0.size) (S_COMPACT_STRINGS : Sta Z h0 "java/lang/String" "COMPACT_STRINGS" "Z" (.int vcs)) (hcs : ¬ vcs = 0) (S_NATIONAL : Sta Z h0 "com/example/wardkeeper/wardkeeper/patient/Identifier$Level" "NATIONAL" "Lcom/example/wardkeeper/wardkeeper/patient/Identifier$Level;" (.ref oNATIONAL)) (S_ORGANISATION : Sta Z h0 "com/example/wardkeeper/wardkeeper/patient/Identifier$Level" "ORGANISATION" "Lcom/example/wardkeeper/wardkeeper/patient/Identifier$Level;" (.ref oORGANISATION)) (S_TEAM : Sta Z h0 "com/example/wardkeeper/wardkeeper/patient/Identifier$Level" "TEAM" "Lcom/example/wardkeeper/wardkeeper/patient/Identifier$Level;" (.ref oTEAM)) (S_EMPTY : Sta Z h0 "java/util/ImmutableCollections" "EMPTY" "Ljava/lang/Object;" (.ref om)) (E_om : Exa Z h0 om "java/lang/Object") (hch : ∀ p ∈ own_EL, Jvm.Lit.constHeld Z p.1 p.2) (hcw : Jvm.Lit.compactW.before a0 Z = true) :
    MetFree l x (head1 (Jvm.Cond.code x code maxLocals ret :: ws) room_1) (fun a U => a = #[(.int va), (.int vb), (.int vc), (.int vd), (.int ve), (.int vf)] ∧ Z.Warmed39 U.vm ∧ U.heap = h0 ∧ U.vm = Z.vm ∧ n0 = h0.size ∧ Z.heap = h0) (fun _ _ _ _ _ => True) (fun _ U o U' => ∃ v L, o = .returned v ∧ own_Q_law Z va vb vc vd ve vf vcs oNATIONAL oORGANISATION oTEAM om h0 n0 v U'.heap L ∧ FramedW U o U' L room_1.cells room_1.slots) := by
  refine MetFree.of_bodySF (plainFor_of_name own_pn9) hisR ?_
  intro p e s m args below meth c s₁ Bd hml0 hP hK
  obtain ⟨rfl, hZ, hh, hvm, hn0, hZh⟩ := hP
  have hx := Bd.exec
  have hby := Bd.bytes
  have hml : c.maxLocals = 13 := hml0
  have hown : s.vm.findClass "com/example/wardkeeper/wardkeeper/patient/IdentifierTypeKeyPinLaw" = some m.cls := findClass_of_methodNamed Bd.named
  have hnm := (name_of_methodNamed Bd.named Bd.method).1
  have X0 : Stand p l e room_1 s m #[(.int va), (.int vb), (.int vc), (.int vd), (.int ve), (.int vf)] below meth c s₁ [] 0 0 := Stand.of_body Bd
  have e0 : s₁.heap = h0 := by rw [← hh, Bd.state]; rfl
  have N0 := Fr.nil n0
  have hS : s.Since s.vm 0 := State.WarmedH.since (State.WarmedH.refl s) 0
  have hk0 : 0 ≤ h0.size := Nat.zero_le _
  have hEL : EW Z a0 own_EL := EW.cons (hw _ (List.mem_of_getElem? (i := 18) rfl)) (by decide) (EW.nil)
  have C0 : CHr Z own_EL s.vm h0 s.vm h0 := CHr.refl (by rw [hvm, ← hZh]; exact CHv.start hEL hch hcw (hw _ (List.mem_of_getElem? (i := 19) rfl)) (hw _ (List.mem_of_getElem? (i := 5) rfl)))
  have wS : ∀ a ∈ Bundle.stringAtoms, a.before a0 Z = true := by
    intro a ha
    simp only [Bundle.stringAtoms, Bundle.sN, List.mem_cons, List.not_mem_nil, or_false] at ha
    rcases ha with rfl | rfl | rfl | rfl | rfl | rfl | rfl
    · exact (hw _ (List.mem_of_getElem? (i := 6) rfl))
    · exact (hw _ (List.mem_of_getElem? (i := 5) rfl))
    · exact (hw _ (List.mem_of_getElem? (i := 19) rfl))
    · exact (hw _ (List.mem_of_getElem? (i := 20) rfl))
    · exact (hw _ (List.mem_of_getElem? (i := 21) rfl))
    · exact (hw _ (List.mem_of_getElem? (i := 22) rfl))
    · exact (hw _ (List.mem_of_getElem? (i := 23) rfl))
  show own_FinW p e below s (own_Q_law Z va vb vc vd ve vf vcs oNATIONAL oORGANISATION oTEAM om h0 n0) room_1.cells room_1.slots (s₁.setTop (entryFrame m #[(.int va), (.int vb), (.int vc), (.int vd), (.int ve), (.int vf)] maxLocals))
  refine own_FinW.go (fun t k => castTop (own_ef_law m va vb vc vd ve vf) k) ?_
  refine own_FinW.go (fun t k => XS.iloadN X0.here hx rfl (hb hby at_0) rfl k) ?_
  show own_FinW _ _ _ _ _ _ _ (s₁.setTop (mkF m 1 #[.val (.int va), .val (.int vb), .val (.int vc), .val (.int vd), .val (.int ve), .val (.int vf), .unset, .unset, .unset, .unset, .unset, .unset, .unset] [(.int va)]))
  obtain ⟨_, _, ⟨T1, L1, k1, n1⟩, -, X1, hS1, hgr1, ⟨Lc1, hQ1, l1, y1, z1, C1q⟩, st1⟩ := callSS X0 hx (y := (⟨"com/example/wardkeeper/wardkeeper/patient/IdentifierTypeKeyPinLaw", "str", "(I)Ljava/lang/String;"⟩ : MethodName)) hown (mvT hZ (hw _ (List.mem_of_getElem? (i := 0) rfl))) (mvT hZ (hw _ (List.mem_of_getElem? (i := 1) rfl))) (mvT hZ (hw _ (List.mem_of_getElem? (i := 2) rfl))) (mvT hZ (hw _ (List.mem_of_getElem? (i := 3) rfl))) (by decide) (backOfSH (s := s) (vm0 := s.vm) (W := 0) (own_rm_str l Z a0 hw [] va vcs h0 n0 Z0 S_COMPACT_STRINGS (by assumption)) hZ (hw _ (List.mem_of_getElem? (i := 3) rfl)) (hw _ (List.mem_of_getElem? (i := 2) rfl)) (by decide) (by decide) hEL C0.1) (g := (mkF m 1 #[.val (.int va), .val (.int vb), .val (.int vc), .val (.int vd), .val (.int ve), .val (.int vf), .unset, .unset, .unset, .unset, .unset, .unset, .unset] [(.int va)])) rfl (by rw [hml]; rfl) (argsL := [(.int va)]) (rest := []) (lenOf own_pd9 rfl) rfl (by show 2 * 0 + _ ≤ _; exact Nat.le_of_eq rfl) (hb hby at_1) (fun _ _ => ⟨rfl, e0, (by decide : 0 + 6 ≤ _), (by decide : 0 + 12 ≤ _)⟩)
  dsimp only [Pt.U, Pt.locs, Pt.cells, Pt.slots] at X1 l1 y1 z1 st1 hQ1 hS1 hgr1 C1q
  subst l1 y1 z1
  have C1 := C0.trans C1q
  have hS := foldS hS (by rw [e0]; exact hk0) hS1 hgr1
  have hk1 : T1.heap.size ≤ T1.heap.size := Nat.le_refl _
  have hZ : Z.Warmed39 T1.vm := State.Warmed39.trans (t := s) hZ hS1.1
  have hown : T1.vm.findClass "com/example/wardkeeper/wardkeeper/patient/IdentifierTypeKeyPinLaw" = some m.cls := by rw [hS1.1.alike.findClass]; exact hown
  have X1 : Stand p l e room_1 (s.setVm T1.vm) m #[(.int va), (.int vb), (.int vc), (.int vd), (.int ve), (.int vf)] below meth c T1 _ _ _ := X1
  obtain ⟨r1, rfl, N1q, K1q, c1_1, c1_2⟩ := hQ1
  refine own_FinW.go (fun t k => st1.trans k) ?_
  have N1 := Fr.app N0 N1q
  have S_COMPACT_STRINGS_1 := own_staKeep S_COMPACT_STRINGS K1q
  have S_NATIONAL_1 := own_staKeep S_NATIONAL K1q
  have S_ORGANISATION_1 := own_staKeep S_ORGANISATION K1q
  have S_TEAM_1 := own_staKeep S_TEAM K1q
  have S_EMPTY_1 := own_staKeep S_EMPTY K1q
  have E_om_1 := E_om.keep K1q
  have Z1 := Nat.le_trans Z0 K1q.1
  have ne_om_r1 : om ≠ r1 := Nat.ne_of_lt (Nat.lt_of_lt_of_le E_om.lt c1_2)
  have g_r1 : n0 ≤ r1 := Nat.le_trans Z0 c1_2
  show own_FinW _ _ _ _ _ _ _ (T1.setTop (mkF m 4 #[.val (.int va), .val (.int vb), .val (.int vc), .val (.int vd), .val (.int ve), .val (.int vf), .unset, .unset, .unset, .unset, .unset, .unset, .unset] [(.ref r1)]))
  refine own_FinW.go (fun t k => XS.astore X1.here hx rfl (hb hby at_4) rfl rfl (l' := #[.val (.int va), .val (.int vb), .val (.int vc), .val (.int vd), .val (.int ve), .val (.int vf), .val (.ref r1), .unset, .unset, .unset, .unset, .unset, .unset]) rfl k) ?_
  show own_FinW _ _ _ _ _ _ _ (T1.setTop (mkF m 6 #[.val (.int va), .val (.int vb), .val (.int vc), .val (.int vd), .val (.int ve), .val (.int vf), .val (.ref r1), .unset, .unset, .unset, .unset, .unset, .unset] []))
  refine own_FinW.go (fun t k => XS.iloadN X1.here hx rfl (hb hby at_6) rfl k) ?_
  show own_FinW _ _ _ _ _ _ _ (T1.setTop (mkF m 7 #[.val (.int va), .val (.int vb), .val (.int vc), .val (.int vd), .val (.int ve), .val (.int vf), .val (.ref r1), .unset, .unset, .unset, .unset, .unset, .unset] [(.int vb)]))
  obtain ⟨_, _, ⟨T2, L2, k2, n2⟩, -, X2, hS2, hgr2, ⟨Lc2, hQ2, l2, y2, z2, C2q⟩, st2⟩ := callSS X1 hx (y := (⟨"com/example/wardkeeper/wardkeeper/patient/IdentifierTypeKeyPinLaw", "str", "(I)Ljava/lang/String;"⟩ : MethodName)) hown (mvT hZ (hw _ (List.mem_of_getElem? (i := 0) rfl))) (mvT hZ (hw _ (List.mem_of_getElem? (i := 1) rfl))) (mvT hZ (hw _ (List.mem_of_getElem? (i := 2) rfl))) (mvT hZ (hw _ (List.mem_of_getElem? (i := 3) rfl))) (by decide) (backOfSH (s := s) (vm0 := T1.vm) (W := 0) (own_rm_str l Z a0 hw [] vb vcs T1.heap n0 Z1 S_COMPACT_STRINGS_1 (by assumption)) hZ (hw _ (List.mem_of_getElem? (i := 3) rfl)) (hw _ (List.mem_of_getElem? (i := 2) rfl)) (by decide) (by decide) hEL C1.1) (g := (mkF m 7 #[.val (.int va), .val (.int vb), .val (.int vc), .val (.int vd), .val (.int ve), .val (.int vf), .val (.ref r1), .unset, .unset, .unset, .unset, .unset, .unset] [(.int vb)])) rfl (by rw [hml]; rfl) (argsL := [(.int vb)]) (rest := []) (lenOf own_pd9 rfl) rfl (by show 2 * 0 + _ ≤ _; exact Nat.le_of_eq rfl) (hb hby at_7) (fun _ _ => ⟨rfl, rfl, (by decide : 6 + 6 ≤ _), (by decide : 12 + 12 ≤ _)⟩)
  dsimp only [Pt.U, Pt.locs, Pt.cells, Pt.slots] at X2 l2 y2 z2 st2 hQ2 hS2 hgr2 C2q
  subst l2 y2 z2
  have C2 := C1.trans C2q
  have hS := foldS hS hk1 hS2 hgr2
  have hk2 : T2.heap.size ≤ T2.heap.size := Nat.le_refl _
  have hZ : Z.Warmed39 T2.vm := State.Warmed39.trans (t := (s.setVm T1.vm)) hZ hS2.1
  have hown : T2.vm.findClass "com/example/wardkeeper/wardkeeper/patient/IdentifierTypeKeyPinLaw" = some m.cls := by rw [hS2.1.alike.findClass]; exact hown
  have X2 : Stand p l e room_1 (s.setVm T2.vm) m #[(.int va), (.int vb), (.int vc), (.int vd), (.int ve), (.int vf)] below meth c T2 _ _ _ := X2
  obtain ⟨r2, rfl, N2q, K2q, c2_1, c2_2⟩ := hQ2
  refine own_FinW.go (fun t k => st2.trans k) ?_
  have N2 := Fr.app N1 N2q
  have S_COMPACT_STRINGS_2 := own_staKeep S_COMPACT_STRINGS_1 K2q
  have S_NATIONAL_2 := own_staKeep S_NATIONAL_1 K2q
  have S_ORGANISATION_2 := own_staKeep S_ORGANISATION_1 K2q
  have S_TEAM_2 := own_staKeep S_TEAM_1 K2q
  have S_EMPTY_2 := own_staKeep S_EMPTY_1 K2q
  have E_om_2 := E_om_1.keep K2q
  have E_r1_2 := c1_1.keep K2q
  have Z2 := Nat.le_trans Z1 K2q.1
  have ne_om_r2 : om ≠ r2 := Nat.ne_of_lt (Nat.lt_of_lt_of_le E_om_1.lt c2_2)
  have ne_r1_r2 : r1 ≠ r2 := Nat.ne_of_lt (Nat.lt_of_lt_of_le c1_1.lt c2_2)
  have g_r2 : n0 ≤ r2 := Nat.le_trans Z1 c2_2
  show own_FinW _ _ _ _ _ _ _ (T2.setTop (mkF m 10 #[.val (.int va), .val (.int vb), .val (.int vc), .val (.int vd), .val (.int ve), .val (.int vf), .val (.ref r1), .unset, .unset, .unset, .unset, .unset, .unset] [(.ref r2)]))
  refine own_FinW.go (fun t k => XS.astore X2.here hx rfl (hb hby at_10) rfl rfl (l' := #[.val (.int va), .val (.int vb), .val (.int vc), .val (.int vd), .val (.int ve), .val (.int vf), .val (.ref r1), .val (.ref r2), .unset, .unset, .unset, .unset, .unset]) rfl k) ?_
  show own_FinW _ _ _ _ _ _ _ (T2.setTop (mkF m 12 #[.val (.int va), .val (.int vb), .val (.int vc), .val (.int vd), .val (.int ve), .val (.int vf), .val (.ref r1), .val (.ref r2), .unset, .unset, .unset, .unset, .unset] []))
  refine own_FinW.go (fun t k => XS.iloadN X2.here hx rfl (hb hby at_12) rfl k) ?_
  show own_FinW _ _ _ _ _ _ _ (T2.setTop (mkF m 13 #[.val (.int va), .val (.int vb), .val (.int vc), .val (.int vd), .val (.int ve), .val (.int vf), .val (.ref r1), .val (.ref r2), .unset, .unset, .unset, .unset, .unset] [(.int vc)]))
  obtain ⟨_, _, ⟨T3, L3, k3, n3⟩, -, X3, hS3, hgr3, ⟨Lc3, hQ3, l3, y3, z3, C3q⟩, st3⟩ := callSS X2 hx (y := (⟨"com/example/wardkeeper/wardkeeper/patient/IdentifierTypeKeyPinLaw", "str", "(I)Ljava/lang/String;"⟩ : MethodName)) hown (mvT hZ (hw _ (List.mem_of_getElem? (i := 0) rfl))) (mvT hZ (hw _ (List.mem_of_getElem? (i := 1) rfl))) (mvT hZ (hw _ (List.mem_of_getElem? (i := 2) rfl))) (mvT hZ (hw _ (List.mem_of_getElem? (i := 3) rfl))) (by decide) (backOfSH (s := s) (vm0 := T2.vm) (W := 0) (own_rm_str l Z a0 hw [] vc vcs T2.heap n0 Z2 S_COMPACT_STRINGS_2 (by assumption)) hZ (hw _ (List.mem_of_getElem? (i := 3) rfl)) (hw _ (List.mem_of_getElem? (i := 2) rfl)) (by decide) (by decide) hEL C2.1) (g := (mkF m 13 #[.val (.int va), .val (.int vb), .val (.int vc), .val (.int vd), .val (.int ve), .val (.int vf), .val (.ref r1), .val (.ref r2), .unset, .unset, .unset, .unset, .unset] [(.int vc)])) rfl (by rw [hml]; rfl) (argsL := [(.int vc)]) (rest := []) (lenOf own_pd9 rfl) rfl (by show 2 * 0 + _ ≤ _; exact Nat.le_of_eq rfl) (hb hby at_13) (fun _ _ => ⟨rfl, rfl, (by decide : 12 + 6 ≤ _), (by decide : 24 + 12 ≤ _)⟩)
  dsimp only [Pt.U, Pt.locs, Pt.cells, Pt.slots] at X3 l3 y3 z3 st3 hQ3 hS3 hgr3 C3q
  subst l3 y3 z3
  have C3 := C2.trans C3q
  have hS := foldS hS hk2 hS3 hgr3
  have hk3 : T3.heap.size ≤ T3.heap.size := Nat.le_refl _
  have hZ : Z.Warmed39 T3.vm := State.Warmed39.trans (t := (s.setVm T2.vm)) hZ hS3.1
  have hown : T3.vm.findClass "com/example/wardkeeper/wardkeeper/patient/IdentifierTypeKeyPinLaw" = some m.cls := by rw [hS3.1.alike.findClass]; exact hown
  have X3 : Stand p l e room_1 (s.setVm T3.vm) m #[(.int va), (.int vb), (.int vc), (.int vd), (.int ve), (.int vf)] below meth c T3 _ _ _ := X3
  obtain ⟨r3, rfl, N3q, K3q, c3_1, c3_2⟩ := hQ3
  refine own_FinW.go (fun t k => st3.trans k) ?_
  have N3 := Fr.app N2 N3q
  have S_COMPACT_STRINGS_3 := own_staKeep S_COMPACT_STRINGS_2 K3q
  have S_NATIONAL_3 := own_staKeep S_NATIONAL_2 K3q
  have S_ORGANISATION_3 := own_staKeep S_ORGANISATION_2 K3q
  have S_TEAM_3 := own_staKeep S_TEAM_2 K3q
  have S_EMPTY_3 := own_staKeep S_EMPTY_2 K3q
  have E_om_3 := E_om_2.keep K3q
  have E_r1_3 := E_r1_2.keep K3q
  have E_r2_3 := c2_1.keep K3q
  have Z3 := Nat.le_trans Z2 K3q.1
  have ne_om_r3 : om ≠ r3 := Nat.ne_of_lt (Nat.lt_of_lt_of_le E_om_2.lt c3_2)
  have ne_r1_r3 : r1 ≠ r3 := Nat.ne_of_lt (Nat.lt_of_lt_of_le E_r1_2.lt c3_2)
  have ne_r2_r3 : r2 ≠ r3 := Nat.ne_of_lt (Nat.lt_of_lt_of_le c2_1.lt c3_2)
  have g_r3 : n0 ≤ r3 := Nat.le_trans Z2 c3_2
  show own_FinW _ _ _ _ _ _ _ (T3.setTop (mkF m 16 #[.val (.int va), .val (.int vb), .val (.int vc), .val (.int vd), .val (.int ve), .val (.int vf), .val (.ref r1), .val (.ref r2), .unset, .unset, .unset, .unset, .unset] [(.ref r3)]))
  refine own_FinW.go (fun t k => XS.astore X3.here hx rfl (hb hby at_16) rfl rfl (l' := #[.val (.int va), .val (.int vb), .val (.int vc), .val (.int vd), .val (.int ve), .val (.int vf), .val (.ref r1), .val (.ref r2), .val (.ref r3), .unset, .unset, .unset, .unset]) rfl k) ?_
  show own_FinW _ _ _ _ _ _ _ (T3.setTop (mkF m 18 #[.val (.int va), .val (.int vb), .val (.int vc), .val (.int vd), .val (.int ve), .val (.int vf), .val (.ref r1), .val (.ref r2), .val (.ref r3), .unset, .unset, .unset, .unset] []))
  refine own_FinW.go (fun t k => XS.iloadN X3.here hx rfl (hb hby at_18) rfl k) ?_
  show own_FinW _ _ _ _ _ _ _ (T3.setTop (mkF m 19 #[.val (.int va), .val (.int vb), .val (.int vc), .val (.int vd), .val (.int ve), .val (.int vf), .val (.ref r1), .val (.ref r2), .val (.ref r3), .unset, .unset, .unset, .unset] [(.int vd)]))
  obtain ⟨_, _, ⟨T4, L4, k4, n4⟩, -, X4, hS4, hgr4, ⟨Lc4, hQ4, l4, y4, z4, C4q⟩, st4⟩ := callSS X3 hx (y := (⟨"com/example/wardkeeper/wardkeeper/patient/IdentifierTypeKeyPinLaw", "str", "(I)Ljava/lang/String;"⟩ : MethodName)) hown (mvT hZ (hw _ (List.mem_of_getElem? (i := 0) rfl))) (mvT hZ (hw _ (List.mem_of_getElem? (i := 1) rfl))) (mvT hZ (hw _ (List.mem_of_getElem? (i := 2) rfl))) (mvT hZ (hw _ (List.mem_of_getElem? (i := 3) rfl))) (by decide) (backOfSH (s := s) (vm0 := T3.vm) (W := 0) (own_rm_str l Z a0 hw [] vd vcs T3.heap n0 Z3 S_COMPACT_STRINGS_3 (by assumption)) hZ (hw _ (List.mem_of_getElem? (i := 3) rfl)) (hw _ (List.mem_of_getElem? (i := 2) rfl)) (by decide) (by decide) hEL C3.1) (g := (mkF m 19 #[.val (.int va), .val (.int vb), .val (.int vc), .val (.int vd), .val (.int ve), .val (.int vf), .val (.ref r1), .val (.ref r2), .val (.ref r3), .unset, .unset, .unset, .unset] [(.int vd)])) rfl (by rw [hml]; rfl) (argsL := [(.int vd)]) (rest := []) (lenOf own_pd9 rfl) rfl (by show 2 * 0 + _ ≤ _; exact Nat.le_of_eq rfl) (hb hby at_19) (fun _ _ => ⟨rfl, rfl, (by decide : 18 + 6 ≤ _), (by decide : 36 + 12 ≤ _)⟩)
  dsimp only [Pt.U, Pt.locs, Pt.cells, Pt.slots] at X4 l4 y4 z4 st4 hQ4 hS4 hgr4 C4q
  subst l4 y4 z4
  have C4 := C3.trans C4q
  have hS := foldS hS hk3 hS4 hgr4
  have hk4 : T4.heap.size ≤ T4.heap.size := Nat.le_refl _
  have hZ : Z.Warmed39 T4.vm := State.Warmed39.trans (t := (s.setVm T3.vm)) hZ hS4.1
  have hown : T4.vm.findClass "com/example/wardkeeper/wardkeeper/patient/IdentifierTypeKeyPinLaw" = some m.cls := by rw [hS4.1.alike.findClass]; exact hown
  have X4 : Stand p l e room_1 (s.setVm T4.vm) m #[(.int va), (.int vb), (.int vc), (.int vd), (.int ve), (.int vf)] below meth c T4 _ _ _ := X4
  obtain ⟨r4, rfl, N4q, K4q, c4_1, c4_2⟩ := hQ4
  refine own_FinW.go (fun t k => st4.trans k) ?_
  have N4 := Fr.app N3 N4q
  have S_COMPACT_STRINGS_4 := own_staKeep S_COMPACT_STRINGS_3 K4q
  have S_NATIONAL_4 := own_staKeep S_NATIONAL_3 K4q
  have S_ORGANISATION_4 := own_staKeep S_ORGANISATION_3 K4q
  have S_TEAM_4 := own_staKeep S_TEAM_3 K4q
  have S_EMPTY_4 := own_staKeep S_EMPTY_3 K4q
  have E_om_4 := E_om_3.keep K4q
  have E_r1_4 := E_r1_3.keep K4q
  have E_r2_4 := E_r2_3.keep K4q
  have E_r3_4 := c3_1.keep K4q
  have Z4 := Nat.le_trans Z3 K4q.1
  have ne_om_r4 : om ≠ r4 := Nat.ne_of_lt (Nat.lt_of_lt_of_le E_om_3.lt c4_2)
  have ne_r1_r4 : r1 ≠ r4 := Nat.ne_of_lt (Nat.lt_of_lt_of_le E_r1_3.lt c4_2)
  have ne_r2_r4 : r2 ≠ r4 := Nat.ne_of_lt (Nat.lt_of_lt_of_le E_r2_3.lt c4_2)
  have ne_r3_r4 : r3 ≠ r4 := Nat.ne_of_lt (Nat.lt_of_lt_of_le c3_1.lt c4_2)
  have g_r4 : n0 ≤ r4 := Nat.le_trans Z3 c4_2
  show own_FinW _ _ _ _ _ _ _ (T4.setTop (mkF m 22 #[.val (.int va), .val (.int vb), .val (.int vc), .val (.int vd), .val (.int ve), .val (.int vf), .val (.ref r1), .val (.ref r2), .val (.ref r3), .unset, .unset, .unset, .unset] [(.ref r4)]))
  refine own_FinW.go (fun t k => XS.astore X4.here hx rfl (hb hby at_22) rfl rfl (l' := #[.val (.int va), .val (.int vb), .val (.int vc), .val (.int vd), .val (.int ve), .val (.int vf), .val (.ref r1), .val (.ref r2), .val (.ref r3), .val (.ref r4), .unset, .unset, .unset]) rfl k) ?_
  show own_FinW _ _ _ _ _ _ _ (T4.setTop (mkF m 24 #[.val (.int va), .val (.int vb), .val (.int vc), .val (.int vd), .val (.int ve), .val (.int vf), .val (.ref r1), .val (.ref r2), .val (.ref r3), .val (.ref r4), .unset, .unset, .unset] []))
  refine own_FinW.go (fun t k => XS.iload X4.here hx rfl (hb hby at_24) rfl k) ?_
  show own_FinW _ _ _ _ _ _ _ (T4.setTop (mkF m 26 #[.val (.int va), .val (.int vb), .val (.int vc), .val (.int vd), .val (.int ve), .val (.int vf), .val (.ref r1), .val (.ref r2), .val (.ref r3), .val (.ref r4), .unset, .unset, .unset] [(.int ve)]))
  obtain ⟨_, _, ⟨T5, L5, k5, n5⟩, -, X5, hS5, hgr5, ⟨Lc5, hQ5, l5, y5, z5, C5q⟩, st5⟩ := callSS X4 hx (y := (⟨"com/example/wardkeeper/wardkeeper/patient/IdentifierTypeKeyPinLaw", "str", "(I)Ljava/lang/String;"⟩ : MethodName)) hown (mvT hZ (hw _ (List.mem_of_getElem? (i := 0) rfl))) (mvT hZ (hw _ (List.mem_of_getElem? (i := 1) rfl))) (mvT hZ (hw _ (List.mem_of_getElem? (i := 2) rfl))) (mvT hZ (hw _ (List.mem_of_getElem? (i := 3) rfl))) (by decide) (backOfSH (s := s) (vm0 := T4.vm) (W := 0) (own_rm_str l Z a0 hw [] ve vcs T4.heap n0 Z4 S_COMPACT_STRINGS_4 (by assumption)) hZ (hw _ (List.mem_of_getElem? (i := 3) rfl)) (hw _ (List.mem_of_getElem? (i := 2) rfl)) (by decide) (by decide) hEL C4.1) (g := (mkF m 26 #[.val (.int va), .val (.int vb), .val (.int vc), .val (.int vd), .val (.int ve), .val (.int vf), .val (.ref r1), .val (.ref r2), .val (.ref r3), .val (.ref r4), .unset, .unset, .unset] [(.int ve)])) rfl (by rw [hml]; rfl) (argsL := [(.int ve)]) (rest := []) (lenOf own_pd9 rfl) rfl (by show 2 * 0 + _ ≤ _; exact Nat.le_of_eq rfl) (hb hby at_26) (fun _ _ => ⟨rfl, rfl, (by decide : 24 + 6 ≤ _), (by decide : 48 + 12 ≤ _)⟩)
  dsimp only [Pt.U, Pt.locs, Pt.cells, Pt.slots] at X5 l5 y5 z5 st5 hQ5 hS5 hgr5 C5q
  subst l5 y5 z5
  have C5 := C4.trans C5q
  have hS := foldS hS hk4 hS5 hgr5
  have hk5 : T5.heap.size ≤ T5.heap.size := Nat.le_refl _
  have hZ : Z.Warmed39 T5.vm := State.Warmed39.trans (t := (s.setVm T4.vm)) hZ hS5.1
  have hown : T5.vm.findClass "com/example/wardkeeper/wardkeeper/patient/IdentifierTypeKeyPinLaw" = some m.cls := by rw [hS5.1.alike.findClass]; exact hown
  have X5 : Stand p l e room_1 (s.setVm T5.vm) m #[(.int va), (.int vb), (.int vc), (.int vd), (.int ve), (.int vf)] below meth c T5 _ _ _ := X5
  obtain ⟨r5, rfl, N5q, K5q, c5_1, c5_2⟩ := hQ5
  refine own_FinW.go (fun t k => st5.trans k) ?_
  have N5 := Fr.app N4 N5q
  have S_COMPACT_STRINGS_5 := own_staKeep S_COMPACT_STRINGS_4 K5q
  have S_NATIONAL_5 := own_staKeep S_NATIONAL_4 K5q
  have S_ORGANISATION_5 := own_staKeep S_ORGANISATION_4 K5q
  have S_TEAM_5 := own_staKeep S_TEAM_4 K5q
  have S_EMPTY_5 := own_staKeep S_EMPTY_4 K5q
  have E_om_5 := E_om_4.keep K5q
  have E_r1_5 := E_r1_4.keep K5q
  have E_r2_5 := E_r2_4.keep K5q
  have E_r3_5 := E_r3_4.keep K5q
  have E_r4_5 := c4_1.keep K5q
  have Z5 := Nat.le_trans Z4 K5q.1
  have ne_om_r5 : om ≠ r5 := Nat.ne_of_lt (Nat.lt_of_lt_of_le E_om_4.lt c5_2)
  have ne_r1_r5 : r1 ≠ r5 := Nat.ne_of_lt (Nat.lt_of_lt_of_le E_r1_4.lt c5_2)
  have ne_r2_r5 : r2 ≠ r5 := Nat.ne_of_lt (Nat.lt_of_lt_of_le E_r2_4.lt c5_2)
  have ne_r3_r5 : r3 ≠ r5 := Nat.ne_of_lt (Nat.lt_of_lt_of_le E_r3_4.lt c5_2)
  have ne_r4_r5 : r4 ≠ r5 := Nat.ne_of_lt (Nat.lt_of_lt_of_le c4_1.lt c5_2)
  have g_r5 : n0 ≤ r5 := Nat.le_trans Z4 c5_2
  show own_FinW _ _ _ _ _ _ _ (T5.setTop (mkF m 29 #[.val (.int va), .val (.int vb), .val (.int vc), .val (.int vd), .val (.int ve), .val (.int vf), .val (.ref r1), .val (.ref r2), .val (.ref r3), .val (.ref r4), .unset, .unset, .unset] [(.ref r5)]))
  refine own_FinW.go (fun t k => XS.astore X5.here hx rfl (hb hby at_29) rfl rfl (l' := #[.val (.int va), .val (.int vb), .val (.int vc), .val (.int vd), .val (.int ve), .val (.int vf), .val (.ref r1), .val (.ref r2), .val (.ref r3), .val (.ref r4), .val (.ref r5), .unset, .unset]) rfl k) ?_
  show own_FinW _ _ _ _ _ _ _ (T5.setTop (mkF m 31 #[.val (.int va), .val (.int vb), .val (.int vc), .val (.int vd), .val (.int ve), .val (.int vf), .val (.ref r1), .val (.ref r2), .val (.ref r3), .val (.ref r4), .val (.ref r5), .unset, .unset] []))
  obtain ⟨T6, h6, X6, e6, E6, A6, D6, -, st6⟩ := newO X5 hx hZ hown (hw _ (List.mem_of_getElem? (i := 26) rfl)) (hw _ (List.mem_of_getElem? (i := 27) rfl)) (hw _ (List.mem_of_getElem? (i := 28) rfl)) rfl (g := (mkF m 31 #[.val (.int va), .val (.int vb), .val (.int vc), .val (.int vd), .val (.int ve), .val (.int vf), .val (.ref r1), .val (.ref r2), .val (.ref r3), .val (.ref r4), .val (.ref r5), .unset, .unset] [])) rfl (hb hby at_31) (by decide) (by decide)
  obtain ⟨b6, g6⟩ : ∃ z, z = T5.heap.size := ⟨_, rfl⟩
  rw [← g6] at A6 D6 st6
  refine own_FinW.go st6 ?_
  have g_b6 : n0 ≤ b6 := Nat.le_trans Z5 (Nat.le_of_eq g6.symm)
  have ne_om_b6 : om ≠ b6 := Nat.ne_of_lt (Nat.lt_of_lt_of_le E_om_5.lt (Nat.le_of_eq g6.symm))
  have ne_r1_b6 : r1 ≠ b6 := Nat.ne_of_lt (Nat.lt_of_lt_of_le E_r1_5.lt (Nat.le_of_eq g6.symm))
  have ne_r2_b6 : r2 ≠ b6 := Nat.ne_of_lt (Nat.lt_of_lt_of_le E_r2_5.lt (Nat.le_of_eq g6.symm))
  have ne_r3_b6 : r3 ≠ b6 := Nat.ne_of_lt (Nat.lt_of_lt_of_le E_r3_5.lt (Nat.le_of_eq g6.symm))
  have ne_r4_b6 : r4 ≠ b6 := Nat.ne_of_lt (Nat.lt_of_lt_of_le E_r4_5.lt (Nat.le_of_eq g6.symm))
  have ne_r5_b6 : r5 ≠ b6 := Nat.ne_of_lt (Nat.lt_of_lt_of_le c5_1.lt (Nat.le_of_eq g6.symm))
  have S_NATIONAL_6 := Sta.ext E6 S_NATIONAL_5
  have S_ORGANISATION_6 := Sta.ext E6 S_ORGANISATION_5
  have S_TEAM_6 := Sta.ext E6 S_TEAM_5
  have S_EMPTY_6 := Sta.ext E6 S_EMPTY_5
  have E_om_6 := Exa.ext E6 E_om_5
  have E_r1_6 := Exa.ext E6 E_r1_5
  have E_r2_6 := Exa.ext E6 E_r2_5
  have E_r3_6 := Exa.ext E6 E_r3_5
  have E_r4_6 := Exa.ext E6 E_r4_5
  have E_r5_6 := Exa.ext E6 c5_1
  have Z6 := Nat.le_trans Z5 E6.1
  have hk6 := Nat.le_trans hk5 E6.1
  have F_b6_level : Fld Z h6 b6 "com/example/wardkeeper/wardkeeper/patient/Identifier" "level" "Lcom/example/wardkeeper/wardkeeper/patient/Identifier$Level;" .null := D6 (Or.inr (hw _ (List.mem_of_getElem? (i := 46) rfl))) (ty := (.object "com/example/wardkeeper/wardkeeper/patient/Identifier$Level")) (by decide)
  have F_b6_authority : Fld Z h6 b6 "com/example/wardkeeper/wardkeeper/patient/Identifier" "authority" "Ljava/lang/String;" .null := D6 (Or.inr (hw _ (List.mem_of_getElem? (i := 48) rfl))) (ty := (.object "java/lang/String")) (by decide)
  have F_b6_typeCode : Fld Z h6 b6 "com/example/wardkeeper/wardkeeper/patient/Identifier" "typeCode" "Ljava/lang/String;" .null := D6 (Or.inr (hw _ (List.mem_of_getElem? (i := 50) rfl))) (ty := (.object "java/lang/String")) (by decide)
  have F_b6_value : Fld Z h6 b6 "com/example/wardkeeper/wardkeeper/patient/Identifier" "value" "Ljava/lang/String;" .null := D6 (Or.inr (hw _ (List.mem_of_getElem? (i := 52) rfl))) (ty := (.object "java/lang/String")) (by decide)
  have F_b6_status : Fld Z h6 b6 "com/example/wardkeeper/wardkeeper/patient/Identifier" "status" "Ljava/lang/String;" .null := D6 (Or.inr (hw _ (List.mem_of_getElem? (i := 54) rfl))) (ty := (.object "java/lang/String")) (by decide)
  have F_b6_organisation : Fld Z h6 b6 "com/example/wardkeeper/wardkeeper/patient/Identifier" "organisation" "Ljava/lang/String;" .null := D6 (Or.inr (hw _ (List.mem_of_getElem? (i := 56) rfl))) (ty := (.object "java/lang/String")) (by decide)
  show own_FinW _ _ _ _ _ _ _ (T6.setTop (mkF m 34 #[.val (.int va), .val (.int vb), .val (.int vc), .val (.int vd), .val (.int ve), .val (.int vf), .val (.ref r1), .val (.ref r2), .val (.ref r3), .val (.ref r4), .val (.ref r5), .unset, .unset] [(.ref b6)]))
  refine own_FinW.go (fun t k => XS.dup X6.here hx rfl (hb hby at_34) rfl rfl k) ?_
  show own_FinW _ _ _ _ _ _ _ (T6.setTop (mkF m 35 #[.val (.int va), .val (.int vb), .val (.int vc), .val (.int vd), .val (.int ve), .val (.int vf), .val (.ref r1), .val (.ref r2), .val (.ref r3), .val (.ref r4), .val (.ref r5), .unset, .unset] [(.ref b6), (.ref b6)]))
  refine own_FinW.go (fun t k => XS.iload X6.here hx rfl (hb hby at_35) rfl k) ?_
  show own_FinW _ _ _ _ _ _ _ (T6.setTop (mkF m 37 #[.val (.int va), .val (.int vb), .val (.int vc), .val (.int vd), .val (.int ve), .val (.int vf), .val (.ref r1), .val (.ref r2), .val (.ref r3), .val (.ref r4), .val (.ref r5), .unset, .unset] [(.int vf), (.ref b6), (.ref b6)]))
  obtain ⟨_, _, ⟨T7, L7, k7, n7⟩, -, X7, ⟨Lc7, hQ7, l7, y7, z7⟩, st7⟩ := Jvm.LawKit.callS X6 hx (y := (⟨"com/example/wardkeeper/wardkeeper/patient/IdentifierTypeKeyPinLaw", "level", "(I)Lcom/example/wardkeeper/wardkeeper/patient/Identifier$Level;"⟩ : MethodName)) hown (mvT hZ (hw _ (List.mem_of_getElem? (i := 29) rfl))) (mvT hZ (hw _ (List.mem_of_getElem? (i := 30) rfl))) (mvT hZ (hw _ (List.mem_of_getElem? (i := 2) rfl))) (mvT hZ (hw _ (List.mem_of_getElem? (i := 31) rfl))) (by decide) (backOf (W := 2) (own_rm_lev l Z a0 hw [] vf oNATIONAL oORGANISATION oTEAM h6 n0 Z6 S_NATIONAL_6 S_ORGANISATION_6 S_TEAM_6) hZ (hw _ (List.mem_of_getElem? (i := 31) rfl)) (hw _ (List.mem_of_getElem? (i := 2) rfl)) (by decide) (by decide)) (g := (mkF m 37 #[.val (.int va), .val (.int vb), .val (.int vc), .val (.int vd), .val (.int ve), .val (.int vf), .val (.ref r1), .val (.ref r2), .val (.ref r3), .val (.ref r4), .val (.ref r5), .unset, .unset] [(.int vf), (.ref b6), (.ref b6)])) rfl (by rw [hml]; rfl) (argsL := [(.int vf)]) (rest := [(.ref b6), (.ref b6)]) (lenOf own_pd10 rfl) rfl (by show 2 * 0 + _ ≤ _; exact Nat.le_of_eq rfl) (hb hby at_37) (fun _ _ => ⟨rfl, e6, (by decide : 31 + 0 ≤ _), (by decide : 66 + 0 ≤ _)⟩)
  dsimp only [Pt.U, Pt.locs, Pt.cells, Pt.slots] at X7 l7 y7 z7 st7 hQ7
  subst l7 y7 z7
  obtain ⟨r7, rfl, N7q, e7⟩ := hQ7
  refine own_FinW.go (fun t k => st7 t k) ?_
  have N7 := Fr.app N5 N7q
  show own_FinW _ _ _ _ _ _ _ (T7.setTop (mkF m 40 #[.val (.int va), .val (.int vb), .val (.int vc), .val (.int vd), .val (.int ve), .val (.int vf), .val (.ref r1), .val (.ref r2), .val (.ref r3), .val (.ref r4), .val (.ref r5), .unset, .unset] [(.ref r7), (.ref b6), (.ref b6)]))
  refine own_FinW.go (fun t k => XS.aload X7.here hx rfl (hb hby at_40) rfl rfl k) ?_
  show own_FinW _ _ _ _ _ _ _ (T7.setTop (mkF m 42 #[.val (.int va), .val (.int vb), .val (.int vc), .val (.int vd), .val (.int ve), .val (.int vf), .val (.ref r1), .val (.ref r2), .val (.ref r3), .val (.ref r4), .val (.ref r5), .unset, .unset] [(.ref r1), (.ref r7), (.ref b6), (.ref b6)]))
  refine own_FinW.go (fun t k => XS.aload X7.here hx rfl (hb hby at_42) rfl rfl k) ?_
  show own_FinW _ _ _ _ _ _ _ (T7.setTop (mkF m 44 #[.val (.int va), .val (.int vb), .val (.int vc), .val (.int vd), .val (.int ve), .val (.int vf), .val (.ref r1), .val (.ref r2), .val (.ref r3), .val (.ref r4), .val (.ref r5), .unset, .unset] [(.ref r2), (.ref r1), (.ref r7), (.ref b6), (.ref b6)]))
  refine own_FinW.go (fun t k => XS.aload X7.here hx rfl (hb hby at_44) rfl rfl k) ?_
  show own_FinW _ _ _ _ _ _ _ (T7.setTop (mkF m 46 #[.val (.int va), .val (.int vb), .val (.int vc), .val (.int vd), .val (.int ve), .val (.int vf), .val (.ref r1), .val (.ref r2), .val (.ref r3), .val (.ref r4), .val (.ref r5), .unset, .unset] [(.ref r3), (.ref r2), (.ref r1), (.ref r7), (.ref b6), (.ref b6)]))
  refine own_FinW.go (fun t k => XS.aload X7.here hx rfl (hb hby at_46) rfl rfl k) ?_
  show own_FinW _ _ _ _ _ _ _ (T7.setTop (mkF m 48 #[.val (.int va), .val (.int vb), .val (.int vc), .val (.int vd), .val (.int ve), .val (.int vf), .val (.ref r1), .val (.ref r2), .val (.ref r3), .val (.ref r4), .val (.ref r5), .unset, .unset] [(.ref r4), (.ref r3), (.ref r2), (.ref r1), (.ref r7), (.ref b6), (.ref b6)]))
  refine own_FinW.go (fun t k => XS.aload X7.here hx rfl (hb hby at_48) rfl rfl k) ?_
  show own_FinW _ _ _ _ _ _ _ (T7.setTop (mkF m 50 #[.val (.int va), .val (.int vb), .val (.int vc), .val (.int vd), .val (.int ve), .val (.int vf), .val (.ref r1), .val (.ref r2), .val (.ref r3), .val (.ref r4), .val (.ref r5), .unset, .unset] [(.ref r5), (.ref r4), (.ref r3), (.ref r2), (.ref r1), (.ref r7), (.ref b6), (.ref b6)]))
  obtain ⟨_, _, ⟨T8, L8, k8, n8⟩, -, X8, ⟨Lc8, hQ8, l8, y8, z8⟩, st8⟩ := X7.specialBack hx (y := (⟨"com/example/wardkeeper/wardkeeper/patient/Identifier", "<init>", "(Lcom/example/wardkeeper/wardkeeper/patient/Identifier$Level;Ljava/lang/String;Ljava/lang/String;Ljava/lang/String;Ljava/lang/String;Ljava/lang/String;)V"⟩ : MethodName)) rfl hown (mvT hZ (hw _ (List.mem_of_getElem? (i := 36) rfl))) (mvT hZ (hw _ (List.mem_of_getElem? (i := 37) rfl))) (mvT hZ (hw _ (List.mem_of_getElem? (i := 38) rfl))) (by decide) (backOf (W := 1) (own_rm_ini l Z a0 hw [] b6 r7 r1 r2 r3 r4 r5  h6 n0 Z6 A6 F_b6_level F_b6_authority F_b6_typeCode F_b6_value F_b6_status F_b6_organisation g_b6) hZ (hw _ (List.mem_of_getElem? (i := 38) rfl)) (hw _ (List.mem_of_getElem? (i := 28) rfl)) (by decide) (by decide)) (g := (mkF m 50 #[.val (.int va), .val (.int vb), .val (.int vc), .val (.int vd), .val (.int ve), .val (.int vf), .val (.ref r1), .val (.ref r2), .val (.ref r3), .val (.ref r4), .val (.ref r5), .unset, .unset] [(.ref r5), (.ref r4), (.ref r3), (.ref r2), (.ref r1), (.ref r7), (.ref b6), (.ref b6)])) rfl (by rw [hml]; rfl) (Steps.refl _) (a := b6) (argsL := [(.ref r7), (.ref r1), (.ref r2), (.ref r3), (.ref r4), (.ref r5)]) (rest := [(.ref b6)]) (lenOf own_pd11 rfl) rfl (by show 2 * 0 + _ ≤ _; exact Nat.le_of_eq rfl) (hb hby at_50) (fun _ _ => ⟨rfl, e7, (by decide : 31 + 0 ≤ _), (by decide : 66 + 0 ≤ _)⟩)
  dsimp only [Pt.U, Pt.locs, Pt.cells, Pt.slots] at X8 l8 y8 z8 st8 hQ8
  subst l8 y8 z8
  obtain ⟨rfl, N8q, K8q, c8_1, c8_2, c8_3⟩ := hQ8
  refine own_FinW.go (fun t k => st8.trans k) ?_
  have N8 := Fr.app N7 N8q
  have S_EMPTY_8 := own_staKeep1 S_EMPTY_6 K8q A6
  have E_om_8 := E_om_6.keep K8q
  have E_r1_8 := E_r1_6.keep K8q
  have E_r2_8 := E_r2_6.keep K8q
  have E_r3_8 := E_r3_6.keep K8q
  have E_r4_8 := E_r4_6.keep K8q
  have E_r5_8 := E_r5_6.keep K8q
  have Z8 := Nat.le_trans Z6 K8q.1
  have hk8 := Nat.le_trans hk6 K8q.1
  show own_FinW _ _ _ _ _ _ _ (T8.setTop (mkF m 53 #[.val (.int va), .val (.int vb), .val (.int vc), .val (.int vd), .val (.int ve), .val (.int vf), .val (.ref r1), .val (.ref r2), .val (.ref r3), .val (.ref r4), .val (.ref r5), .unset, .unset] [(.ref b6)]))
  refine own_FinW.go (fun t k => XS.astore X8.here hx rfl (hb hby at_53) rfl rfl (l' := #[.val (.int va), .val (.int vb), .val (.int vc), .val (.int vd), .val (.int ve), .val (.int vf), .val (.ref r1), .val (.ref r2), .val (.ref r3), .val (.ref r4), .val (.ref r5), .val (.ref b6), .unset]) rfl k) ?_
  show own_FinW _ _ _ _ _ _ _ (T8.setTop (mkF m 55 #[.val (.int va), .val (.int vb), .val (.int vc), .val (.int vd), .val (.int ve), .val (.int vf), .val (.ref r1), .val (.ref r2), .val (.ref r3), .val (.ref r4), .val (.ref r5), .val (.ref b6), .unset] []))
  refine own_FinW.go (fun t k => XS.aload X8.here hx rfl (hb hby at_55) rfl rfl k) ?_
  show own_FinW _ _ _ _ _ _ _ (T8.setTop (mkF m 57 #[.val (.int va), .val (.int vb), .val (.int vc), .val (.int vd), .val (.int ve), .val (.int vf), .val (.ref r1), .val (.ref r2), .val (.ref r3), .val (.ref r4), .val (.ref r5), .val (.ref b6), .unset] [(.ref b6)]))
  obtain ⟨cq9, kq9, q9a, q9b, q9c⟩ := isOf hZ rfl c8_1
  obtain ⟨_, _, ⟨T9, L9, k9, n9⟩, -, X9, ⟨Lc9, hQ9, l9, y9, z9⟩, st9⟩ := X8.virtualBack hx (y := (⟨"com/example/wardkeeper/wardkeeper/patient/Identifier", "typeKey", "()Ljava/util/List;"⟩ : MethodName)) (z := (⟨"com/example/wardkeeper/wardkeeper/patient/Identifier", "typeKey", "()Ljava/util/List;"⟩ : MethodName)) hown (mvT hZ (hw _ (List.mem_of_getElem? (i := 57) rfl))) (mvT hZ (hw _ (List.mem_of_getElem? (i := 58) rfl))) (notFace_of_selects (args := #[]) (mvT hZ (hw _ (List.mem_of_getElem? (i := 60) rfl)))) (mvT hZ (hw _ (List.mem_of_getElem? (i := 60) rfl))) (mvT hZ (hw _ (List.mem_of_getElem? (i := 59) rfl))) (by decide) (backOf (W := 0) (own_rm_tk l Z a0 hw [] b6 r1 r2 T8.heap n0 Z8 c8_2 c8_3) hZ (hw _ (List.mem_of_getElem? (i := 61) rfl)) (hw _ (List.mem_of_getElem? (i := 28) rfl)) (by decide) (by decide)) q9a q9c (g := (mkF m 57 #[.val (.int va), .val (.int vb), .val (.int vc), .val (.int vd), .val (.int ve), .val (.int vf), .val (.ref r1), .val (.ref r2), .val (.ref r3), .val (.ref r4), .val (.ref r5), .val (.ref b6), .unset] [(.ref b6)])) rfl (by rw [hml]; rfl) (Steps.refl _) (argsL := []) (rest := []) (lenOf own_pd12 rfl) rfl (by show 2 * 0 + _ ≤ _; exact Nat.le_of_eq rfl) (hb hby at_57) (fun _ _ => ⟨rfl, rfl, (by decide : 31 + 1 ≤ _), (by decide : 66 + 2 ≤ _)⟩)
  dsimp only [Pt.U, Pt.locs, Pt.cells, Pt.slots] at X9 l9 y9 z9 st9 hQ9
  subst l9 y9 z9
  obtain ⟨r9, rfl, N9q, K9q, c9_1, c9_2, c9_3, c9_4⟩ := hQ9
  refine own_FinW.go (fun t k => st9.trans k) ?_
  have N9 := Fr.app N8 N9q
  have S_EMPTY_9 := own_staKeep S_EMPTY_8 K9q
  have E_om_9 := E_om_8.keep K9q
  have E_r1_9 := E_r1_8.keep K9q
  have E_r2_9 := E_r2_8.keep K9q
  have E_r3_9 := E_r3_8.keep K9q
  have E_r4_9 := E_r4_8.keep K9q
  have E_r5_9 := E_r5_8.keep K9q
  have E_b6_9 := c8_1.keep K9q
  have F_b6_authority_9 := c8_2.keep K9q nin0
  have F_b6_typeCode_9 := c8_3.keep K9q nin0
  have Z9 := Nat.le_trans Z8 K9q.1
  have hk9 := Nat.le_trans hk8 K9q.1
  have ne_om_r9 : om ≠ r9 := Nat.ne_of_lt (Nat.lt_of_lt_of_le E_om_8.lt c9_4)
  have ne_r1_r9 : r1 ≠ r9 := Nat.ne_of_lt (Nat.lt_of_lt_of_le E_r1_8.lt c9_4)
  have ne_r2_r9 : r2 ≠ r9 := Nat.ne_of_lt (Nat.lt_of_lt_of_le E_r2_8.lt c9_4)
  have ne_r3_r9 : r3 ≠ r9 := Nat.ne_of_lt (Nat.lt_of_lt_of_le E_r3_8.lt c9_4)
  have ne_r4_r9 : r4 ≠ r9 := Nat.ne_of_lt (Nat.lt_of_lt_of_le E_r4_8.lt c9_4)
  have ne_r5_r9 : r5 ≠ r9 := Nat.ne_of_lt (Nat.lt_of_lt_of_le E_r5_8.lt c9_4)
  have ne_b6_r9 : b6 ≠ r9 := Nat.ne_of_lt (Nat.lt_of_lt_of_le c8_3.lt c9_4)
  have g_r9 : n0 ≤ r9 := Nat.le_trans Z8 c9_4
  show own_FinW _ _ _ _ _ _ _ (T9.setTop (mkF m 60 #[.val (.int va), .val (.int vb), .val (.int vc), .val (.int vd), .val (.int ve), .val (.int vf), .val (.ref r1), .val (.ref r2), .val (.ref r3), .val (.ref r4), .val (.ref r5), .val (.ref b6), .unset] [(.ref r9)]))
  refine own_FinW.go (fun t k => XS.astore X9.here hx rfl (hb hby at_60) rfl rfl (l' := #[.val (.int va), .val (.int vb), .val (.int vc), .val (.int vd), .val (.int ve), .val (.int vf), .val (.ref r1), .val (.ref r2), .val (.ref r3), .val (.ref r4), .val (.ref r5), .val (.ref b6), .val (.ref r9)]) rfl k) ?_
  show own_FinW _ _ _ _ _ _ _ (T9.setTop (mkF m 62 #[.val (.int va), .val (.int vb), .val (.int vc), .val (.int vd), .val (.int ve), .val (.int vf), .val (.ref r1), .val (.ref r2), .val (.ref r3), .val (.ref r4), .val (.ref r5), .val (.ref b6), .val (.ref r9)] []))
  refine own_FinW.go (fun t k => XS.aload X9.here hx rfl (hb hby at_62) rfl rfl k) ?_
  show own_FinW _ _ _ _ _ _ _ (T9.setTop (mkF m 64 #[.val (.int va), .val (.int vb), .val (.int vc), .val (.int vd), .val (.int ve), .val (.int vf), .val (.ref r1), .val (.ref r2), .val (.ref r3), .val (.ref r4), .val (.ref r5), .val (.ref b6), .val (.ref r9)] [(.ref r9)]))
  obtain ⟨cq10, kq10, q10a, q10b, q10c⟩ := isOf hZ rfl c9_1
  obtain ⟨_, _, ⟨T10, L10, k10, n10⟩, -, X10, ⟨Lc10, hQ10, l10, y10, z10⟩, st10⟩ := X9.interfaceBack hx (xi := (⟨"java/util/List", "size", "()I"⟩ : MethodName)) (y := (⟨"java/util/ImmutableCollections$List12", "size", "()I"⟩ : MethodName)) hown (mvT hZ (hw _ (List.mem_of_getElem? (i := 100) rfl))) (mvT hZ (hw _ (List.mem_of_getElem? (i := 101) rfl))) (mvT hZ (hw _ (List.mem_of_getElem? (i := 102) rfl))) (mvT hZ (hw _ (List.mem_of_getElem? (i := 103) rfl))) (mvT hZ (hw _ (List.mem_of_getElem? (i := 104) rfl))) (mvT hZ (hw _ (List.mem_of_getElem? (i := 105) rfl))) (mvT hZ (hw _ (List.mem_of_getElem? (i := 106) rfl))) (mvT hZ (hw _ (List.mem_of_getElem? (i := 107) rfl))) (by decide) (backOf (W := 0) (own_rm_siz l Z a0 hw [] r9 r2 om T9.heap n0 Z9 c9_3 S_EMPTY_9 (Ne.symm ne_om_r2)) hZ (hw _ (List.mem_of_getElem? (i := 108) rfl)) (hw _ (List.mem_of_getElem? (i := 68) rfl)) (by decide) (by decide)) q10a q10b q10c (g := (mkF m 64 #[.val (.int va), .val (.int vb), .val (.int vc), .val (.int vd), .val (.int ve), .val (.int vf), .val (.ref r1), .val (.ref r2), .val (.ref r3), .val (.ref r4), .val (.ref r5), .val (.ref b6), .val (.ref r9)] [(.ref r9)])) rfl (by rw [hml]; rfl) (Steps.refl _) (argsL := []) (rest := []) (lenOf own_pd13 rfl) rfl (by show 2 * 0 + _ ≤ _; exact Nat.le_of_eq rfl) (hb hby at_64) (fun _ _ => ⟨rfl, rfl, (by decide : 32 + 0 ≤ _), (by decide : 68 + 0 ≤ _)⟩)
  dsimp only [Pt.U, Pt.locs, Pt.cells, Pt.slots] at X10 l10 y10 z10 st10 hQ10
  subst l10 y10 z10
  obtain ⟨rfl, N10q, e10⟩ := hQ10
  refine own_FinW.go (fun t k => st10.trans k) ?_
  have N10 := Fr.app N9 N10q
  show own_FinW _ _ _ _ _ _ _ (T10.setTop (mkF m 69 #[.val (.int va), .val (.int vb), .val (.int vc), .val (.int vd), .val (.int ve), .val (.int vf), .val (.ref r1), .val (.ref r2), .val (.ref r3), .val (.ref r4), .val (.ref r5), .val (.ref b6), .val (.ref r9)] [(.int (2 : Int32))]))
  refine own_FinW.go (fun t k => XS.iconst X10.here hx rfl (hb hby at_69) k) ?_
  show own_FinW _ _ _ _ _ _ _ (T10.setTop (mkF m 70 #[.val (.int va), .val (.int vb), .val (.int vc), .val (.int vd), .val (.int ve), .val (.int vf), .val (.ref r1), .val (.ref r2), .val (.ref r3), .val (.ref r4), .val (.ref r5), .val (.ref b6), .val (.ref r9)] [(.int (2 : Int32)), (.int (2 : Int32))]))
  refine own_FinW.go (fun t k => XS.icmpNo X10.here hx rfl (hb hby at_70) rfl (by decide) k) ?_
  show own_FinW _ _ _ _ _ _ _ (T10.setTop (mkF m 73 #[.val (.int va), .val (.int vb), .val (.int vc), .val (.int vd), .val (.int ve), .val (.int vf), .val (.ref r1), .val (.ref r2), .val (.ref r3), .val (.ref r4), .val (.ref r5), .val (.ref b6), .val (.ref r9)] []))
  refine own_FinW.go (fun t k => XS.aload X10.here hx rfl (hb hby at_73) rfl rfl k) ?_
  show own_FinW _ _ _ _ _ _ _ (T10.setTop (mkF m 75 #[.val (.int va), .val (.int vb), .val (.int vc), .val (.int vd), .val (.int ve), .val (.int vf), .val (.ref r1), .val (.ref r2), .val (.ref r3), .val (.ref r4), .val (.ref r5), .val (.ref b6), .val (.ref r9)] [(.ref r9)]))
  refine own_FinW.go (fun t k => XS.iconst X10.here hx rfl (hb hby at_75) k) ?_
  show own_FinW _ _ _ _ _ _ _ (T10.setTop (mkF m 76 #[.val (.int va), .val (.int vb), .val (.int vc), .val (.int vd), .val (.int ve), .val (.int vf), .val (.ref r1), .val (.ref r2), .val (.ref r3), .val (.ref r4), .val (.ref r5), .val (.ref b6), .val (.ref r9)] [(.int (0 : Int32)), (.ref r9)]))
  obtain ⟨cq11, kq11, q11a, q11b, q11c⟩ := isOf hZ e10 c9_1
  obtain ⟨_, _, ⟨T11, L11, k11, n11⟩, -, X11, ⟨Lc11, hQ11, l11, y11, z11⟩, st11⟩ := X10.interfaceBack hx (xi := (⟨"java/util/List", "get", "(I)Ljava/lang/Object;"⟩ : MethodName)) (y := (⟨"java/util/ImmutableCollections$List12", "get", "(I)Ljava/lang/Object;"⟩ : MethodName)) hown (mvT hZ (hw _ (List.mem_of_getElem? (i := 111) rfl))) (mvT hZ (hw _ (List.mem_of_getElem? (i := 112) rfl))) (mvT hZ (hw _ (List.mem_of_getElem? (i := 113) rfl))) (mvT hZ (hw _ (List.mem_of_getElem? (i := 114) rfl))) (mvT hZ (hw _ (List.mem_of_getElem? (i := 115) rfl))) (mvT hZ (hw _ (List.mem_of_getElem? (i := 116) rfl))) (mvT hZ (hw _ (List.mem_of_getElem? (i := 117) rfl))) (mvT hZ (hw _ (List.mem_of_getElem? (i := 107) rfl))) (by decide) (backOf (W := 0) (own_rm_get0 l Z a0 hw [] r9 r1 T9.heap n0 Z9 c9_2) hZ (hw _ (List.mem_of_getElem? (i := 118) rfl)) (hw _ (List.mem_of_getElem? (i := 68) rfl)) (by decide) (by decide)) q11a q11b q11c (g := (mkF m 76 #[.val (.int va), .val (.int vb), .val (.int vc), .val (.int vd), .val (.int ve), .val (.int vf), .val (.ref r1), .val (.ref r2), .val (.ref r3), .val (.ref r4), .val (.ref r5), .val (.ref b6), .val (.ref r9)] [(.int (0 : Int32)), (.ref r9)])) rfl (by rw [hml]; rfl) (Steps.refl _) (argsL := [(.int (0 : Int32))]) (rest := []) (lenOf own_pd14 rfl) rfl (by show 2 * 0 + _ ≤ _; exact Nat.le_of_eq rfl) (hb hby at_76) (fun _ _ => ⟨rfl, e10, (by decide : 32 + 0 ≤ _), (by decide : 68 + 0 ≤ _)⟩)
  dsimp only [Pt.U, Pt.locs, Pt.cells, Pt.slots] at X11 l11 y11 z11 st11 hQ11
  subst l11 y11 z11
  obtain ⟨rfl, N11q, e11⟩ := hQ11
  refine own_FinW.go (fun t k => st11.trans k) ?_
  have N11 := Fr.app N10 N11q
  show own_FinW _ _ _ _ _ _ _ (T11.setTop (mkF m 81 #[.val (.int va), .val (.int vb), .val (.int vc), .val (.int vd), .val (.int ve), .val (.int vf), .val (.ref r1), .val (.ref r2), .val (.ref r3), .val (.ref r4), .val (.ref r5), .val (.ref b6), .val (.ref r9)] [(.ref r1)]))
  obtain ⟨T12, X12, e12, st12⟩ := castY X11 hx hZ hown (hw _ (List.mem_of_getElem? (i := 4) rfl)) e11 (Ins.self E_r1_9) (g := (mkF m 81 #[.val (.int va), .val (.int vb), .val (.int vc), .val (.int vd), .val (.int ve), .val (.int vf), .val (.ref r1), .val (.ref r2), .val (.ref r3), .val (.ref r4), .val (.ref r5), .val (.ref b6), .val (.ref r9)] [(.ref r1)])) rfl rfl (hb hby at_81)
  refine own_FinW.go st12 ?_
  show own_FinW _ _ _ _ _ _ _ (T12.setTop (mkF m 84 #[.val (.int va), .val (.int vb), .val (.int vc), .val (.int vd), .val (.int ve), .val (.int vf), .val (.ref r1), .val (.ref r2), .val (.ref r3), .val (.ref r4), .val (.ref r5), .val (.ref b6), .val (.ref r9)] [(.ref r1)]))
  refine own_FinW.go (fun t k => XS.aload X12.here hx rfl (hb hby at_84) rfl rfl k) ?_
  show own_FinW _ _ _ _ _ _ _ (T12.setTop (mkF m 86 #[.val (.int va), .val (.int vb), .val (.int vc), .val (.int vd), .val (.int ve), .val (.int vf), .val (.ref r1), .val (.ref r2), .val (.ref r3), .val (.ref r4), .val (.ref r5), .val (.ref b6), .val (.ref r9)] [(.ref r1), (.ref r1)]))
  obtain ⟨cq13, kq13, q13a, q13b, q13c⟩ := isOf hZ e12 E_r1_9
  obtain ⟨_, _, ⟨T13, L13, k13, n13⟩, -, X13, ⟨Lc13, hQ13, l13, y13, z13⟩, st13⟩ := X12.virtualBack hx (y := (⟨"java/lang/String", "equals", "(Ljava/lang/Object;)Z"⟩ : MethodName)) (z := (⟨"java/lang/String", "equals", "(Ljava/lang/Object;)Z"⟩ : MethodName)) hown (mvT hZ (hw _ (List.mem_of_getElem? (i := 119) rfl))) (mvT hZ (hw _ (List.mem_of_getElem? (i := 120) rfl))) (notFace_of_selects (args := #[]) (mvT hZ (hw _ (List.mem_of_getElem? (i := 122) rfl)))) (mvT hZ (hw _ (List.mem_of_getElem? (i := 122) rfl))) (mvT hZ (hw _ (List.mem_of_getElem? (i := 121) rfl))) (by decide) (backOf (W := 0) (own_rm_eq l Z a0 hw [] r1  T9.heap n0 Z9 ) hZ (hw _ (List.mem_of_getElem? (i := 123) rfl)) (hw _ (List.mem_of_getElem? (i := 6) rfl)) (by decide) (by decide)) q13a q13c (g := (mkF m 86 #[.val (.int va), .val (.int vb), .val (.int vc), .val (.int vd), .val (.int ve), .val (.int vf), .val (.ref r1), .val (.ref r2), .val (.ref r3), .val (.ref r4), .val (.ref r5), .val (.ref b6), .val (.ref r9)] [(.ref r1), (.ref r1)])) rfl (by rw [hml]; rfl) (Steps.refl _) (argsL := [(.ref r1)]) (rest := []) (lenOf own_pd15 rfl) rfl (by show 2 * 0 + _ ≤ _; exact Nat.le_of_eq rfl) (hb hby at_86) (fun _ _ => ⟨rfl, e12, (by decide : 32 + 0 ≤ _), (by decide : 68 + 0 ≤ _)⟩)
  dsimp only [Pt.U, Pt.locs, Pt.cells, Pt.slots] at X13 l13 y13 z13 st13 hQ13
  subst l13 y13 z13
  obtain ⟨rfl, N13q, e13⟩ := hQ13
  refine own_FinW.go (fun t k => st13.trans k) ?_
  have N13 := Fr.app N11 N13q
  show own_FinW _ _ _ _ _ _ _ (T13.setTop (mkF m 89 #[.val (.int va), .val (.int vb), .val (.int vc), .val (.int vd), .val (.int ve), .val (.int vf), .val (.ref r1), .val (.ref r2), .val (.ref r3), .val (.ref r4), .val (.ref r5), .val (.ref b6), .val (.ref r9)] [(.int (1 : Int32))]))
  refine own_FinW.go (fun t k => XS.ifNo X13.here hx rfl (hb hby at_89) rfl (by decide) k) ?_
  show own_FinW _ _ _ _ _ _ _ (T13.setTop (mkF m 92 #[.val (.int va), .val (.int vb), .val (.int vc), .val (.int vd), .val (.int ve), .val (.int vf), .val (.ref r1), .val (.ref r2), .val (.ref r3), .val (.ref r4), .val (.ref r5), .val (.ref b6), .val (.ref r9)] []))
  refine own_FinW.go (fun t k => XS.aload X13.here hx rfl (hb hby at_92) rfl rfl k) ?_
  show own_FinW _ _ _ _ _ _ _ (T13.setTop (mkF m 94 #[.val (.int va), .val (.int vb), .val (.int vc), .val (.int vd), .val (.int ve), .val (.int vf), .val (.ref r1), .val (.ref r2), .val (.ref r3), .val (.ref r4), .val (.ref r5), .val (.ref b6), .val (.ref r9)] [(.ref r9)]))
  refine own_FinW.go (fun t k => XS.iconst X13.here hx rfl (hb hby at_94) k) ?_
  show own_FinW _ _ _ _ _ _ _ (T13.setTop (mkF m 95 #[.val (.int va), .val (.int vb), .val (.int vc), .val (.int vd), .val (.int ve), .val (.int vf), .val (.ref r1), .val (.ref r2), .val (.ref r3), .val (.ref r4), .val (.ref r5), .val (.ref b6), .val (.ref r9)] [(.int (1 : Int32)), (.ref r9)]))
  obtain ⟨cq14, kq14, q14a, q14b, q14c⟩ := isOf hZ e13 c9_1
  obtain ⟨_, _, ⟨T14, L14, k14, n14⟩, -, X14, ⟨Lc14, hQ14, l14, y14, z14⟩, st14⟩ := X13.interfaceBack hx (xi := (⟨"java/util/List", "get", "(I)Ljava/lang/Object;"⟩ : MethodName)) (y := (⟨"java/util/ImmutableCollections$List12", "get", "(I)Ljava/lang/Object;"⟩ : MethodName)) hown (mvT hZ (hw _ (List.mem_of_getElem? (i := 111) rfl))) (mvT hZ (hw _ (List.mem_of_getElem? (i := 112) rfl))) (mvT hZ (hw _ (List.mem_of_getElem? (i := 113) rfl))) (mvT hZ (hw _ (List.mem_of_getElem? (i := 114) rfl))) (mvT hZ (hw _ (List.mem_of_getElem? (i := 115) rfl))) (mvT hZ (hw _ (List.mem_of_getElem? (i := 116) rfl))) (mvT hZ (hw _ (List.mem_of_getElem? (i := 117) rfl))) (mvT hZ (hw _ (List.mem_of_getElem? (i := 107) rfl))) (by decide) (backOf (W := 0) (own_rm_get1 l Z a0 hw [] r9 r2 om T9.heap n0 Z9 c9_3 S_EMPTY_9 (Ne.symm ne_om_r2)) hZ (hw _ (List.mem_of_getElem? (i := 118) rfl)) (hw _ (List.mem_of_getElem? (i := 68) rfl)) (by decide) (by decide)) q14a q14b q14c (g := (mkF m 95 #[.val (.int va), .val (.int vb), .val (.int vc), .val (.int vd), .val (.int ve), .val (.int vf), .val (.ref r1), .val (.ref r2), .val (.ref r3), .val (.ref r4), .val (.ref r5), .val (.ref b6), .val (.ref r9)] [(.int (1 : Int32)), (.ref r9)])) rfl (by rw [hml]; rfl) (Steps.refl _) (argsL := [(.int (1 : Int32))]) (rest := []) (lenOf own_pd14 rfl) rfl (by show 2 * 0 + _ ≤ _; exact Nat.le_of_eq rfl) (hb hby at_95) (fun _ _ => ⟨rfl, e13, (by decide : 32 + 0 ≤ _), (by decide : 68 + 0 ≤ _)⟩)
  dsimp only [Pt.U, Pt.locs, Pt.cells, Pt.slots] at X14 l14 y14 z14 st14 hQ14
  subst l14 y14 z14
  obtain ⟨rfl, N14q, e14⟩ := hQ14
  refine own_FinW.go (fun t k => st14.trans k) ?_
  have N14 := Fr.app N13 N14q
  show own_FinW _ _ _ _ _ _ _ (T14.setTop (mkF m 100 #[.val (.int va), .val (.int vb), .val (.int vc), .val (.int vd), .val (.int ve), .val (.int vf), .val (.ref r1), .val (.ref r2), .val (.ref r3), .val (.ref r4), .val (.ref r5), .val (.ref b6), .val (.ref r9)] [(.ref r2)]))
  obtain ⟨T15, X15, e15, st15⟩ := castY X14 hx hZ hown (hw _ (List.mem_of_getElem? (i := 4) rfl)) e14 (Ins.self E_r2_9) (g := (mkF m 100 #[.val (.int va), .val (.int vb), .val (.int vc), .val (.int vd), .val (.int ve), .val (.int vf), .val (.ref r1), .val (.ref r2), .val (.ref r3), .val (.ref r4), .val (.ref r5), .val (.ref b6), .val (.ref r9)] [(.ref r2)])) rfl rfl (hb hby at_100)
  refine own_FinW.go st15 ?_
  show own_FinW _ _ _ _ _ _ _ (T15.setTop (mkF m 103 #[.val (.int va), .val (.int vb), .val (.int vc), .val (.int vd), .val (.int ve), .val (.int vf), .val (.ref r1), .val (.ref r2), .val (.ref r3), .val (.ref r4), .val (.ref r5), .val (.ref b6), .val (.ref r9)] [(.ref r2)]))
  refine own_FinW.go (fun t k => XS.aload X15.here hx rfl (hb hby at_103) rfl rfl k) ?_
  show own_FinW _ _ _ _ _ _ _ (T15.setTop (mkF m 105 #[.val (.int va), .val (.int vb), .val (.int vc), .val (.int vd), .val (.int ve), .val (.int vf), .val (.ref r1), .val (.ref r2), .val (.ref r3), .val (.ref r4), .val (.ref r5), .val (.ref b6), .val (.ref r9)] [(.ref r2), (.ref r2)]))
  obtain ⟨cq16, kq16, q16a, q16b, q16c⟩ := isOf hZ e15 E_r2_9
  obtain ⟨_, _, ⟨T16, L16, k16, n16⟩, -, X16, ⟨Lc16, hQ16, l16, y16, z16⟩, st16⟩ := X15.virtualBack hx (y := (⟨"java/lang/String", "equals", "(Ljava/lang/Object;)Z"⟩ : MethodName)) (z := (⟨"java/lang/String", "equals", "(Ljava/lang/Object;)Z"⟩ : MethodName)) hown (mvT hZ (hw _ (List.mem_of_getElem? (i := 119) rfl))) (mvT hZ (hw _ (List.mem_of_getElem? (i := 120) rfl))) (notFace_of_selects (args := #[]) (mvT hZ (hw _ (List.mem_of_getElem? (i := 122) rfl)))) (mvT hZ (hw _ (List.mem_of_getElem? (i := 122) rfl))) (mvT hZ (hw _ (List.mem_of_getElem? (i := 121) rfl))) (by decide) (backOf (W := 0) (own_rm_eq l Z a0 hw [] r2  T9.heap n0 Z9 ) hZ (hw _ (List.mem_of_getElem? (i := 123) rfl)) (hw _ (List.mem_of_getElem? (i := 6) rfl)) (by decide) (by decide)) q16a q16c (g := (mkF m 105 #[.val (.int va), .val (.int vb), .val (.int vc), .val (.int vd), .val (.int ve), .val (.int vf), .val (.ref r1), .val (.ref r2), .val (.ref r3), .val (.ref r4), .val (.ref r5), .val (.ref b6), .val (.ref r9)] [(.ref r2), (.ref r2)])) rfl (by rw [hml]; rfl) (Steps.refl _) (argsL := [(.ref r2)]) (rest := []) (lenOf own_pd15 rfl) rfl (by show 2 * 0 + _ ≤ _; exact Nat.le_of_eq rfl) (hb hby at_105) (fun _ _ => ⟨rfl, e15, (by decide : 32 + 0 ≤ _), (by decide : 68 + 0 ≤ _)⟩)
  dsimp only [Pt.U, Pt.locs, Pt.cells, Pt.slots] at X16 l16 y16 z16 st16 hQ16
  subst l16 y16 z16
  obtain ⟨rfl, N16q, e16⟩ := hQ16
  refine own_FinW.go (fun t k => st16.trans k) ?_
  have N16 := Fr.app N14 N16q
  show own_FinW _ _ _ _ _ _ _ (T16.setTop (mkF m 108 #[.val (.int va), .val (.int vb), .val (.int vc), .val (.int vd), .val (.int ve), .val (.int vf), .val (.ref r1), .val (.ref r2), .val (.ref r3), .val (.ref r4), .val (.ref r5), .val (.ref b6), .val (.ref r9)] [(.int (1 : Int32))]))
  refine own_FinW.go (fun t k => XS.ifNo X16.here hx rfl (hb hby at_108) rfl (by decide) k) ?_
  show own_FinW _ _ _ _ _ _ _ (T16.setTop (mkF m 111 #[.val (.int va), .val (.int vb), .val (.int vc), .val (.int vd), .val (.int ve), .val (.int vf), .val (.ref r1), .val (.ref r2), .val (.ref r3), .val (.ref r4), .val (.ref r5), .val (.ref b6), .val (.ref r9)] []))
  refine own_FinW.go (fun t k => XS.iconst X16.here hx rfl (hb hby at_111) k) ?_
  show own_FinW _ _ _ _ _ _ _ (T16.setTop (mkF m 112 #[.val (.int va), .val (.int vb), .val (.int vc), .val (.int vd), .val (.int ve), .val (.int vf), .val (.ref r1), .val (.ref r2), .val (.ref r3), .val (.ref r4), .val (.ref r5), .val (.ref b6), .val (.ref r9)] [(.int (1 : Int32))]))
  refine own_FinW.go (fun t k => XS.goto X16.here hx rfl (pc0 := 112) (pc' := 116) rfl (hb hby at_112) (by decide) (by decide) k) ?_
  show own_FinW _ _ _ _ _ _ _ (T16.setTop (mkF m 116 #[.val (.int va), .val (.int vb), .val (.int vc), .val (.int vd), .val (.int ve), .val (.int vf), .val (.ref r1), .val (.ref r2), .val (.ref r3), .val (.ref r4), .val (.ref r5), .val (.ref b6), .val (.ref r9)] [(.int (1 : Int32))]))
  refine own_retNW (s := s) (vm₁ := T5.vm) X16 hx hS (by rw [e16]; exact hk9) (t := .boolean) (w := (1 : Int32)) Bd.returns (by simp) (hb hby at_116) Bd.notSynchronized rfl (by decide) (by decide) ?_
  rw [e16]
  exact ⟨rfl, N16⟩
set_option maxRecDepth 65536 in
set_option maxHeartbeats 40000000 in
theorem comes_1 {Post : Tables → Env → Array Value → State → Outcome → State → Prop} (hpost : ∀ tb e args s v u, (limb_1_1.after args s (.returned v) u = true ∧ limb_1_2.after args s (.returned v) u = true ∧ True) → FramedW s (.returned v) u (Jvm.fieldLocs frame_1_writes args s ++ Jvm.arrayLocs frame_1_arrays args s ++ Jvm.staticLocs frame_1_statics s) 48 1216 → Post tb e args s (.returned v) u) :
    ArmFor flags0 classFile x code maxLocals ret World_1 tables_1 room_1 Calls_1 rest_1 Pre_1 Post := by
  intro l hfl _ _ p e ha hc hk s m args below hf hA hF happ hP
  obtain ⟨hcalls, hrest, hpre⟩ := hP
  obtain ⟨-, -, -, hnamed, -, -, -, hat⟩ := (Spec.applies_iff hf).mp happ
  obtain ⟨hg, hn⟩ := and_e (Cond.before_iff.mp (show (Jvm.Cond.and given_1 narrow_1).before args s = true from hpre))
  obtain ⟨hg0, hr0⟩ := and_e hg
  obtain ⟨hg1, hr1⟩ := and_e hr0
  obtain ⟨hg2, hr2⟩ := and_e hr1
  obtain ⟨hg3, hr3⟩ := and_e hr2
  obtain ⟨hg4, hr4⟩ := and_e hr3
  obtain ⟨hg5, hr5⟩ := and_e hr4
  obtain ⟨w0, w1, w2, w3, w4, w5, rfl⟩ : ∃ w0 w1 w2 w3 w4 w5 : Value, args = #[w0, w1, w2, w3, w4, w5] := by
    have hs : args.size = 6 := by simpa [Cond.value, given_1] using hg0
    obtain ⟨L⟩ := args
    match L, hs with
    | [w0, w1, w2, w3, w4, w5], _ => exact ⟨w0, w1, w2, w3, w4, w5, rfl⟩
  have hw := fun d (hd : d ∈ tables_1) => atoms_spec (ws := Jvm.Cond.code x code maxLocals ret :: tables_1) hat d (List.mem_cons_of_mem _ hd)
  have hfit : Fit s := fun {y c} hc i hi => by
    obtain ⟨ha, rfl⟩ := Array.getElem?_eq_some_iff.mp hc
    have q := List.all_eq_true.mp ((Array.all_eq_true_iff_forall_mem.mp hF) _ (Array.getElem_mem ha)) i (List.mem_range.mpr hi)
    simpa [Array.getElem?_eq_getElem hi] using q
  obtain ⟨i0, ei0⟩ := is_v hg1
  obtain rfl : w0 = (.int i0) := Option.some.inj ei0
  obtain ⟨i1, ei1⟩ := is_v hg2
  obtain rfl : w1 = (.int i1) := Option.some.inj ei1
  obtain ⟨i2, ei2⟩ := is_v hg3
  obtain rfl : w2 = (.int i2) := Option.some.inj ei2
  obtain ⟨i3, ei3⟩ := is_v hg4
  obtain rfl : w3 = (.int i3) := Option.some.inj ei3
  obtain ⟨i4, ei4⟩ := is_v hg5
  obtain rfl : w4 = (.int i4) := Option.some.inj ei4
  obtain ⟨i5, ei5⟩ := is_v hr5
  obtain rfl : w5 = (.int i5) := Option.some.inj ei5
  obtain ⟨hn0, hm0⟩ := and_e hn
  obtain ⟨hn1, hm1⟩ := and_e hm0
  obtain ⟨oNATIONAL, evNATIONAL⟩ := exa_v hn0
  have S_NATIONAL := Sta.start evNATIONAL (Or.inr ⟨(hw _ (List.mem_of_getElem? (i := 34) rfl)), (hw _ (List.mem_of_getElem? (i := 35) rfl))⟩)
  obtain ⟨oTEAM, evTEAM⟩ := exa_v hn1
  have S_TEAM := Sta.start evTEAM (Or.inr ⟨(hw _ (List.mem_of_getElem? (i := 34) rfl)), (hw _ (List.mem_of_getElem? (i := 125) rfl))⟩)
  obtain ⟨oORGANISATION, evORGANISATION⟩ := exa_v hm1
  have S_ORGANISATION := Sta.start evORGANISATION (Or.inr ⟨(hw _ (List.mem_of_getElem? (i := 34) rfl)), (hw _ (List.mem_of_getElem? (i := 138) rfl))⟩)
  obtain ⟨hsets, hown0⟩ := atoms_of _ (rest_1_c_eq ▸ (show rest_1_c.before _ s = true from hrest))
  have hset := fun (i : Nat) (c : Jvm.Cond) (h : jdkStatics_1[i]? = some c) => hsets c (List.mem_of_getElem? h)
  obtain ⟨vcs, evc⟩ := is_v (Cond.before_iff.mp (hset 10 _ rfl))
  have S_CS := Sta.start evc (Or.inl (hset 9 _ rfl))
  have hcs : ¬ vcs = 0 := fun q => by
    have h2 := not_v (Cond.before_iff.mp (hset 11 _ rfl))
    exact gotF (Cond.eq_ints evc (Term.int_eval (0 : Int32))) h2 q
  obtain ⟨om, evm⟩ := exa_v (Cond.before_iff.mp (hset 2 _ rfl))
  have E_om := Exa.start evm (Cond.before_iff.mp (hset 2 _ rfl))
  have S_EM := Sta.start evm (Or.inl (hset 1 _ rfl))
  have hch : ∀ p ∈ own_EL, Jvm.Lit.constHeld s p.1 p.2 := fun p hp => hcalls.1 p hp
  obtain ⟨n, o, h1, h2, h3, _, L, rfl, ⟨rfl, N⟩, hq⟩ := own_rm_law l s _ hw tables_1 i0 i1 i2 i3 i4 i5 vcs oNATIONAL oORGANISATION oTEAM om s.heap s.heap.size (Nat.le_refl _) S_CS hcs S_NATIONAL S_ORGANISATION S_TEAM S_EM E_om hch (hset 11 _ rfl) p e ha hc hk s m _ below hf ((Spec.applies_iff_loose hf).mp happ).1 ⟨rfl, State.Warmed39.refl s, rfl, rfl, rfl, rfl⟩ trivial
  refine ⟨n, _, h1, h2, h3, hpost _ _ _ _ _ _ ⟨Cond.after_iff.mpr rfl, Cond.after_iff.mpr (eq_i res_at (Term.int_eval (1)) rfl), trivial⟩ ⟨hq.1, hq.2.1, hq.2.2.1, (hq.2.2.2.sift fun y hy => Or.inr (N y hy)).mono (by decide) (by decide)⟩⟩
theorem main_1_1 : Claimed_1_1 := comes_1 fun _ _ _ _ _ _ h hF => ⟨h.1, hF⟩
theorem main_1_2 : Claimed_1_2 := comes_1 fun _ _ _ _ _ _ h hF => ⟨h.2.1, hF⟩
end Jvm.Pilot.@@N@@
namespace Jvm.Pilot.@@N@@
open Jvm Jvm.ClassFile Sem Op Lib Jvm.Free Jvm.Stand Jvm.Pilot.@@N@@.Jvm.D
/-! MADE BY PROGRAM (witnessworld.py) out of the Statement's table words and the real class files: 35 classes; the members and pool entries that the words name. The judged class is class 1, her method 3. -/
namespace start1
open Jvm.ClassFile
def u (s : String) : CpInfo := .utf8 (stringToUtf16 s)
/-- a pool by its gaps: so many unusable entries, then the entry; so many at the end -/
def gap : Nat → List CpInfo → List CpInfo
  | 0, r => r
  | n + 1, r => .unusable :: gap n r
def poolList (es : List (Nat × CpInfo)) (last : Nat) : List CpInfo := es.foldr (fun e r => gap e.1 (e.2 :: r)) (gap last [])
def pool (es : List (Nat × CpInfo)) (last : Nat) : Array CpInfo := ⟨poolList es last⟩
def fileOf (pool : Array CpInfo) (this : Nat) (attrs : Array Attribute := #[]) (ms : Array MethodInfo := #[]) (fl : Nat := 33) (sup : Nat := 0) (ifs : Array Nat := #[]) (fds : Array FieldInfo := #[]) : ClassFile where
  minorVersion := 0
  majorVersion := 65
  constantPool := pool
  accessFlags := fl
  thisClass := this
  superClass := sup
  interfaces := ifs
  fields := fds
  methods := ms
  attributes := attrs
def plain (name : String) (sup : Option ClassId) : Class where
  name := name
  kind := .ordinary
  loader := none
  accessFlags := 33
  super := sup
  interfaces := #[]
  cf := none
  fields := #[]
  methods := #[]
  instanceTypes := #[]
  staticTypes := #[]
  resolved := #[]
  callSites := []
  init := .initialized
  statics := none
  mirror := none

def pool0 : Array CpInfo := pool [(5, u "<init>"), (0, u "()V"), (1, .class_ 10), (1, u "java/lang/Object")] 113

def k0c0 : Code := { maxStack := 0, maxLocals := 1, code := object_method_1_code, exceptionTable := #[], attributes := #[] }
def k0m0 : Method := { name := "<init>", desc := "()V", sig := { parameters := [], returnType := none }, accessFlags := 1, code := some k0c0 }
/-- java/lang/Object -/
def k0 : Class := { plain "java/lang/Object" none with
  accessFlags := 33
  interfaces := #[]
  cf := some (fileOf pool0 8 #[] #[{ accessFlags := 1, nameIndex := 5, descriptorIndex := 6, attributes := #[] }] 33 0 #[] #[])
  fields := #[]
  methods := #[k0m0]
  instanceTypes := #[]
  staticTypes := #[]
  resolved := Array.replicate 124 none
  statics := none }

def pool1 : Array CpInfo := pool [(2, .class_ 4), (1, u "java/lang/Object"), (0, u "<init>"), (0, u "()V"), (0, .class_ 8), (0, u "java/lang/String"), (0, .methodref 7 10), (0, .nameAndType 5 11), (0, u "([C)V"), (0, .integer 2147483647), (0, .fieldref 14 15), (0, .class_ 16), (0, .nameAndType 17 18), (0, u "com/example/wardkeeper/wardkeeper/patient/Identifier$Level"), (0, u "NATIONAL"), (0, u "Lcom/example/wardkeeper/wardkeeper/patient/Identifier$Level;"), (0, .fieldref 14 20), (0, .nameAndType 21 18), (0, u "ORGANISATION"), (0, .fieldref 14 23), (0, .nameAndType 24 18), (0, u "TEAM"), (0, .methodref 26 27), (0, .class_ 28), (0, .nameAndType 29 30), (0, u "com/example/wardkeeper/wardkeeper/patient/IdentifierTypeKeyPinLaw"), (0, u "str"), (0, u "(I)Ljava/lang/String;"), (0, .class_ 32), (0, u "com/example/wardkeeper/wardkeeper/patient/Identifier"), (0, .methodref 26 34), (0, .nameAndType 35 36), (0, u "level"), (0, u "(I)Lcom/example/wardkeeper/wardkeeper/patient/Identifier$Level;"), (0, .methodref 31 38), (0, .nameAndType 5 39), (0, u "(Lcom/example/wardkeeper/wardkeeper/patient/Identifier$Level;Ljava/lang/String;Ljava/lang/String;Ljava/lang/String;Ljava/lang/String;Ljava/lang/String;)V"), (0, .methodref 31 41), (0, .nameAndType 42 43), (0, u "typeKey"), (0, u "()Ljava/util/List;"), (0, .interfaceMethodref 45 46), (0, .class_ 47), (0, .nameAndType 48 49), (0, u "java/util/List"), (0, u "size"), (0, u "()I"), (0, .interfaceMethodref 45 51), (0, .nameAndType 52 53), (0, u "get"), (0, u "(I)Ljava/lang/Object;"), (0, .methodref 7 55), (0, .nameAndType 56 57), (0, u "equals"), (0, u "(Ljava/lang/Object;)Z"), (3, u "law"), (0, u "(IIIIII)Z")] 4

def k1m0 : Method := { name := "<init>", desc := "()V", sig := { parameters := [], returnType := none }, accessFlags := 2, code := none }
def k1c1 : Code := { maxStack := 6, maxLocals := 4, code := method_2_code, exceptionTable := #[], attributes := #[] }
def k1m1 : Method := { name := "str", desc := "(I)Ljava/lang/String;", sig := { parameters := [.int], returnType := some (.object "java/lang/String") }, accessFlags := 10, code := some k1c1 }
def k1c2 : Code := { maxStack := 2, maxLocals := 2, code := method_3_code, exceptionTable := #[], attributes := #[] }
def k1m2 : Method := { name := "level", desc := "(I)Lcom/example/wardkeeper/wardkeeper/patient/Identifier$Level;", sig := { parameters := [.int], returnType := some (.object "com/example/wardkeeper/wardkeeper/patient/Identifier$Level") }, accessFlags := 10, code := some k1c2 }
def k1c3 : Code := { maxStack := 8, maxLocals := 13, code := code, exceptionTable := #[], attributes := #[] }
def k1m3 : Method := { name := "law", desc := "(IIIIII)Z", sig := { parameters := [.int, .int, .int, .int, .int, .int], returnType := some .boolean }, accessFlags := 9, code := some k1c3 }
/-- com/example/wardkeeper/wardkeeper/patient/IdentifierTypeKeyPinLaw -/
def k1 : Class := { plain "com/example/wardkeeper/wardkeeper/patient/IdentifierTypeKeyPinLaw" (some 0) with
  accessFlags := 49
  interfaces := #[]
  cf := some (fileOf pool1 26 #[] #[{ accessFlags := 2, nameIndex := 5, descriptorIndex := 6, attributes := #[] }, { accessFlags := 10, nameIndex := 29, descriptorIndex := 30, attributes := #[] }, { accessFlags := 10, nameIndex := 35, descriptorIndex := 36, attributes := #[] }, { accessFlags := 9, nameIndex := 61, descriptorIndex := 62, attributes := #[] }] 49 2 #[] #[])
  fields := #[]
  methods := #[k1m0, k1m1, k1m2, k1m3]
  instanceTypes := #[]
  staticTypes := #[]
  resolved := Array.replicate 67 none
  statics := none }

def pool2 : Array CpInfo := pool [(1, .class_ 2), (0, u "java/io/Serializable"), (0, .class_ 4), (0, u "java/lang/Object")] 2

/-- java/io/Serializable -/
def k2 : Class := { plain "java/io/Serializable" (some 0) with
  accessFlags := 1537
  interfaces := #[]
  cf := some (fileOf pool2 1 #[] #[] 1537 3 #[] #[])
  fields := #[]
  methods := #[]
  instanceTypes := #[]
  staticTypes := #[]
  resolved := Array.replicate 7 none
  statics := none }

def pool3 : Array CpInfo := pool [(1, .class_ 2), (0, u "java/lang/Comparable"), (0, .class_ 4), (0, u "java/lang/Object")] 7

/-- java/lang/Comparable -/
def k3 : Class := { plain "java/lang/Comparable" (some 0) with
  accessFlags := 1537
  interfaces := #[]
  cf := some (fileOf pool3 1 #[] #[] 1537 3 #[] #[])
  fields := #[]
  methods := #[]
  instanceTypes := #[]
  staticTypes := #[]
  resolved := Array.replicate 12 none
  statics := none }

def pool4 : Array CpInfo := pool [(2, .class_ 4), (1, u "java/lang/CharSequence"), (42, .class_ 48), (0, u "java/lang/CharSequence$1CodePointIterator"), (10, .class_ 60), (0, u "java/lang/CharSequence$1CharIterator"), (5, .class_ 67), (0, u "java/lang/Object")] 63

/-- java/lang/CharSequence -/
def k4 : Class := { plain "java/lang/CharSequence" (some 0) with
  accessFlags := 1537
  interfaces := #[]
  cf := some (fileOf pool4 2 #[.nestMembers #[47, 59]] #[] 1537 66 #[] #[])
  fields := #[]
  methods := #[]
  instanceTypes := #[]
  staticTypes := #[]
  resolved := Array.replicate 131 none
  statics := none }

def pool5 : Array CpInfo := pool [(1, .class_ 2), (0, u "java/lang/constant/Constable"), (0, .class_ 4), (0, u "java/lang/Object")] 6

/-- java/lang/constant/Constable -/
def k5 : Class := { plain "java/lang/constant/Constable" (some 0) with
  accessFlags := 1537
  interfaces := #[]
  cf := some (fileOf pool5 1 #[] #[] 1537 3 #[] #[])
  fields := #[]
  methods := #[]
  instanceTypes := #[]
  staticTypes := #[]
  resolved := Array.replicate 11 none
  statics := none }

def pool6 : Array CpInfo := pool [(1, .class_ 2), (0, u "java/lang/constant/ConstantDesc"), (0, .class_ 4), (0, u "java/lang/Object")] 32

/-- java/lang/constant/ConstantDesc -/
def k6 : Class := { plain "java/lang/constant/ConstantDesc" (some 0) with
  accessFlags := 1537
  interfaces := #[]
  cf := some (fileOf pool6 1 #[] #[] 1537 3 #[] #[])
  fields := #[]
  methods := #[]
  instanceTypes := #[]
  staticTypes := #[]
  resolved := Array.replicate 37 none
  statics := none }

def pool7 : Array CpInfo := pool [(1, .methodref 2 3), (0, .class_ 4), (0, .nameAndType 5 6), (0, u "java/lang/Object"), (0, u "<init>"), (0, u "()V"), (0, .string 8), (0, u ""), (0, .fieldref 10 11), (0, .class_ 12), (0, .nameAndType 13 14), (0, u "java/lang/String"), (0, u "value"), (0, u "[B"), (0, .fieldref 10 16), (0, .nameAndType 17 18), (0, u "coder"), (0, u "B"), (2, u "hash"), (0, u "I"), (2, u "hashIsZero"), (0, u "Z"), (0, .methodref 10 28), (0, .nameAndType 5 29), (0, u "([CIILjava/lang/Void;)V"), (8, .fieldref 10 39), (0, .nameAndType 40 26), (0, u "COMPACT_STRINGS"), (1, .class_ 44), (1, u "java/lang/StringUTF16"), (0, u "compress"), (1, .methodref 42 48), (0, .nameAndType 49 50), (0, u "coderFromArrayLen"), (0, u "([BI)B"), (126, .methodref 42 178), (0, .nameAndType 45 179), (0, u "([CII)[B"), (363, u "equals"), (29, u "(Ljava/lang/Object;)Z"), (1, .class_ 576), (0, u "java/lang/CharSequence"), (22, u "CASE_INSENSITIVE_ORDER"), (0, u "Ljava/util/Comparator;"), (409, u "([C)V"), (90, u "serialPersistentFields"), (0, u "[Ljava/io/ObjectStreamField;"), (0, .class_ 1104), (0, u "java/lang/String$CaseInsensitiveComparator"), (1, .class_ 1107), (0, u "java/io/Serializable"), (0, .class_ 1109), (0, u "java/lang/Comparable"), (0, .class_ 1111), (0, u "java/lang/constant/Constable"), (0, .class_ 1113), (0, u "java/lang/constant/ConstantDesc"), (2, u "serialVersionUID"), (0, u "J"), (3, u "REPL"), (0, u "C"), (2, u "LATIN1"), (1, u "UTF16")] 323

def k7m0 : Method := { name := "<init>", desc := "()V", sig := { parameters := [], returnType := none }, accessFlags := 1, code := none }
def k7c1 : Code := { maxStack := 5, maxLocals := 2, code := jdk_42_method_3_code, exceptionTable := #[], attributes := #[] }
def k7m1 : Method := { name := "<init>", desc := "([C)V", sig := { parameters := [(.array .char)], returnType := none }, accessFlags := 1, code := some k7c1 }
def k7c2 : Code := { maxStack := 2, maxLocals := 3, code := jdk_42_method_66_code, exceptionTable := #[], attributes := #[] }
def k7m2 : Method := { name := "equals", desc := "(Ljava/lang/Object;)Z", sig := { parameters := [(.object "java/lang/Object")], returnType := some .boolean }, accessFlags := 1, code := some k7c2 }
def k7c3 : Code := { maxStack := 4, maxLocals := 6, code := jdk_42_method_149_code, exceptionTable := #[], attributes := #[] }
def k7m3 : Method := { name := "<init>", desc := "([CIILjava/lang/Void;)V", sig := { parameters := [(.array .char), .int, .int, (.object "java/lang/Void")], returnType := none }, accessFlags := 2, code := some k7c3 }
/-- java/lang/String -/
def k7 : Class := { plain "java/lang/String" (some 0) with
  accessFlags := 49
  interfaces := #[2, 3, 4, 5, 6]
  cf := some (fileOf pool7 10 #[.nestMembers #[1103]] #[{ accessFlags := 1, nameIndex := 5, descriptorIndex := 6, attributes := #[] }, { accessFlags := 1, nameIndex := 5, descriptorIndex := 1010, attributes := #[] }, { accessFlags := 1, nameIndex := 543, descriptorIndex := 573, attributes := #[] }, { accessFlags := 2, nameIndex := 5, descriptorIndex := 29, attributes := #[] }] 49 2 #[1106, 1108, 575, 1110, 1112] #[{ accessFlags := 18, nameIndex := 13, descriptorIndex := 14, attributes := #[] }, { accessFlags := 18, nameIndex := 17, descriptorIndex := 18, attributes := #[] }, { accessFlags := 2, nameIndex := 21, descriptorIndex := 22, attributes := #[] }, { accessFlags := 2, nameIndex := 25, descriptorIndex := 26, attributes := #[] }, { accessFlags := 26, nameIndex := 1116, descriptorIndex := 1117, attributes := #[] }, { accessFlags := 24, nameIndex := 40, descriptorIndex := 26, attributes := #[] }, { accessFlags := 26, nameIndex := 1101, descriptorIndex := 1102, attributes := #[] }, { accessFlags := 26, nameIndex := 1121, descriptorIndex := 1122, attributes := #[] }, { accessFlags := 25, nameIndex := 599, descriptorIndex := 600, attributes := #[] }, { accessFlags := 24, nameIndex := 1125, descriptorIndex := 18, attributes := #[] }, { accessFlags := 24, nameIndex := 1127, descriptorIndex := 18, attributes := #[] }])
  fields := #[{ name := "value", type := (.array .byte), accessFlags := 18, slot := 0, constantValue := 0 }, { name := "coder", type := .byte, accessFlags := 18, slot := 1, constantValue := 0 }, { name := "hash", type := .int, accessFlags := 2, slot := 2, constantValue := 0 }, { name := "hashIsZero", type := .boolean, accessFlags := 2, slot := 3, constantValue := 0 }, { name := "serialVersionUID", type := .long, accessFlags := 26, slot := 0, constantValue := 0 }, { name := "COMPACT_STRINGS", type := .boolean, accessFlags := 24, slot := 1, constantValue := 0 }, { name := "serialPersistentFields", type := (.array (.object "java/io/ObjectStreamField")), accessFlags := 26, slot := 2, constantValue := 0 }, { name := "REPL", type := .char, accessFlags := 26, slot := 3, constantValue := 0 }, { name := "CASE_INSENSITIVE_ORDER", type := (.object "java/util/Comparator"), accessFlags := 25, slot := 4, constantValue := 0 }, { name := "LATIN1", type := .byte, accessFlags := 24, slot := 5, constantValue := 0 }, { name := "UTF16", type := .byte, accessFlags := 24, slot := 6, constantValue := 0 }]
  methods := #[k7m0, k7m1, k7m2, k7m3]
  instanceTypes := #[(.array .byte), .byte, .int, .boolean]
  staticTypes := #[.long, .boolean, (.array (.object "java/io/ObjectStreamField")), .char, (.object "java/util/Comparator"), .byte, .byte]
  resolved := Array.replicate 1451 none
  statics := some 0 }

def pool8 : Array CpInfo := pool [(1, .methodref 2 3), (0, .class_ 4), (0, .nameAndType 5 6), (0, u "java/lang/Object"), (0, u "<init>"), (0, u "()V"), (0, .class_ 8), (0, u "java/lang/Record")] 13

def k8c0 : Code := { maxStack := 1, maxLocals := 1, code := jdk_30_method_1_code, exceptionTable := #[], attributes := #[] }
def k8m0 : Method := { name := "<init>", desc := "()V", sig := { parameters := [], returnType := none }, accessFlags := 4, code := some k8c0 }
/-- java/lang/Record -/
def k8 : Class := { plain "java/lang/Record" (some 0) with
  accessFlags := 1057
  interfaces := #[]
  cf := some (fileOf pool8 7 #[] #[{ accessFlags := 4, nameIndex := 5, descriptorIndex := 6, attributes := #[] }] 1057 2 #[] #[])
  fields := #[]
  methods := #[k8m0]
  instanceTypes := #[]
  staticTypes := #[]
  resolved := Array.replicate 22 none
  statics := none }

def pool9 : Array CpInfo := pool [(1, .methodref 2 3), (0, .class_ 4), (0, .nameAndType 5 6), (0, u "java/lang/Record"), (0, u "<init>"), (0, u "()V"), (0, .fieldref 8 9), (0, .class_ 10), (0, .nameAndType 11 12), (0, u "com/example/wardkeeper/wardkeeper/patient/Identifier"), (0, u "level"), (0, u "Lcom/example/wardkeeper/wardkeeper/patient/Identifier$Level;"), (0, .fieldref 8 14), (0, .nameAndType 15 16), (0, u "authority"), (0, u "Ljava/lang/String;"), (0, .fieldref 8 18), (0, .nameAndType 19 16), (0, u "typeCode"), (0, .fieldref 8 21), (0, .nameAndType 22 16), (0, u "value"), (0, .fieldref 8 24), (0, .nameAndType 25 16), (0, u "status"), (0, .fieldref 8 27), (0, .nameAndType 28 16), (0, u "organisation"), (1, .class_ 32), (1, u "java/util/List"), (0, u "of"), (1, .interfaceMethodref 30 36), (0, .nameAndType 33 37), (0, u "(Ljava/lang/Object;Ljava/lang/Object;)Ljava/util/List;"), (12, u "(Lcom/example/wardkeeper/wardkeeper/patient/Identifier$Level;Ljava/lang/String;Ljava/lang/String;Ljava/lang/String;Ljava/lang/String;Ljava/lang/String;)V"), (4, u "()Ljava/util/List;"), (2, u "typeKey"), (7, .class_ 67), (0, u "com/example/wardkeeper/wardkeeper/patient/Identifier$Level")] 24

def k9c0 : Code := { maxStack := 2, maxLocals := 7, code := prog_49_method_1_code, exceptionTable := #[], attributes := #[] }
def k9m0 : Method := { name := "<init>", desc := "(Lcom/example/wardkeeper/wardkeeper/patient/Identifier$Level;Ljava/lang/String;Ljava/lang/String;Ljava/lang/String;Ljava/lang/String;Ljava/lang/String;)V", sig := { parameters := [(.object "com/example/wardkeeper/wardkeeper/patient/Identifier$Level"), (.object "java/lang/String"), (.object "java/lang/String"), (.object "java/lang/String"), (.object "java/lang/String"), (.object "java/lang/String")], returnType := none }, accessFlags := 1, code := some k9c0 }
def k9c1 : Code := { maxStack := 2, maxLocals := 1, code := prog_49_method_3_code, exceptionTable := #[], attributes := #[] }
def k9m1 : Method := { name := "typeKey", desc := "()Ljava/util/List;", sig := { parameters := [], returnType := some (.object "java/util/List") }, accessFlags := 1, code := some k9c1 }
/-- com/example/wardkeeper/wardkeeper/patient/Identifier -/
def k9 : Class := { plain "com/example/wardkeeper/wardkeeper/patient/Identifier" (some 8) with
  accessFlags := 49
  interfaces := #[]
  cf := some (fileOf pool9 8 #[.nestMembers #[66]] #[{ accessFlags := 1, nameIndex := 5, descriptorIndex := 50, attributes := #[] }, { accessFlags := 1, nameIndex := 58, descriptorIndex := 55, attributes := #[] }] 49 2 #[] #[{ accessFlags := 18, nameIndex := 11, descriptorIndex := 12, attributes := #[] }, { accessFlags := 18, nameIndex := 15, descriptorIndex := 16, attributes := #[] }, { accessFlags := 18, nameIndex := 19, descriptorIndex := 16, attributes := #[] }, { accessFlags := 18, nameIndex := 22, descriptorIndex := 16, attributes := #[] }, { accessFlags := 18, nameIndex := 25, descriptorIndex := 16, attributes := #[] }, { accessFlags := 18, nameIndex := 28, descriptorIndex := 16, attributes := #[] }])
  fields := #[{ name := "level", type := (.object "com/example/wardkeeper/wardkeeper/patient/Identifier$Level"), accessFlags := 18, slot := 0, constantValue := 0 }, { name := "authority", type := (.object "java/lang/String"), accessFlags := 18, slot := 1, constantValue := 0 }, { name := "typeCode", type := (.object "java/lang/String"), accessFlags := 18, slot := 2, constantValue := 0 }, { name := "value", type := (.object "java/lang/String"), accessFlags := 18, slot := 3, constantValue := 0 }, { name := "status", type := (.object "java/lang/String"), accessFlags := 18, slot := 4, constantValue := 0 }, { name := "organisation", type := (.object "java/lang/String"), accessFlags := 18, slot := 5, constantValue := 0 }]
  methods := #[k9m0, k9m1]
  instanceTypes := #[(.object "com/example/wardkeeper/wardkeeper/patient/Identifier$Level"), (.object "java/lang/String"), (.object "java/lang/String"), (.object "java/lang/String"), (.object "java/lang/String"), (.object "java/lang/String")]
  staticTypes := #[]
  resolved := Array.replicate 92 none
  statics := none }

def pool10 : Array CpInfo := pool [(2, .class_ 4), (1, u "java/lang/Enum"), (0, u "name"), (0, u "Ljava/lang/String;"), (2, u "ordinal"), (0, u "I"), (1, .class_ 14), (1, u "java/lang/Object"), (4, u "hash"), (86, .class_ 108), (1, u "java/lang/Enum$EnumDesc"), (2, .class_ 112), (0, u "java/lang/constant/Constable"), (0, .class_ 114), (0, u "java/lang/Comparable"), (0, .class_ 116), (0, u "java/io/Serializable")] 87

/-- java/lang/Enum -/
def k10 : Class := { plain "java/lang/Enum" (some 0) with
  accessFlags := 1057
  interfaces := #[5, 3, 2]
  cf := some (fileOf pool10 2 #[.nestMembers #[106]] #[] 1057 12 #[111, 113, 115] #[{ accessFlags := 18, nameIndex := 5, descriptorIndex := 6, attributes := #[] }, { accessFlags := 18, nameIndex := 9, descriptorIndex := 10, attributes := #[] }, { accessFlags := 2, nameIndex := 19, descriptorIndex := 10, attributes := #[] }])
  fields := #[{ name := "name", type := (.object "java/lang/String"), accessFlags := 18, slot := 0, constantValue := 0 }, { name := "ordinal", type := .int, accessFlags := 18, slot := 1, constantValue := 0 }, { name := "hash", type := .int, accessFlags := 2, slot := 2, constantValue := 0 }]
  methods := #[]
  instanceTypes := #[(.object "java/lang/String"), .int, .int]
  staticTypes := #[]
  resolved := Array.replicate 204 none
  statics := none }

def pool11 : Array CpInfo := pool [(1, .class_ 2), (0, u "com/example/wardkeeper/wardkeeper/patient/Identifier$Level"), (2, u "NATIONAL"), (0, u "Lcom/example/wardkeeper/wardkeeper/patient/Identifier$Level;"), (2, u "ORGANISATION"), (2, u "TEAM"), (2, u "$VALUES"), (0, u "[Lcom/example/wardkeeper/wardkeeper/patient/Identifier$Level;"), (6, .class_ 25), (1, u "java/lang/Enum"), (38, .class_ 65), (0, u "com/example/wardkeeper/wardkeeper/patient/Identifier")] 2

/-- com/example/wardkeeper/wardkeeper/patient/Identifier$Level -/
def k11 : Class := { plain "com/example/wardkeeper/wardkeeper/patient/Identifier$Level" (some 10) with
  accessFlags := 16433
  interfaces := #[]
  cf := some (fileOf pool11 1 #[.nestHost 64] #[] 16433 23 #[] #[{ accessFlags := 16409, nameIndex := 5, descriptorIndex := 6, attributes := #[] }, { accessFlags := 16409, nameIndex := 9, descriptorIndex := 6, attributes := #[] }, { accessFlags := 16409, nameIndex := 12, descriptorIndex := 6, attributes := #[] }, { accessFlags := 4122, nameIndex := 15, descriptorIndex := 16, attributes := #[] }])
  fields := #[{ name := "NATIONAL", type := (.object "com/example/wardkeeper/wardkeeper/patient/Identifier$Level"), accessFlags := 16409, slot := 0, constantValue := 0 }, { name := "ORGANISATION", type := (.object "com/example/wardkeeper/wardkeeper/patient/Identifier$Level"), accessFlags := 16409, slot := 1, constantValue := 0 }, { name := "TEAM", type := (.object "com/example/wardkeeper/wardkeeper/patient/Identifier$Level"), accessFlags := 16409, slot := 2, constantValue := 0 }, { name := "$VALUES", type := (.array (.object "com/example/wardkeeper/wardkeeper/patient/Identifier$Level")), accessFlags := 4122, slot := 3, constantValue := 0 }]
  methods := #[]
  instanceTypes := #[(.object "java/lang/String"), .int, .int]
  staticTypes := #[(.object "com/example/wardkeeper/wardkeeper/patient/Identifier$Level"), (.object "com/example/wardkeeper/wardkeeper/patient/Identifier$Level"), (.object "com/example/wardkeeper/wardkeeper/patient/Identifier$Level"), (.array (.object "com/example/wardkeeper/wardkeeper/patient/Identifier$Level"))]
  resolved := Array.replicate 68 none
  statics := some 1 }

def pool12 : Array CpInfo := pool [(8, .class_ 10), (1, u "java/lang/Iterable"), (24, .class_ 36), (0, u "java/lang/Object")] 25

/-- java/lang/Iterable -/
def k12 : Class := { plain "java/lang/Iterable" (some 0) with
  accessFlags := 1537
  interfaces := #[]
  cf := some (fileOf pool12 8 #[] #[] 1537 35 #[] #[])
  fields := #[]
  methods := #[]
  instanceTypes := #[]
  staticTypes := #[]
  resolved := Array.replicate 62 none
  statics := none }

def pool13 : Array CpInfo := pool [(10, .class_ 12), (1, u "java/util/Collection"), (47, .class_ 61), (0, u "java/lang/Object"), (0, .class_ 63), (0, u "java/lang/Iterable")] 51

/-- java/util/Collection -/
def k13 : Class := { plain "java/util/Collection" (some 0) with
  accessFlags := 1537
  interfaces := #[12]
  cf := some (fileOf pool13 10 #[] #[] 1537 60 #[62] #[])
  fields := #[]
  methods := #[]
  instanceTypes := #[]
  staticTypes := #[]
  resolved := Array.replicate 115 none
  statics := none }

def pool14 : Array CpInfo := pool [(8, .class_ 10), (1, u "java/util/SequencedCollection"), (15, .class_ 27), (0, u "java/lang/Object"), (0, .class_ 29), (0, u "java/util/Collection")] 27

/-- java/util/SequencedCollection -/
def k14 : Class := { plain "java/util/SequencedCollection" (some 0) with
  accessFlags := 1537
  interfaces := #[13]
  cf := some (fileOf pool14 8 #[] #[] 1537 26 #[28] #[])
  fields := #[]
  methods := #[]
  instanceTypes := #[]
  staticTypes := #[]
  resolved := Array.replicate 57 none
  statics := none }

def pool15 : Array CpInfo := pool [(8, .class_ 10), (1, u "java/util/List"), (37, u "<init>"), (26, u "get"), (0, u "(I)Ljava/lang/Object;"), (2, u "size"), (0, u "()I"), (7, u "of"), (7, .class_ 97), (0, u "java/util/ImmutableCollections$List12"), (2, .methodref 96 101), (0, .nameAndType 48 102), (0, u "(Ljava/lang/Object;Ljava/lang/Object;)V"), (0, .class_ 104), (0, u "java/lang/Object"), (15, .class_ 121), (0, u "java/util/SequencedCollection"), (79, u "(Ljava/lang/Object;Ljava/lang/Object;)Ljava/util/List;")] 49

def k15m0 : Method := { name := "size", desc := "()I", sig := { parameters := [], returnType := some .int }, accessFlags := 1025, code := none }
def k15m1 : Method := { name := "get", desc := "(I)Ljava/lang/Object;", sig := { parameters := [.int], returnType := some (.object "java/lang/Object") }, accessFlags := 1025, code := none }
def k15c2 : Code := { maxStack := 4, maxLocals := 2, code := jdk_40_method_38_code, exceptionTable := #[], attributes := #[] }
def k15m2 : Method := { name := "of", desc := "(Ljava/lang/Object;Ljava/lang/Object;)Ljava/util/List;", sig := { parameters := [(.object "java/lang/Object"), (.object "java/lang/Object")], returnType := some (.object "java/util/List") }, accessFlags := 9, code := some k15c2 }
/-- java/util/List -/
def k15 : Class := { plain "java/util/List" (some 0) with
  accessFlags := 1537
  interfaces := #[14]
  cf := some (fileOf pool15 8 #[] #[{ accessFlags := 1025, nameIndex := 79, descriptorIndex := 80, attributes := #[] }, { accessFlags := 1025, nameIndex := 75, descriptorIndex := 76, attributes := #[] }, { accessFlags := 9, nameIndex := 88, descriptorIndex := 201, attributes := #[] }] 1537 103 #[120] #[])
  fields := #[]
  methods := #[k15m0, k15m1, k15m2]
  instanceTypes := #[]
  staticTypes := #[]
  resolved := Array.replicate 251 none
  statics := none }

def pool16 : Array CpInfo := pool [(1, .methodref 2 3), (0, .class_ 4), (0, .nameAndType 5 6), (0, u "java/lang/Object"), (0, u "<init>"), (0, u "()V"), (1, .class_ 10), (1, u "java/util/AbstractCollection"), (66, .class_ 78), (0, u "java/util/Collection")] 81

def k16c0 : Code := { maxStack := 1, maxLocals := 1, code := jdk_22_method_1_code, exceptionTable := #[], attributes := #[] }
def k16m0 : Method := { name := "<init>", desc := "()V", sig := { parameters := [], returnType := none }, accessFlags := 4, code := some k16c0 }
/-- java/util/AbstractCollection -/
def k16 : Class := { plain "java/util/AbstractCollection" (some 0) with
  accessFlags := 1057
  interfaces := #[13]
  cf := some (fileOf pool16 8 #[] #[{ accessFlags := 4, nameIndex := 5, descriptorIndex := 6, attributes := #[] }] 1057 2 #[77] #[])
  fields := #[]
  methods := #[k16m0]
  instanceTypes := #[]
  staticTypes := #[]
  resolved := Array.replicate 160 none
  statics := none }

def pool17 : Array CpInfo := pool [(1, .methodref 2 3), (0, .class_ 4), (0, .nameAndType 5 6), (0, u "java/util/AbstractCollection"), (0, u "<init>"), (0, u "()V"), (1, .class_ 10), (1, u "java/util/ImmutableCollections"), (2, .class_ 14), (0, u "java/util/ImmutableCollections$AbstractImmutableCollection")] 41

def k17c0 : Code := { maxStack := 1, maxLocals := 1, code := jdk_47_method_1_code, exceptionTable := #[], attributes := #[] }
def k17m0 : Method := { name := "<init>", desc := "()V", sig := { parameters := [], returnType := none }, accessFlags := 0, code := some k17c0 }
/-- java/util/ImmutableCollections$AbstractImmutableCollection -/
def k17 : Class := { plain "java/util/ImmutableCollections$AbstractImmutableCollection" (some 16) with
  accessFlags := 1056
  interfaces := #[]
  cf := some (fileOf pool17 13 #[.nestHost 8] #[{ accessFlags := 0, nameIndex := 5, descriptorIndex := 6, attributes := #[] }] 1056 2 #[] #[])
  fields := #[]
  methods := #[k17m0]
  instanceTypes := #[]
  staticTypes := #[]
  resolved := Array.replicate 56 none
  statics := none }

def pool18 : Array CpInfo := pool [(1, .class_ 2), (0, u "java/util/RandomAccess"), (0, .class_ 4), (0, u "java/lang/Object")] 2

/-- java/util/RandomAccess -/
def k18 : Class := { plain "java/util/RandomAccess" (some 0) with
  accessFlags := 1537
  interfaces := #[]
  cf := some (fileOf pool18 1 #[] #[] 1537 3 #[] #[])
  fields := #[]
  methods := #[]
  instanceTypes := #[]
  staticTypes := #[]
  resolved := Array.replicate 7 none
  statics := none }

def pool19 : Array CpInfo := pool [(1, .methodref 2 3), (0, .class_ 4), (0, .nameAndType 5 6), (0, u "java/util/ImmutableCollections$AbstractImmutableCollection"), (0, u "<init>"), (0, u "()V"), (1, .class_ 10), (1, u "java/util/ImmutableCollections"), (3, .class_ 16), (1, u "java/util/ImmutableCollections$AbstractImmutableList"), (60, .class_ 78), (0, u "java/util/List"), (45, .class_ 125), (0, u "java/util/RandomAccess")] 70

def k19c0 : Code := { maxStack := 1, maxLocals := 1, code := jdk_46_method_1_code, exceptionTable := #[], attributes := #[] }
def k19m0 : Method := { name := "<init>", desc := "()V", sig := { parameters := [], returnType := none }, accessFlags := 0, code := some k19c0 }
/-- java/util/ImmutableCollections$AbstractImmutableList -/
def k19 : Class := { plain "java/util/ImmutableCollections$AbstractImmutableList" (some 17) with
  accessFlags := 1056
  interfaces := #[15, 18]
  cf := some (fileOf pool19 14 #[.nestHost 8] #[{ accessFlags := 0, nameIndex := 5, descriptorIndex := 6, attributes := #[] }] 1056 2 #[77, 124] #[])
  fields := #[]
  methods := #[k19m0]
  instanceTypes := #[]
  staticTypes := #[]
  resolved := Array.replicate 196 none
  statics := none }

def pool20 : Array CpInfo := pool [(1, .methodref 2 3), (0, .class_ 4), (0, .nameAndType 5 6), (0, u "java/util/ImmutableCollections$AbstractImmutableList"), (0, u "<init>"), (0, u "()V"), (0, .methodref 8 9), (0, .class_ 10), (0, .nameAndType 11 12), (0, u "java/util/Objects"), (0, u "requireNonNull"), (0, u "(Ljava/lang/Object;)Ljava/lang/Object;"), (0, .fieldref 14 15), (0, .class_ 16), (0, .nameAndType 17 18), (0, u "java/util/ImmutableCollections$List12"), (0, u "e0"), (0, u "Ljava/lang/Object;"), (0, .fieldref 20 21), (0, .class_ 22), (0, .nameAndType 23 18), (0, u "java/util/ImmutableCollections"), (0, u "EMPTY"), (0, .fieldref 14 25), (0, .nameAndType 26 18), (0, u "e1"), (24, u "size"), (0, u "()I"), (17, .class_ 71), (0, u "java/io/Serializable"), (13, u "(Ljava/lang/Object;Ljava/lang/Object;)V"), (4, u "get"), (0, u "(I)Ljava/lang/Object;")] 33

def k20c0 : Code := { maxStack := 2, maxLocals := 3, code := jdk_44_method_2_code, exceptionTable := #[], attributes := #[] }
def k20m0 : Method := { name := "<init>", desc := "(Ljava/lang/Object;Ljava/lang/Object;)V", sig := { parameters := [(.object "java/lang/Object"), (.object "java/lang/Object")], returnType := none }, accessFlags := 0, code := some k20c0 }
def k20c1 : Code := { maxStack := 2, maxLocals := 1, code := jdk_44_method_3_code, exceptionTable := #[], attributes := #[] }
def k20m1 : Method := { name := "size", desc := "()I", sig := { parameters := [], returnType := some .int }, accessFlags := 1, code := some k20c1 }
def k20c2 : Code := { maxStack := 2, maxLocals := 2, code := jdk_44_method_5_code, exceptionTable := #[], attributes := #[] }
def k20m2 : Method := { name := "get", desc := "(I)Ljava/lang/Object;", sig := { parameters := [.int], returnType := some (.object "java/lang/Object") }, accessFlags := 1, code := some k20c2 }
/-- java/util/ImmutableCollections$List12 -/
def k20 : Class := { plain "java/util/ImmutableCollections$List12" (some 19) with
  accessFlags := 48
  interfaces := #[2]
  cf := some (fileOf pool20 14 #[.nestHost 20] #[{ accessFlags := 0, nameIndex := 5, descriptorIndex := 85, attributes := #[] }, { accessFlags := 1, nameIndex := 51, descriptorIndex := 52, attributes := #[] }, { accessFlags := 1, nameIndex := 90, descriptorIndex := 91, attributes := #[] }] 48 2 #[70] #[{ accessFlags := 18, nameIndex := 17, descriptorIndex := 18, attributes := #[] }, { accessFlags := 18, nameIndex := 26, descriptorIndex := 18, attributes := #[] }])
  fields := #[{ name := "e0", type := (.object "java/lang/Object"), accessFlags := 18, slot := 0, constantValue := 0 }, { name := "e1", type := (.object "java/lang/Object"), accessFlags := 18, slot := 1, constantValue := 0 }]
  methods := #[k20m0, k20m1, k20m2]
  instanceTypes := #[(.object "java/lang/Object"), (.object "java/lang/Object")]
  staticTypes := #[]
  resolved := Array.replicate 125 none
  statics := none }

def pool21 : Array CpInfo := pool [(2, .class_ 4), (1, u "java/lang/Object"), (0, u "<init>"), (0, u "()V"), (35, .class_ 44), (1, u "java/util/Objects"), (0, u "requireNonNull"), (0, u "(Ljava/lang/Object;)Ljava/lang/Object;")] 137

def k21m0 : Method := { name := "<init>", desc := "()V", sig := { parameters := [], returnType := none }, accessFlags := 2, code := none }
def k21c1 : Code := { maxStack := 2, maxLocals := 1, code := jdk_31_method_10_code, exceptionTable := #[], attributes := #[] }
def k21m1 : Method := { name := "requireNonNull", desc := "(Ljava/lang/Object;)Ljava/lang/Object;", sig := { parameters := [(.object "java/lang/Object")], returnType := some (.object "java/lang/Object") }, accessFlags := 9, code := some k21c1 }
/-- java/util/Objects -/
def k21 : Class := { plain "java/util/Objects" (some 0) with
  accessFlags := 49
  interfaces := #[]
  cf := some (fileOf pool21 42 #[] #[{ accessFlags := 2, nameIndex := 5, descriptorIndex := 6, attributes := #[] }, { accessFlags := 9, nameIndex := 45, descriptorIndex := 46, attributes := #[] }] 49 2 #[] #[])
  fields := #[]
  methods := #[k21m0, k21m1]
  instanceTypes := #[]
  staticTypes := #[]
  resolved := Array.replicate 184 none
  statics := none }

def pool22 : Array CpInfo := pool [(2, .class_ 4), (1, u "java/lang/Object"), (0, u "<init>"), (0, u "()V"), (3, .class_ 11), (0, u "java/util/ImmutableCollections$List12"), (0, .class_ 13), (0, u "java/util/ImmutableCollections$ListN"), (3, u "Z"), (29, .class_ 49), (1, u "java/util/ImmutableCollections"), (0, u "$assertionsDisabled"), (5, u "[Ljava/lang/Object;"), (5, u "EMPTY_LIST"), (0, u "Ljava/util/ImmutableCollections$ListN;"), (8, u "EMPTY_LIST_NULLS"), (22, u "SALT32L"), (0, u "J"), (2, u "REVERSE"), (6, u "archivedObjects"), (2, u "EMPTY"), (0, u "Ljava/lang/Object;"), (0, .class_ 112), (0, u "java/util/ImmutableCollections$SetN"), (5, u "EMPTY_SET"), (0, u "Ljava/util/ImmutableCollections$SetN;"), (0, .class_ 121), (0, u "java/util/ImmutableCollections$MapN"), (3, u "EMPTY_MAP"), (0, u "Ljava/util/ImmutableCollections$MapN;"), (4, u "EXPAND_FACTOR"), (0, u "I"), (36, .class_ 170), (0, u "java/util/ImmutableCollections$MapN$MapNIterator"), (0, .class_ 172), (0, u "java/util/ImmutableCollections$MapN$1"), (0, .class_ 174), (0, u "java/util/ImmutableCollections$Map1"), (0, .class_ 176), (0, u "java/util/ImmutableCollections$AbstractImmutableMap"), (0, .class_ 178), (0, u "java/util/ImmutableCollections$SetN$SetNIterator"), (0, .class_ 180), (0, u "java/util/ImmutableCollections$Set12"), (0, .class_ 182), (0, u "java/util/ImmutableCollections$Set12$1"), (0, .class_ 184), (0, u "java/util/ImmutableCollections$AbstractImmutableSet"), (0, .class_ 186), (0, u "java/util/ImmutableCollections$SubList"), (0, .class_ 188), (0, u "java/util/ImmutableCollections$ListItr"), (0, .class_ 190), (0, u "java/util/ImmutableCollections$AbstractImmutableList"), (0, .class_ 192), (0, u "java/util/ImmutableCollections$AbstractImmutableCollection"), (0, .class_ 194), (0, u "java/util/ImmutableCollections$Access"), (0, .class_ 196), (0, u "java/util/ImmutableCollections$Access$1")] 16

def k22m0 : Method := { name := "<init>", desc := "()V", sig := { parameters := [], returnType := none }, accessFlags := 2, code := none }
/-- java/util/ImmutableCollections -/
def k22 : Class := { plain "java/util/ImmutableCollections" (some 0) with
  accessFlags := 32
  interfaces := #[]
  cf := some (fileOf pool22 47 #[.nestMembers #[120, 169, 171, 173, 175, 111, 177, 179, 181, 183, 12, 10, 185, 187, 189, 191, 193, 195]] #[{ accessFlags := 2, nameIndex := 5, descriptorIndex := 6, attributes := #[] }] 32 2 #[] #[{ accessFlags := 26, nameIndex := 95, descriptorIndex := 96, attributes := #[] }, { accessFlags := 26, nameIndex := 99, descriptorIndex := 17, attributes := #[] }, { accessFlags := 10, nameIndex := 106, descriptorIndex := 56, attributes := #[] }, { accessFlags := 26, nameIndex := 109, descriptorIndex := 110, attributes := #[] }, { accessFlags := 24, nameIndex := 62, descriptorIndex := 63, attributes := #[] }, { accessFlags := 24, nameIndex := 72, descriptorIndex := 63, attributes := #[] }, { accessFlags := 24, nameIndex := 118, descriptorIndex := 119, attributes := #[] }, { accessFlags := 24, nameIndex := 125, descriptorIndex := 126, attributes := #[] }, { accessFlags := 24, nameIndex := 131, descriptorIndex := 132, attributes := #[] }, { accessFlags := 4120, nameIndex := 50, descriptorIndex := 17, attributes := #[] }])
  fields := #[{ name := "SALT32L", type := .long, accessFlags := 26, slot := 0, constantValue := 0 }, { name := "REVERSE", type := .boolean, accessFlags := 26, slot := 1, constantValue := 0 }, { name := "archivedObjects", type := (.array (.object "java/lang/Object")), accessFlags := 10, slot := 2, constantValue := 0 }, { name := "EMPTY", type := (.object "java/lang/Object"), accessFlags := 26, slot := 3, constantValue := 0 }, { name := "EMPTY_LIST", type := (.object "java/util/ImmutableCollections$ListN"), accessFlags := 24, slot := 4, constantValue := 0 }, { name := "EMPTY_LIST_NULLS", type := (.object "java/util/ImmutableCollections$ListN"), accessFlags := 24, slot := 5, constantValue := 0 }, { name := "EMPTY_SET", type := (.object "java/util/ImmutableCollections$SetN"), accessFlags := 24, slot := 6, constantValue := 0 }, { name := "EMPTY_MAP", type := (.object "java/util/ImmutableCollections$MapN"), accessFlags := 24, slot := 7, constantValue := 0 }, { name := "EXPAND_FACTOR", type := .int, accessFlags := 24, slot := 8, constantValue := 0 }, { name := "$assertionsDisabled", type := .boolean, accessFlags := 4120, slot := 9, constantValue := 0 }]
  methods := #[k22m0]
  instanceTypes := #[]
  staticTypes := #[.long, .boolean, (.array (.object "java/lang/Object")), (.object "java/lang/Object"), (.object "java/util/ImmutableCollections$ListN"), (.object "java/util/ImmutableCollections$ListN"), (.object "java/util/ImmutableCollections$SetN"), (.object "java/util/ImmutableCollections$MapN"), .int, .boolean]
  resolved := Array.replicate 213 none
  statics := some 2 }

def pool23 : Array CpInfo := pool [(6, .class_ 8), (1, u "java/lang/Object"), (0, u "<init>"), (0, u "()V"), (1, .class_ 14), (1, u "java/lang/StringUTF16"), (31, u "$assertionsDisabled"), (0, u "Z"), (13, u "HI_BYTE_SHIFT"), (0, u "I"), (2, u "LO_BYTE_SHIFT"), (49, .methodref 12 116), (0, .nameAndType 117 118), (0, u "compress"), (0, u "([CI[BII)I"), (3, u "([CII)[B"), (138, u "coderFromArrayLen"), (0, u "([BI)B"), (106, .class_ 371), (1, u "java/lang/StringUTF16$LinesSpliterator"), (58, u "MAX_LENGTH"), (196, .class_ 628), (0, u "java/lang/StringUTF16$CodePointsSpliterator"), (0, .class_ 630), (0, u "java/lang/StringUTF16$CharsSpliterator")] 4

def k23m0 : Method := { name := "<init>", desc := "()V", sig := { parameters := [], returnType := none }, accessFlags := 0, code := none }
def k23c1 : Code := { maxStack := 2, maxLocals := 2, code := jdk_52_method_15_code, exceptionTable := #[], attributes := #[] }
def k23m1 : Method := { name := "coderFromArrayLen", desc := "([BI)B", sig := { parameters := [(.array .byte), .int], returnType := some .byte }, accessFlags := 8, code := some k23c1 }
def k23c2 : Code := { maxStack := 5, maxLocals := 6, code := jdk_52_method_16_code, exceptionTable := #[], attributes := #[] }
def k23m2 : Method := { name := "compress", desc := "([CII)[B", sig := { parameters := [(.array .char), .int, .int], returnType := some (.array .byte) }, accessFlags := 9, code := some k23c2 }
def k23c3 : Code := { maxStack := 3, maxLocals := 7, code := jdk_52_method_21_code, exceptionTable := #[], attributes := #[] }
def k23m3 : Method := { name := "compress", desc := "([CI[BII)I", sig := { parameters := [(.array .char), .int, (.array .byte), .int, .int], returnType := some .int }, accessFlags := 9, code := some k23c3 }
/-- java/lang/StringUTF16 -/
def k23 : Class := { plain "java/lang/StringUTF16" (some 0) with
  accessFlags := 48
  interfaces := #[]
  cf := some (fileOf pool23 12 #[.nestMembers #[627, 629, 369]] #[{ accessFlags := 0, nameIndex := 9, descriptorIndex := 10, attributes := #[] }, { accessFlags := 8, nameIndex := 261, descriptorIndex := 262, attributes := #[] }, { accessFlags := 9, nameIndex := 117, descriptorIndex := 122, attributes := #[] }, { accessFlags := 9, nameIndex := 117, descriptorIndex := 118, attributes := #[] }] 48 6 #[] #[{ accessFlags := 26, nameIndex := 61, descriptorIndex := 62, attributes := #[] }, { accessFlags := 26, nameIndex := 65, descriptorIndex := 62, attributes := #[] }, { accessFlags := 24, nameIndex := 430, descriptorIndex := 62, attributes := #[] }, { accessFlags := 4120, nameIndex := 46, descriptorIndex := 47, attributes := #[] }])
  fields := #[{ name := "HI_BYTE_SHIFT", type := .int, accessFlags := 26, slot := 0, constantValue := 0 }, { name := "LO_BYTE_SHIFT", type := .int, accessFlags := 26, slot := 1, constantValue := 0 }, { name := "MAX_LENGTH", type := .int, accessFlags := 24, slot := 2, constantValue := 0 }, { name := "$assertionsDisabled", type := .boolean, accessFlags := 4120, slot := 3, constantValue := 0 }]
  methods := #[k23m0, k23m1, k23m2, k23m3]
  instanceTypes := #[]
  staticTypes := #[.int, .int, .int, .boolean]
  resolved := Array.replicate 635 none
  statics := none }

def pool24 : Array CpInfo := pool [(4, .class_ 6), (1, u "java/lang/Object"), (0, u "<init>"), (0, u "()V"), (5, .class_ 16), (1, u "java/lang/StringLatin1"), (104, u "$assertionsDisabled"), (0, u "Z"), (98, .class_ 223), (1, u "java/lang/StringLatin1$LinesSpliterator"), (166, .class_ 391), (0, u "java/lang/StringLatin1$CharsSpliterator")] 3

def k24m0 : Method := { name := "<init>", desc := "()V", sig := { parameters := [], returnType := none }, accessFlags := 0, code := none }
/-- java/lang/StringLatin1 -/
def k24 : Class := { plain "java/lang/StringLatin1" (some 0) with
  accessFlags := 48
  interfaces := #[]
  cf := some (fileOf pool24 14 #[.nestMembers #[390, 221]] #[{ accessFlags := 0, nameIndex := 7, descriptorIndex := 8, attributes := #[] }] 48 4 #[] #[{ accessFlags := 4120, nameIndex := 121, descriptorIndex := 122, attributes := #[] }])
  fields := #[{ name := "$assertionsDisabled", type := .boolean, accessFlags := 4120, slot := 0, constantValue := 0 }]
  methods := #[k24m0]
  instanceTypes := #[]
  staticTypes := #[.boolean]
  resolved := Array.replicate 395 none
  statics := none }

def pool25 : Array CpInfo := pool [(2, .class_ 4), (1, u "java/lang/Object"), (0, u "<init>"), (0, u "()V"), (17, .class_ 26), (1, u "jdk/internal/util/Preconditions"), (28, .class_ 56), (0, u "jdk/internal/util/Preconditions$4"), (57, .class_ 115), (0, u "jdk/internal/util/Preconditions$1"), (7, u "SIOOBE_FORMATTER"), (0, u "Ljava/util/function/BiFunction;"), (0, .class_ 126), (0, u "jdk/internal/util/Preconditions$2"), (3, u "AIOOBE_FORMATTER"), (0, .class_ 132), (0, u "jdk/internal/util/Preconditions$3"), (3, u "IOOBE_FORMATTER")] 57

def k25m0 : Method := { name := "<init>", desc := "()V", sig := { parameters := [], returnType := none }, accessFlags := 1, code := none }
/-- jdk/internal/util/Preconditions -/
def k25 : Class := { plain "jdk/internal/util/Preconditions" (some 0) with
  accessFlags := 33
  interfaces := #[]
  cf := some (fileOf pool25 24 #[.nestMembers #[55, 131, 125, 114]] #[{ accessFlags := 1, nameIndex := 5, descriptorIndex := 6, attributes := #[] }] 33 2 #[] #[{ accessFlags := 25, nameIndex := 123, descriptorIndex := 124, attributes := #[] }, { accessFlags := 25, nameIndex := 130, descriptorIndex := 124, attributes := #[] }, { accessFlags := 25, nameIndex := 136, descriptorIndex := 124, attributes := #[] }])
  fields := #[{ name := "SIOOBE_FORMATTER", type := (.object "java/util/function/BiFunction"), accessFlags := 25, slot := 0, constantValue := 0 }, { name := "AIOOBE_FORMATTER", type := (.object "java/util/function/BiFunction"), accessFlags := 25, slot := 1, constantValue := 0 }, { name := "IOOBE_FORMATTER", type := (.object "java/util/function/BiFunction"), accessFlags := 25, slot := 2, constantValue := 0 }]
  methods := #[k25m0]
  instanceTypes := #[]
  staticTypes := #[(.object "java/util/function/BiFunction"), (.object "java/util/function/BiFunction"), (.object "java/util/function/BiFunction")]
  resolved := Array.replicate 194 none
  statics := some 3 }

def pool26 : Array CpInfo := pool [(9, u "<init>"), (6, .class_ 18), (1, u "java/lang/Object"), (0, u "()V"), (1, .class_ 23), (1, u "jdk/internal/util/ArraysSupport"), (0, u "LOG2_ARRAY_LONG_INDEX_SCALE"), (0, u "I"), (2, u "U"), (0, u "Ljdk/internal/misc/Unsafe;"), (8, u "BIG_ENDIAN"), (0, u "Z"), (8, u "LOG2_BYTE_BIT_SIZE"), (4, u "LOG2_ARRAY_INT_INDEX_SCALE"), (54, u "JLA"), (0, u "Ljdk/internal/access/JavaLangAccess;"), (11, u "LOG2_ARRAY_BOOLEAN_INDEX_SCALE"), (9, u "LOG2_ARRAY_BYTE_INDEX_SCALE"), (5, u "LOG2_ARRAY_CHAR_INDEX_SCALE"), (5, u "LOG2_ARRAY_SHORT_INDEX_SCALE"), (18, u "LOG2_ARRAY_FLOAT_INDEX_SCALE"), (24, u "LOG2_ARRAY_DOUBLE_INDEX_SCALE"), (89, u "T_BOOLEAN"), (2, u "T_CHAR"), (1, u "T_FLOAT"), (1, u "T_DOUBLE"), (1, u "T_BYTE"), (1, u "T_SHORT"), (1, u "T_INT"), (1, u "T_LONG"), (1, u "SOFT_MAX_ARRAY_LENGTH")] 83

def k26m0 : Method := { name := "<init>", desc := "()V", sig := { parameters := [], returnType := none }, accessFlags := 2, code := none }
/-- jdk/internal/util/ArraysSupport -/
def k26 : Class := { plain "jdk/internal/util/ArraysSupport" (some 0) with
  accessFlags := 33
  interfaces := #[]
  cf := some (fileOf pool26 21 #[] #[{ accessFlags := 2, nameIndex := 9, descriptorIndex := 19, attributes := #[] }] 33 16 #[] #[{ accessFlags := 24, nameIndex := 28, descriptorIndex := 29, attributes := #[] }, { accessFlags := 26, nameIndex := 38, descriptorIndex := 39, attributes := #[] }, { accessFlags := 25, nameIndex := 121, descriptorIndex := 25, attributes := #[] }, { accessFlags := 25, nameIndex := 131, descriptorIndex := 25, attributes := #[] }, { accessFlags := 25, nameIndex := 137, descriptorIndex := 25, attributes := #[] }, { accessFlags := 25, nameIndex := 143, descriptorIndex := 25, attributes := #[] }, { accessFlags := 25, nameIndex := 53, descriptorIndex := 25, attributes := #[] }, { accessFlags := 25, nameIndex := 24, descriptorIndex := 25, attributes := #[] }, { accessFlags := 25, nameIndex := 162, descriptorIndex := 25, attributes := #[] }, { accessFlags := 25, nameIndex := 187, descriptorIndex := 25, attributes := #[] }, { accessFlags := 26, nameIndex := 48, descriptorIndex := 25, attributes := #[] }, { accessFlags := 25, nameIndex := 277, descriptorIndex := 25, attributes := #[] }, { accessFlags := 25, nameIndex := 280, descriptorIndex := 25, attributes := #[] }, { accessFlags := 25, nameIndex := 282, descriptorIndex := 25, attributes := #[] }, { accessFlags := 25, nameIndex := 284, descriptorIndex := 25, attributes := #[] }, { accessFlags := 25, nameIndex := 286, descriptorIndex := 25, attributes := #[] }, { accessFlags := 25, nameIndex := 288, descriptorIndex := 25, attributes := #[] }, { accessFlags := 25, nameIndex := 290, descriptorIndex := 25, attributes := #[] }, { accessFlags := 25, nameIndex := 292, descriptorIndex := 25, attributes := #[] }, { accessFlags := 26, nameIndex := 108, descriptorIndex := 109, attributes := #[] }, { accessFlags := 25, nameIndex := 294, descriptorIndex := 25, attributes := #[] }])
  fields := #[{ name := "U", type := (.object "jdk/internal/misc/Unsafe"), accessFlags := 24, slot := 0, constantValue := 0 }, { name := "BIG_ENDIAN", type := .boolean, accessFlags := 26, slot := 1, constantValue := 0 }, { name := "LOG2_ARRAY_BOOLEAN_INDEX_SCALE", type := .int, accessFlags := 25, slot := 2, constantValue := 0 }, { name := "LOG2_ARRAY_BYTE_INDEX_SCALE", type := .int, accessFlags := 25, slot := 3, constantValue := 0 }, { name := "LOG2_ARRAY_CHAR_INDEX_SCALE", type := .int, accessFlags := 25, slot := 4, constantValue := 0 }, { name := "LOG2_ARRAY_SHORT_INDEX_SCALE", type := .int, accessFlags := 25, slot := 5, constantValue := 0 }, { name := "LOG2_ARRAY_INT_INDEX_SCALE", type := .int, accessFlags := 25, slot := 6, constantValue := 0 }, { name := "LOG2_ARRAY_LONG_INDEX_SCALE", type := .int, accessFlags := 25, slot := 7, constantValue := 0 }, { name := "LOG2_ARRAY_FLOAT_INDEX_SCALE", type := .int, accessFlags := 25, slot := 8, constantValue := 0 }, { name := "LOG2_ARRAY_DOUBLE_INDEX_SCALE", type := .int, accessFlags := 25, slot := 9, constantValue := 0 }, { name := "LOG2_BYTE_BIT_SIZE", type := .int, accessFlags := 26, slot := 10, constantValue := 0 }, { name := "T_BOOLEAN", type := .int, accessFlags := 25, slot := 11, constantValue := 0 }, { name := "T_CHAR", type := .int, accessFlags := 25, slot := 12, constantValue := 0 }, { name := "T_FLOAT", type := .int, accessFlags := 25, slot := 13, constantValue := 0 }, { name := "T_DOUBLE", type := .int, accessFlags := 25, slot := 14, constantValue := 0 }, { name := "T_BYTE", type := .int, accessFlags := 25, slot := 15, constantValue := 0 }, { name := "T_SHORT", type := .int, accessFlags := 25, slot := 16, constantValue := 0 }, { name := "T_INT", type := .int, accessFlags := 25, slot := 17, constantValue := 0 }, { name := "T_LONG", type := .int, accessFlags := 25, slot := 18, constantValue := 0 }, { name := "JLA", type := (.object "jdk/internal/access/JavaLangAccess"), accessFlags := 26, slot := 19, constantValue := 0 }, { name := "SOFT_MAX_ARRAY_LENGTH", type := .int, accessFlags := 25, slot := 20, constantValue := 0 }]
  methods := #[k26m0]
  instanceTypes := #[]
  staticTypes := #[(.object "jdk/internal/misc/Unsafe"), .boolean, .int, .int, .int, .int, .int, .int, .int, .int, .int, .int, .int, .int, .int, .int, .int, .int, .int, (.object "jdk/internal/access/JavaLangAccess"), .int]
  resolved := Array.replicate 378 none
  statics := none }

def pool27 : Array CpInfo := pool [(2, .class_ 4), (1, u "java/util/ImmutableCollections$AbstractImmutableList"), (3, .class_ 10), (1, u "java/util/ImmutableCollections$ListN"), (0, u "elements"), (0, u "[Ljava/lang/Object;"), (2, u "allowNulls"), (0, u "Z"), (42, .class_ 60), (0, u "java/io/Serializable"), (53, .class_ 115), (0, u "java/util/ImmutableCollections")] 3

/-- java/util/ImmutableCollections$ListN -/
def k27 : Class := { plain "java/util/ImmutableCollections$ListN" (some 19) with
  accessFlags := 48
  interfaces := #[2]
  cf := some (fileOf pool27 8 #[.nestHost 114] #[] 48 2 #[59] #[{ accessFlags := 18, nameIndex := 11, descriptorIndex := 12, attributes := #[] }, { accessFlags := 18, nameIndex := 15, descriptorIndex := 16, attributes := #[] }])
  fields := #[{ name := "elements", type := (.array (.object "java/lang/Object")), accessFlags := 18, slot := 0, constantValue := 0 }, { name := "allowNulls", type := .boolean, accessFlags := 18, slot := 1, constantValue := 0 }]
  methods := #[]
  instanceTypes := #[(.array (.object "java/lang/Object")), .boolean]
  staticTypes := #[]
  resolved := Array.replicate 119 none
  statics := none }

def pool28 : Array CpInfo := pool [(1, u "java/lang/Cloneable"), (0, .class_ 1), (0, u "java/lang/Object"), (0, .class_ 3)] 3

/-- java/lang/Cloneable -/
def k28 : Class := { plain "java/lang/Cloneable" (some 0) with
  accessFlags := 1537
  interfaces := #[]
  cf := some (fileOf pool28 2 #[] #[] 1537 4 #[] #[])
  fields := #[]
  methods := #[]
  instanceTypes := #[]
  staticTypes := #[]
  resolved := Array.replicate 8 none
  statics := none }

/-- the primitive byte -/
def k29 : Class := { plain "byte" none with kind := .primitive 'B', accessFlags := 0x411 }
/-- [B -/
def k30 : Class := { plain "[B" (some 0) with kind := .array 29 .byte, interfaces := #[28, 2], accessFlags := 1041 }

/-- the primitive char -/
def k31 : Class := { plain "char" none with kind := .primitive 'C', accessFlags := 0x411 }
/-- [C -/
def k32 : Class := { plain "[C" (some 0) with kind := .array 31 .char, interfaces := #[28, 2], accessFlags := 1041 }

/-- the primitive int -/
def k33 : Class := { plain "int" none with kind := .primitive 'I', accessFlags := 0x411 }
/-- [I -/
def k34 : Class := { plain "[I" (some 0) with kind := .array 33 .int, interfaces := #[28, 2], accessFlags := 1041 }

def heap : Heap := #[{ cls := 7, slots := #[.long 0, .int 1, .null, .int 0, .null, .int 0, .int 0], vm := .statics 7 },
  { cls := 11, slots := #[.ref 4, .ref 5, .ref 6, .null], vm := .statics 11 },
  { cls := 22, slots := #[.long 0, .int 0, .null, .ref 7, .ref 8, .null, .null, .null, .int 0, .int 1], vm := .statics 22 },
  { cls := 25, slots := #[.null, .null, .null], vm := .statics 25 },
  { cls := 11, slots := #[.null, .int 0, .int 0], vm := .none },
  { cls := 11, slots := #[.null, .int 1, .int 0], vm := .none },
  { cls := 11, slots := #[.null, .int 2, .int 0], vm := .none },
  { cls := 0, slots := #[], vm := .none },
  { cls := 27, slots := #[.null, .int 0], vm := .none }]
def classes : Array Class := #[k0, k1, k2, k3, k4, k5, k6, k7, k8, k9, k10, k11, k12, k13, k14, k15, k16, k17, k18, k19, k20, k21, k22, k23, k24, k25, k26, k27, k28, k29, k30, k31, k32, k33, k34]
def interned : List (Array UInt16 × Addr) := []
def slotsUsed : Nat := 35
def theMethod : MethodId := ⟨1, 3⟩
def args0 : Array Value := #[.int 5, .int 65536, .int 131072, .int 9, .int 3, .int 2]
def aboutOver (below : List Frame) : State where
  vm := { classes := classes, interned := interned.toArray }
  heap := heap
  slotsUsed := slotsUsed
  threads := #[{ frames := .invoking theMethod args0 :: below }]
def below0 : List Frame := [.native { method := ⟨0, 0⟩, args := #[] }]
def about1 : State := aboutOver below0
def p0 : Program := .bare "" "" ""
def e0 : Env := launch0.env 0 0 0
theorem w_frames : about1.frames = Frame.invoking theMethod args0 :: below0 := rfl
set_option maxRecDepth 65536 in
theorem w_args : argsFit about1.vm theMethod args0 = true := by decide +kernel
set_option maxRecDepth 65536 in
theorem w_heap : heapFits about1 = true := by decide +kernel
set_option maxRecDepth 65536 in
theorem w_runnable : about1.curStatus? = some .runnable := by decide +kernel
set_option maxRecDepth 65536 in
theorem w_alone : about1.alone = true := by decide +kernel
set_option maxRecDepth 65536 in
theorem w_named : about1.methodNamed? x = some theMethod := by decide +kernel
set_option maxRecDepth 65536 in
theorem w_hears : about1.hears theMethod below0 = true := by decide +kernel
set_option maxRecDepth 65536 in
theorem w_ripe : about1.ripe theMethod args0 below0 = true := by decide +kernel
theorem w_running : about1.status = .running := rfl
set_option maxRecDepth 65536 in
theorem w_room : about1.hasRoom e0.platform room_1 = true :=
  launch0.hasRoom_least _ room_1 (by decide +kernel) (by decide +kernel) (by decide +kernel) (by decide +kernel) (by decide +kernel) (by decide +kernel)
theorem allAtoms_all (ts : List Jvm.Cond) (a : Array Jvm.Value) (st : Jvm.State) : (allAtoms ts).before a st = ts.all (fun c => c.before a st) := by
  induction ts with
  | nil => rfl
  | cons c t ih =>
    show (Jvm.Cond.and c (allAtoms t)).before a st = _
    rw [Jvm.Cond.before_and, ih, List.all_cons]
def words1 : List Jvm.Cond := Jvm.Cond.code x code maxLocals ret :: tables_1
/-- a 'code' word, met by the world's own term for the bytes: nothing is compared byte by byte -/
theorem code_word {y : MethodName} {bytes : ByteArray} {mx : Nat} {rt : Option FieldType} {a : Array Value} {s : State} {m : MethodId} {meth : Method} {c : Code} (h1 : s.methodNamed? y = some m) (h2 : s.vm.method? m = some meth) (h3 : meth.code = some c) (h4 : c.code = bytes)
    (h5 : (c.maxLocals == mx && c.exceptionTable.isEmpty && decide (c.maxStack ≤ mostOperands) && decide (meth.sig.returnType = rt) && !meth.locks && decide (parseMethodDescriptor y.desc = some meth.sig)) = true) : (Jvm.Cond.code y bytes mx rt).before a s = true := by
  simp only [Bool.and_eq_true, beq_iff_eq, Bool.not_eq_true', decide_eq_true_eq] at h5
  obtain ⟨⟨⟨⟨⟨g1, g2⟩, g3⟩, g4⟩, g5⟩, g6⟩ := h5
  simp [Cond.before, Cond.holds, Cond.value, h1, h2, h3, h4, g1, g2, g3, g4, g5, g6]
def isCode : Jvm.Cond → Bool
  | .code _ _ _ _ => true
  | _ => false
theorem all_split {L : List Jvm.Cond} {P : Jvm.Cond → Bool} (h1 : L.all (fun c => isCode c || P c) = true) (h2 : ∀ c ∈ L.filter isCode, P c = true) : L.all P = true := by
  refine List.all_eq_true.mpr fun c hc => ?_
  have h := List.all_eq_true.mp h1 c hc
  rcases Bool.eq_false_or_eq_true (isCode c) with hi | hi
  · exact h2 c (List.mem_filter.mpr ⟨hc, hi⟩)
  · simpa [hi] using h
set_option maxRecDepth 65536 in
theorem w_c0 : (Jvm.Cond.code x code maxLocals ret).before args0 about1 = true := code_word (m := ⟨1, 3⟩) (meth := k1m3) (c := k1c3) (by decide +kernel) rfl rfl rfl (by decide +kernel)
set_option maxRecDepth 65536 in
theorem w_c1 : (Jvm.Cond.code ({ cls := "com/example/wardkeeper/wardkeeper/patient/IdentifierTypeKeyPinLaw", name := "str", desc := "(I)Ljava/lang/String;" } : Jvm.MethodName) method_2_code (4 : Nat) (Option.some (Jvm.ClassFile.FieldType.object "java/lang/String"))).before args0 about1 = true := code_word (m := ⟨1, 1⟩) (meth := k1m1) (c := k1c1) (by decide +kernel) rfl rfl rfl (by decide +kernel)
set_option maxRecDepth 65536 in
theorem w_c2 : (Jvm.Cond.code ({ cls := "java/lang/String", name := "<init>", desc := "([C)V" } : Jvm.MethodName) jdk_42_method_3_code (2 : Nat) (Option.none : Option Jvm.ClassFile.FieldType)).before args0 about1 = true := code_word (m := ⟨7, 1⟩) (meth := k7m1) (c := k7c1) (by decide +kernel) rfl rfl rfl (by decide +kernel)
set_option maxRecDepth 65536 in
theorem w_c3 : (Jvm.Cond.code ({ cls := "java/lang/String", name := "<init>", desc := "([CIILjava/lang/Void;)V" } : Jvm.MethodName) jdk_42_method_149_code (6 : Nat) (Option.none : Option Jvm.ClassFile.FieldType)).before args0 about1 = true := code_word (m := ⟨7, 3⟩) (meth := k7m3) (c := k7c3) (by decide +kernel) rfl rfl rfl (by decide +kernel)
set_option maxRecDepth 65536 in
theorem w_c4 : (Jvm.Cond.code ({ cls := "java/lang/Object", name := "<init>", desc := "()V" } : Jvm.MethodName) object_method_1_code (1 : Nat) (Option.none : Option Jvm.ClassFile.FieldType)).before args0 about1 = true := code_word (m := ⟨0, 0⟩) (meth := k0m0) (c := k0c0) (by decide +kernel) rfl rfl rfl (by decide +kernel)
set_option maxRecDepth 65536 in
theorem w_c5 : (Jvm.Cond.code ({ cls := "com/example/wardkeeper/wardkeeper/patient/IdentifierTypeKeyPinLaw", name := "level", desc := "(I)Lcom/example/wardkeeper/wardkeeper/patient/Identifier$Level;" } : Jvm.MethodName) method_3_code (2 : Nat) (Option.some (Jvm.ClassFile.FieldType.object "com/example/wardkeeper/wardkeeper/patient/Identifier$Level"))).before args0 about1 = true := code_word (m := ⟨1, 2⟩) (meth := k1m2) (c := k1c2) (by decide +kernel) rfl rfl rfl (by decide +kernel)
set_option maxRecDepth 65536 in
theorem w_c6 : (Jvm.Cond.code ({ cls := "com/example/wardkeeper/wardkeeper/patient/Identifier", name := "<init>", desc := "(Lcom/example/wardkeeper/wardkeeper/patient/Identifier$Level;Ljava/lang/String;Ljava/lang/String;Ljava/lang/String;Ljava/lang/String;Ljava/lang/String;)V" } : Jvm.MethodName) prog_49_method_1_code (7 : Nat) (Option.none : Option Jvm.ClassFile.FieldType)).before args0 about1 = true := code_word (m := ⟨9, 0⟩) (meth := k9m0) (c := k9c0) (by decide +kernel) rfl rfl rfl (by decide +kernel)
set_option maxRecDepth 65536 in
theorem w_c7 : (Jvm.Cond.code ({ cls := "java/lang/Record", name := "<init>", desc := "()V" } : Jvm.MethodName) jdk_30_method_1_code (1 : Nat) (Option.none : Option Jvm.ClassFile.FieldType)).before args0 about1 = true := code_word (m := ⟨8, 0⟩) (meth := k8m0) (c := k8c0) (by decide +kernel) rfl rfl rfl (by decide +kernel)
set_option maxRecDepth 65536 in
theorem w_c8 : (Jvm.Cond.code ({ cls := "com/example/wardkeeper/wardkeeper/patient/Identifier", name := "typeKey", desc := "()Ljava/util/List;" } : Jvm.MethodName) prog_49_method_3_code (1 : Nat) (Option.some (Jvm.ClassFile.FieldType.object "java/util/List"))).before args0 about1 = true := code_word (m := ⟨9, 1⟩) (meth := k9m1) (c := k9c1) (by decide +kernel) rfl rfl rfl (by decide +kernel)
set_option maxRecDepth 65536 in
theorem w_c9 : (Jvm.Cond.code ({ cls := "java/util/List", name := "of", desc := "(Ljava/lang/Object;Ljava/lang/Object;)Ljava/util/List;" } : Jvm.MethodName) jdk_40_method_38_code (2 : Nat) (Option.some (Jvm.ClassFile.FieldType.object "java/util/List"))).before args0 about1 = true := code_word (m := ⟨15, 2⟩) (meth := k15m2) (c := k15c2) (by decide +kernel) rfl rfl rfl (by decide +kernel)
set_option maxRecDepth 65536 in
theorem w_c10 : (Jvm.Cond.code ({ cls := "java/util/ImmutableCollections$List12", name := "<init>", desc := "(Ljava/lang/Object;Ljava/lang/Object;)V" } : Jvm.MethodName) jdk_44_method_2_code (3 : Nat) (Option.none : Option Jvm.ClassFile.FieldType)).before args0 about1 = true := code_word (m := ⟨20, 0⟩) (meth := k20m0) (c := k20c0) (by decide +kernel) rfl rfl rfl (by decide +kernel)
set_option maxRecDepth 65536 in
theorem w_c11 : (Jvm.Cond.code ({ cls := "java/util/ImmutableCollections$AbstractImmutableList", name := "<init>", desc := "()V" } : Jvm.MethodName) jdk_46_method_1_code (1 : Nat) (Option.none : Option Jvm.ClassFile.FieldType)).before args0 about1 = true := code_word (m := ⟨19, 0⟩) (meth := k19m0) (c := k19c0) (by decide +kernel) rfl rfl rfl (by decide +kernel)
set_option maxRecDepth 65536 in
theorem w_c12 : (Jvm.Cond.code ({ cls := "java/util/ImmutableCollections$AbstractImmutableCollection", name := "<init>", desc := "()V" } : Jvm.MethodName) jdk_47_method_1_code (1 : Nat) (Option.none : Option Jvm.ClassFile.FieldType)).before args0 about1 = true := code_word (m := ⟨17, 0⟩) (meth := k17m0) (c := k17c0) (by decide +kernel) rfl rfl rfl (by decide +kernel)
set_option maxRecDepth 65536 in
theorem w_c13 : (Jvm.Cond.code ({ cls := "java/util/AbstractCollection", name := "<init>", desc := "()V" } : Jvm.MethodName) jdk_22_method_1_code (1 : Nat) (Option.none : Option Jvm.ClassFile.FieldType)).before args0 about1 = true := code_word (m := ⟨16, 0⟩) (meth := k16m0) (c := k16c0) (by decide +kernel) rfl rfl rfl (by decide +kernel)
set_option maxRecDepth 65536 in
theorem w_c14 : (Jvm.Cond.code ({ cls := "java/util/Objects", name := "requireNonNull", desc := "(Ljava/lang/Object;)Ljava/lang/Object;" } : Jvm.MethodName) jdk_31_method_10_code (1 : Nat) (Option.some (Jvm.ClassFile.FieldType.object "java/lang/Object"))).before args0 about1 = true := code_word (m := ⟨21, 1⟩) (meth := k21m1) (c := k21c1) (by decide +kernel) rfl rfl rfl (by decide +kernel)
set_option maxRecDepth 65536 in
theorem w_c15 : (Jvm.Cond.code ({ cls := "java/util/ImmutableCollections$List12", name := "size", desc := "()I" } : Jvm.MethodName) jdk_44_method_3_code (1 : Nat) (Option.some Jvm.ClassFile.FieldType.int)).before args0 about1 = true := code_word (m := ⟨20, 1⟩) (meth := k20m1) (c := k20c1) (by decide +kernel) rfl rfl rfl (by decide +kernel)
set_option maxRecDepth 65536 in
theorem w_c16 : (Jvm.Cond.code ({ cls := "java/util/ImmutableCollections$List12", name := "get", desc := "(I)Ljava/lang/Object;" } : Jvm.MethodName) jdk_44_method_5_code (2 : Nat) (Option.some (Jvm.ClassFile.FieldType.object "java/lang/Object"))).before args0 about1 = true := code_word (m := ⟨20, 2⟩) (meth := k20m2) (c := k20c2) (by decide +kernel) rfl rfl rfl (by decide +kernel)
set_option maxRecDepth 65536 in
theorem w_c17 : (Jvm.Cond.code ({ cls := "java/lang/String", name := "equals", desc := "(Ljava/lang/Object;)Z" } : Jvm.MethodName) jdk_42_method_66_code (3 : Nat) (Option.some Jvm.ClassFile.FieldType.boolean)).before args0 about1 = true := code_word (m := ⟨7, 2⟩) (meth := k7m2) (c := k7c2) (by decide +kernel) rfl rfl rfl (by decide +kernel)
set_option maxRecDepth 65536 in
theorem w_c18 : (Jvm.Cond.code ({ cls := "java/lang/StringUTF16", name := "compress", desc := "([CII)[B" } : Jvm.MethodName) jdk_52_method_16_code (6 : Nat) (Option.some (Jvm.ClassFile.FieldType.array Jvm.ClassFile.FieldType.byte))).before args0 about1 = true := code_word (m := ⟨23, 2⟩) (meth := k23m2) (c := k23c2) (by decide +kernel) rfl rfl rfl (by decide +kernel)
set_option maxRecDepth 65536 in
theorem w_c19 : (Jvm.Cond.code ({ cls := "java/lang/StringUTF16", name := "compress", desc := "([CI[BII)I" } : Jvm.MethodName) jdk_52_method_21_code (7 : Nat) (Option.some Jvm.ClassFile.FieldType.int)).before args0 about1 = true := code_word (m := ⟨23, 3⟩) (meth := k23m3) (c := k23c3) (by decide +kernel) rfl rfl rfl (by decide +kernel)
set_option maxRecDepth 65536 in
theorem w_c20 : (Jvm.Cond.code ({ cls := "java/lang/StringUTF16", name := "coderFromArrayLen", desc := "([BI)B" } : Jvm.MethodName) jdk_52_method_15_code (2 : Nat) (Option.some Jvm.ClassFile.FieldType.byte)).before args0 about1 = true := code_word (m := ⟨23, 1⟩) (meth := k23m1) (c := k23c1) (by decide +kernel) rfl rfl rfl (by decide +kernel)
def codes1 : List Jvm.Cond := [Jvm.Cond.code x code maxLocals ret, Jvm.Cond.code ({ cls := "com/example/wardkeeper/wardkeeper/patient/IdentifierTypeKeyPinLaw", name := "str", desc := "(I)Ljava/lang/String;" } : Jvm.MethodName) method_2_code (4 : Nat) (Option.some (Jvm.ClassFile.FieldType.object "java/lang/String")), Jvm.Cond.code ({ cls := "java/lang/String", name := "<init>", desc := "([C)V" } : Jvm.MethodName) jdk_42_method_3_code (2 : Nat) (Option.none : Option Jvm.ClassFile.FieldType), Jvm.Cond.code ({ cls := "java/lang/String", name := "<init>", desc := "([CIILjava/lang/Void;)V" } : Jvm.MethodName) jdk_42_method_149_code (6 : Nat) (Option.none : Option Jvm.ClassFile.FieldType), Jvm.Cond.code ({ cls := "java/lang/Object", name := "<init>", desc := "()V" } : Jvm.MethodName) object_method_1_code (1 : Nat) (Option.none : Option Jvm.ClassFile.FieldType), Jvm.Cond.code ({ cls := "com/example/wardkeeper/wardkeeper/patient/IdentifierTypeKeyPinLaw", name := "level", desc := "(I)Lcom/example/wardkeeper/wardkeeper/patient/Identifier$Level;" } : Jvm.MethodName) method_3_code (2 : Nat) (Option.some (Jvm.ClassFile.FieldType.object "com/example/wardkeeper/wardkeeper/patient/Identifier$Level")), Jvm.Cond.code ({ cls := "com/example/wardkeeper/wardkeeper/patient/Identifier", name := "<init>", desc := "(Lcom/example/wardkeeper/wardkeeper/patient/Identifier$Level;Ljava/lang/String;Ljava/lang/String;Ljava/lang/String;Ljava/lang/String;Ljava/lang/String;)V" } : Jvm.MethodName) prog_49_method_1_code (7 : Nat) (Option.none : Option Jvm.ClassFile.FieldType), Jvm.Cond.code ({ cls := "java/lang/Record", name := "<init>", desc := "()V" } : Jvm.MethodName) jdk_30_method_1_code (1 : Nat) (Option.none : Option Jvm.ClassFile.FieldType), Jvm.Cond.code ({ cls := "com/example/wardkeeper/wardkeeper/patient/Identifier", name := "typeKey", desc := "()Ljava/util/List;" } : Jvm.MethodName) prog_49_method_3_code (1 : Nat) (Option.some (Jvm.ClassFile.FieldType.object "java/util/List")), Jvm.Cond.code ({ cls := "java/util/List", name := "of", desc := "(Ljava/lang/Object;Ljava/lang/Object;)Ljava/util/List;" } : Jvm.MethodName) jdk_40_method_38_code (2 : Nat) (Option.some (Jvm.ClassFile.FieldType.object "java/util/List")), Jvm.Cond.code ({ cls := "java/util/ImmutableCollections$List12", name := "<init>", desc := "(Ljava/lang/Object;Ljava/lang/Object;)V" } : Jvm.MethodName) jdk_44_method_2_code (3 : Nat) (Option.none : Option Jvm.ClassFile.FieldType), Jvm.Cond.code ({ cls := "java/util/ImmutableCollections$AbstractImmutableList", name := "<init>", desc := "()V" } : Jvm.MethodName) jdk_46_method_1_code (1 : Nat) (Option.none : Option Jvm.ClassFile.FieldType), Jvm.Cond.code ({ cls := "java/util/ImmutableCollections$AbstractImmutableCollection", name := "<init>", desc := "()V" } : Jvm.MethodName) jdk_47_method_1_code (1 : Nat) (Option.none : Option Jvm.ClassFile.FieldType), Jvm.Cond.code ({ cls := "java/util/AbstractCollection", name := "<init>", desc := "()V" } : Jvm.MethodName) jdk_22_method_1_code (1 : Nat) (Option.none : Option Jvm.ClassFile.FieldType), Jvm.Cond.code ({ cls := "java/util/Objects", name := "requireNonNull", desc := "(Ljava/lang/Object;)Ljava/lang/Object;" } : Jvm.MethodName) jdk_31_method_10_code (1 : Nat) (Option.some (Jvm.ClassFile.FieldType.object "java/lang/Object")), Jvm.Cond.code ({ cls := "java/util/ImmutableCollections$List12", name := "size", desc := "()I" } : Jvm.MethodName) jdk_44_method_3_code (1 : Nat) (Option.some Jvm.ClassFile.FieldType.int), Jvm.Cond.code ({ cls := "java/util/ImmutableCollections$List12", name := "get", desc := "(I)Ljava/lang/Object;" } : Jvm.MethodName) jdk_44_method_5_code (2 : Nat) (Option.some (Jvm.ClassFile.FieldType.object "java/lang/Object")), Jvm.Cond.code ({ cls := "java/lang/String", name := "equals", desc := "(Ljava/lang/Object;)Z" } : Jvm.MethodName) jdk_42_method_66_code (3 : Nat) (Option.some Jvm.ClassFile.FieldType.boolean), Jvm.Cond.code ({ cls := "java/lang/StringUTF16", name := "compress", desc := "([CII)[B" } : Jvm.MethodName) jdk_52_method_16_code (6 : Nat) (Option.some (Jvm.ClassFile.FieldType.array Jvm.ClassFile.FieldType.byte)), Jvm.Cond.code ({ cls := "java/lang/StringUTF16", name := "compress", desc := "([CI[BII)I" } : Jvm.MethodName) jdk_52_method_21_code (7 : Nat) (Option.some Jvm.ClassFile.FieldType.int), Jvm.Cond.code ({ cls := "java/lang/StringUTF16", name := "coderFromArrayLen", desc := "([BI)B" } : Jvm.MethodName) jdk_52_method_15_code (2 : Nat) (Option.some Jvm.ClassFile.FieldType.byte)]
set_option maxRecDepth 65536 in
theorem codes_eq : words1.filter isCode = codes1 := rfl
theorem w_codes : ∀ c ∈ words1.filter isCode, c.before args0 about1 = true := by
  rw [codes_eq]
  intro c hc
  simp only [codes1, List.mem_cons, List.not_mem_nil, or_false] at hc
  rcases hc with rfl | rfl | rfl | rfl | rfl | rfl | rfl | rfl | rfl | rfl | rfl | rfl | rfl | rfl | rfl | rfl | rfl | rfl | rfl | rfl | rfl
  · exact w_c0
  · exact w_c1
  · exact w_c2
  · exact w_c3
  · exact w_c4
  · exact w_c5
  · exact w_c6
  · exact w_c7
  · exact w_c8
  · exact w_c9
  · exact w_c10
  · exact w_c11
  · exact w_c12
  · exact w_c13
  · exact w_c14
  · exact w_c15
  · exact w_c16
  · exact w_c17
  · exact w_c18
  · exact w_c19
  · exact w_c20
set_option maxRecDepth 65536 in
theorem w_t1 : (words1.take 24).all (fun c => isCode c || c.before args0 about1) = true := by decide +kernel
set_option maxRecDepth 65536 in
theorem w_t2 : ((words1.drop 24).take 24).all (fun c => isCode c || c.before args0 about1) = true := by decide +kernel
set_option maxRecDepth 65536 in
theorem w_t3 : (((words1.drop 24).drop 24).take 24).all (fun c => isCode c || c.before args0 about1) = true := by decide +kernel
set_option maxRecDepth 65536 in
theorem w_t4 : ((((words1.drop 24).drop 24).drop 24).take 24).all (fun c => isCode c || c.before args0 about1) = true := by decide +kernel
set_option maxRecDepth 65536 in
theorem w_t5 : (((((words1.drop 24).drop 24).drop 24).drop 24).take 24).all (fun c => isCode c || c.before args0 about1) = true := by decide +kernel
set_option maxRecDepth 65536 in
theorem w_t6 : (((((words1.drop 24).drop 24).drop 24).drop 24).drop 24).all (fun c => isCode c || c.before args0 about1) = true := by decide +kernel
theorem w_tables : (allAtoms (Jvm.Cond.code x code maxLocals ret :: tables_1)).before args0 about1 = true := by
  rw [allAtoms_all]
  show words1.all (fun c => c.before args0 about1) = true
  refine all_split ?_ w_codes
  rw [← List.take_append_drop 24 words1, List.all_append, w_t1, ← List.take_append_drop 24 (words1.drop 24), List.all_append, w_t2, ← List.take_append_drop 24 ((words1.drop 24).drop 24), List.all_append, w_t3, ← List.take_append_drop 24 (((words1.drop 24).drop 24).drop 24), List.all_append, w_t4, ← List.take_append_drop 24 ((((words1.drop 24).drop 24).drop 24).drop 24), List.all_append, w_t5, w_t6]
  rfl
set_option maxRecDepth 65536 in
theorem w_rest : rest_1_c.before args0 about1 = true := by decide +kernel
set_option maxRecDepth 65536 in
theorem w_case : (Jvm.Cond.and given_1 narrow_1).before args0 about1 = true := by decide +kernel
set_option maxRecDepth 65536 in
theorem w_consts : constsHeld consts_1 about1 := Jvm.Lit.constsHeldB_iff.mp (by decide +kernel)
theorem w_applies : (headSpec (Jvm.Cond.code x code maxLocals ret :: tables_1) room_1).applies x e0.platform about1 = true :=
  (Spec.applies_iff w_frames).mpr ⟨w_running, w_runnable, w_alone, w_named, w_hears, w_ripe, w_room, w_tables⟩
theorem atStart : AtStart classFile x code maxLocals ret World_1 tables_1 room_1 Calls_1 rest_1 Pre_1 launch0 p0 e0 about1 theMethod args0 below0 :=
  ⟨lists_1, trivial, launch0.admits_env _ _ _, launch0.least_env, fairChoices_fair.cas, fairChoices_fair.clock, w_frames, w_args, w_heap, w_applies, ⟨w_consts, trivial⟩, w_rest, w_case⟩
end start1
theorem witness_1 : WitnessClaimed_1 := ⟨start1.p0, start1.e0, start1.about1, start1.theMethod, start1.args0, start1.below0, start1.atStart⟩
end Jvm.Pilot.@@N@@
