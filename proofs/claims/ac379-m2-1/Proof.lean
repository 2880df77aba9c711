import JvmDerived
import JvmDerived.Pilot.@@N@@Statement
import JvmDerived.Pilot.@@N@@Code
set_option linter.unusedVariables false
set_option linter.unusedSimpArgs false
namespace Jvm.RoadKit
open Sem ClassFile Op Lib Jvm.Stand Jvm.Free Jvm.LawKit
section New
variable {p : Program} {l : Launch} {e : Env} {R : Room} {s : State} {m : MethodId} {args : Array Value} {below : List Frame} {meth : Method} {c : Code} {T : State} {locs : List Loc} {cells slots : Nat}
theorem retI (X : Stand p l e R s m args below meth c T locs cells slots) (hx : p.tables.exec = Jvm.exec) {pc : Nat} {Ls : Array Slot} {z : Int32} {rest : List Value} (hret : meth.sig.returnType = some .int) (hd : decode c.code pc = .ok (.ireturn, 1)) {fs : List Frame}
    (hl : ∀ (f : JFrame) (acts : List Action), f.method = m → f.locked = none → f.entered = [] → (doReturn e (T.setTop f) acts (some (.int z))).1 = T.setFrames fs) : Steps p.tables e below (T.setTop (mkF m pc Ls (.int z :: rest))) (T.setFrames fs) := by
  have hm' : T.vm.method? m = some meth := X.method'
  have hn : narrow .int (.int z) = .int z := rfl
  show Steps p.tables e below (T.setTop { method := m, pc := pc, locals := Ls, stack := _ :: rest, locked := none }) _
  jvm_step X.here [X.here.top, hx, hd, hm', hret, hn]
  first | (intro acts; rw [hl _ acts rfl rfl rfl]) | rw [hl _ _ rfl rfl rfl]
  exact Steps.refl _
end New
end Jvm.RoadKit
namespace Jvm.Pilot.@@N@@
open Jvm Jvm.ClassFile Sem Op Lib Jvm.Free Jvm.Stand Jvm.LawKit Jvm.RoadKit Bundle Jvm.Pilot.@@N@@.Jvm.D
/-! The walk in a goal-driven form: own_Fin says that the run from A comes to an end at which Q holds, within the frame. -/
def own_Fin (p : Program) (e : Env) (below : List Frame) (s : State) (Q : Option Value → Heap → List Loc → Prop) (kc ks : Nat) (A : State) : Prop :=
  ∃ s₂ o, Steps p.tables e below A s₂ ∧ s₂.status = .running ∧ Ended s₂ below o ∧ ∃ v L, o = .returned v ∧ Q v s₂.heap L ∧ FrameEnd s o s₂ L kc ks
theorem own_Fin.go {p : Program} {e : Env} {below : List Frame} {s : State} {Q : Option Value → Heap → List Loc → Prop} {kc ks : Nat} {A B : State} (st : ∀ t, Steps p.tables e below B t → Steps p.tables e below A t) (h : own_Fin p e below s Q kc ks B) : own_Fin p e below s Q kc ks A := by
  obtain ⟨s₂, o, h1, h2⟩ := h
  exact ⟨s₂, o, st _ h1, h2⟩
section OwnRet
variable {p : Program} {l : Launch} {e : Env} {R : Room} {s : State} {m : MethodId} {args : Array Value} {below : List Frame} {meth : Method} {c : Code} {T : State} {locs : List Loc} {cells slots : Nat} {Q : Option Value → Heap → List Loc → Prop} {kc ks : Nat}
theorem own_end (X : Stand p l e R s m args below meth c T locs cells slots) {v : Option Value} (hv : meth.sig.returnType = none → v = none) (hlocks : meth.locks = false) (hc : cells ≤ kc) (hs : slots ≤ ks) {A : State}
    (h : ∀ fs : List Frame, (∀ (f : JFrame) (acts : List Action), f.method = m → f.locked = none → f.entered = [] → (doReturn e (T.setTop f) acts v).1 = T.setFrames fs) → Steps p.tables e below A (T.setFrames fs)) (hQ : Q v T.heap locs) : own_Fin p e below s Q kc ks A := by
  obtain ⟨fs, hr, hrun, hended, hW, hsame⟩ := X.leave (v := v) hv hlocks
  exact ⟨_, _, h fs hr, hrun, hended, _, _, rfl, hQ, ⟨_, rfl⟩, hW, hsame.mono hc hs⟩
theorem own_retN (X : Stand p l e R s m args below meth c T locs cells slots) (hx : p.tables.exec = Jvm.exec) {pc : Nat} {Ls : Array Slot} {z w : Int32} {t : FieldType} {rest : List Value} (hret : meth.sig.returnType = some t) (ht : t = .boolean ∨ t = .byte ∨ t = .char ∨ t = .short)
    (hd : decode c.code pc = .ok (.ireturn, 1)) (hlocks : meth.locks = false) (hw : nar t z = w) (hc : cells ≤ kc) (hs : slots ≤ ks) (hQ : Q (some (.int w)) T.heap locs) : own_Fin p e below s Q kc ks (T.setTop (mkF m pc Ls (.int z :: rest))) :=
  own_end X (v := some (.int w)) (fun h => by rw [hret] at h; cases h) hlocks hc hs (fun fs hr => retN X hx hret ht hd (by rw [hw]; exact hr)) hQ
theorem own_retI (X : Stand p l e R s m args below meth c T locs cells slots) (hx : p.tables.exec = Jvm.exec) {pc : Nat} {Ls : Array Slot} {z : Int32} {rest : List Value} (hret : meth.sig.returnType = some .int)
    (hd : decode c.code pc = .ok (.ireturn, 1)) (hlocks : meth.locks = false) (hc : cells ≤ kc) (hs : slots ≤ ks) (hQ : Q (some (.int z)) T.heap locs) : own_Fin p e below s Q kc ks (T.setTop (mkF m pc Ls (.int z :: rest))) :=
  own_end X (v := some (.int z)) (fun h => by rw [hret] at h; cases h) hlocks hc hs (fun fs hr => retI X hx hret hd hr) hQ
theorem own_retJ (X : Stand p l e R s m args below meth c T locs cells slots) (hx : p.tables.exec = Jvm.exec) {pc : Nat} {Ls : Array Slot} {z : Int64} (hret : meth.sig.returnType = some .long)
    (hd : decode c.code pc = .ok (.lreturn, 1)) (hlocks : meth.locks = false) (hc : cells ≤ kc) (hs : slots ≤ ks) (hQ : Q (some (.long z)) T.heap locs) : own_Fin p e below s Q kc ks (T.setTop (mkF m pc Ls [.long z])) :=
  own_end X (v := some (.long z)) (fun h => by rw [hret] at h; cases h) hlocks hc hs (fun fs hr => X.lreturnOut hx hret hd hr) hQ
theorem own_retA (X : Stand p l e R s m args below meth c T locs cells slots) (hx : p.tables.exec = Jvm.exec) {pc : Nat} {Ls : Array Slot} {a : Addr} {t : FieldType} {rest : List Value} (hret : meth.sig.returnType = some t) (ht : t.isReference = true)
    (hd : decode c.code pc = .ok (.areturn, 1)) (hlocks : meth.locks = false) (hc : cells ≤ kc) (hs : slots ≤ ks) (hQ : Q (some (.ref a)) T.heap locs) : own_Fin p e below s Q kc ks (T.setTop (mkF m pc Ls (.ref a :: rest))) :=
  own_end X (v := some (.ref a)) (fun h => by rw [hret] at h; cases h) hlocks hc hs (fun fs hr => retOut X hx hret (by cases t <;> first | rfl | (simp [FieldType.isReference] at ht)) (Or.inr (Or.inr (Or.inr (Or.inr ⟨rfl, ht, rfl⟩)))) hd hr) hQ
theorem own_ret0 (X : Stand p l e R s m args below meth c T locs cells slots) (hx : p.tables.exec = Jvm.exec) {pc : Nat} {Ls : Array Slot} (hret : meth.sig.returnType = none)
    (hd : decode c.code pc = .ok (.return_, 1)) (hlocks : meth.locks = false) (hc : cells ≤ kc) (hs : slots ≤ ks) (hQ : Q none T.heap locs) : own_Fin p e below s Q kc ks (T.setTop (mkF m pc Ls [])) :=
  own_end X (v := none) (fun _ => rfl) hlocks hc hs (fun fs hr => X.returnOut hx hret hd hr) hQ
end OwnRet
theorem own_selp {s : State} {args args' : Array Value} {C : String} {y w : MethodName} (hw : (Jvm.Cond.selects C w w).before args s = true) (hcls : w.cls = y.cls) (hpriv : s.PrivateAt y) (hinst : (Jvm.Cond.instanceMethod y).before args s = true) (hy : y.cls ≠ "java/lang/invoke/MethodHandle" ∧ y.cls ≠ "java/lang/invoke/VarHandle") : (Jvm.Cond.selects y.cls y y).before args' s = true := by
  obtain ⟨c2, r2, m2, -, -, q3, -, kP, hkP, hkPi⟩ := Cond.selects_spec hw
  exact selects_self_of_private (by rw [← hcls]; exact findClass_of_methodNamed q3) hkP hkPi hpriv hinst hy
def own_FinW (p : Program) (e : Env) (below : List Frame) (s : State) (Q : Option Value → Heap → List Loc → Prop) (kc ks : Nat) (A : State) : Prop :=
  ∃ s₂ o, Steps p.tables e below A s₂ ∧ s₂.status = .running ∧ Ended s₂ below o ∧ ∃ v L, o = .returned v ∧ Q v s₂.heap L ∧ FramedW s o s₂ L kc ks
theorem own_FinW.go {p : Program} {e : Env} {below : List Frame} {s : State} {Q : Option Value → Heap → List Loc → Prop} {kc ks : Nat} {A B : State} (st : ∀ t, Steps p.tables e below B t → Steps p.tables e below A t) (h : own_FinW p e below s Q kc ks B) : own_FinW p e below s Q kc ks A := by
  obtain ⟨s₂, o, h1, h2⟩ := h
  exact ⟨s₂, o, st _ h1, h2⟩
section OwnRetW
variable {p : Program} {l : Launch} {e : Env} {R : Room} {s : State} {vm₁ : Vm} {m : MethodId} {args : Array Value} {below : List Frame} {meth : Method} {c : Code} {T : State} {locs : List Loc} {cells slots : Nat} {Q : Option Value → Heap → List Loc → Prop} {kc ks : Nat}
theorem own_retNW (X : Stand p l e R (s.setVm vm₁) m args below meth c T locs cells slots) (hx : p.tables.exec = Jvm.exec) {n : Nat} (hS : s.Since vm₁ n) (hn : n ≤ T.heap.size) {pc : Nat} {Ls : Array Slot} {z w : Int32} {t : FieldType} {rest : List Value} (hret : meth.sig.returnType = some t) (ht : t = .boolean ∨ t = .byte ∨ t = .char ∨ t = .short)
    (hd : decode c.code pc = .ok (.ireturn, 1)) (hlocks : meth.locks = false) (hw : nar t z = w) (hc : cells ≤ kc) (hs : slots ≤ ks) (hQ : Q (some (.int w)) T.heap locs) : own_FinW p e below s Q kc ks (T.setTop (mkF m pc Ls (.int z :: rest))) := by
  obtain ⟨fs, hr, hrun, hended, h1, h2, h3, h4⟩ := X.leaveW hS hn (v := some (.int w)) (fun h => by rw [hret] at h; cases h) hlocks
  exact ⟨_, _, retN X hx hret ht hd (by rw [hw]; exact hr), hrun, hended, _, _, rfl, hQ, h1, h2, h3, h4.mono hc hs⟩
end OwnRetW
def own_gt (a b : Int64) : Int32 := if b < a then 1 else 0
theorem own_nn (a : Int64) : ¬ (a &&& (9223372036854775807 : Int64)) < 0 := by
  have h := c_maskL a 9223372036854775807 63 (by decide) (by decide)
  have e0 : (0 : Int64).toInt = 0 := rfl
  rw [Int64.lt_iff_toInt_lt]; omega
theorem own_self (a : Int64) : own_gt a a = 0 := if_neg (by rw [Int64.lt_iff_toInt_lt]; omega)
theorem own_plus {a : Int64} (h : a < (9223372036854775807 : Int64)) : own_gt (a + 1) a = 1 := if_pos (by
  have q := c_ladd a 1
  have r := rng64 (a + 1)
  have e1 : (1 : Int64).toInt = 1 := rfl
  have e2 : (9223372036854775807 : Int64).toInt = 9223372036854775807 := rfl
  rw [Int64.lt_iff_toInt_lt] at *; omega)
theorem own_drec_0 : decode jdk_30_method_1_code 0 = .ok (.aload_n 0, 1) := by decide +kernel
theorem own_drec_1 : decode jdk_30_method_1_code 1 = .ok (.invokespecial 1, 3) := by decide +kernel
theorem own_drec_4 : decode jdk_30_method_1_code 4 = .ok (.return_, 1) := by decide +kernel
theorem own_pn0 : plainName "java/lang/Record" = true := by first | (simp [plainName, overriddenIn]; done) | decide +kernel
theorem own_ef_rec (m : MethodId) (oa : Addr) : entryFrame m #[(.ref oa)] 1 = mkF m 0 #[.val (.ref oa)] [] := by first | (simp [entryFrame, mkF, argsToLocals, Value.category]; done) | rfl
def own_Q_rec (Z : State) (oa : Addr) (h0 : Heap) (n0 : Nat) (v : Option Value) (h : Heap) (L : List Loc) : Prop := v = none ∧ Fr n0 L ∧ h = h0
set_option maxRecDepth 65536 in
set_option maxHeartbeats 40000000 in
theorem own_rm_rec (l : Launch) (Z : State) (a0 : Array Value) (hw : ∀ d ∈ tables_1, d.before a0 Z = true) (ws : List Jvm.Cond) (oa : Addr) (h0 : Heap) (n0 : Nat) (Z0 : n0 ≤ h0.size) :
    MetFree l (⟨"java/lang/Record", "<init>", "()V"⟩ : MethodName) (head1 (Jvm.Cond.code (⟨"java/lang/Record", "<init>", "()V"⟩ : MethodName) jdk_30_method_1_code 1 none :: ws) ({ frames := 1, cells := 0, slots := 0, locals := 12 } : Room)) (fun a U => a = #[(.ref oa)] ∧ Z.Warmed39 U.vm ∧ U.heap = h0) (fun _ _ _ _ _ => True) (fun _ U o U' => ∃ v L, o = .returned v ∧ own_Q_rec Z oa h0 n0 v U'.heap L ∧ FrameEnd U o U' L ({ frames := 1, cells := 0, slots := 0, locals := 12 } : Room).cells ({ frames := 1, cells := 0, slots := 0, locals := 12 } : Room).slots) := by
  refine MetFree.of_bodySF (plainFor_of_name own_pn0) hisR ?_
  intro p e s m args below meth c s₁ Bd hml0 hP hK
  obtain ⟨rfl, hZ, hh⟩ := hP
  have hx := Bd.exec
  have hby := Bd.bytes
  have hml : c.maxLocals = 1 := hml0
  have hown : s.vm.findClass "java/lang/Record" = some m.cls := findClass_of_methodNamed Bd.named
  have hnm := (name_of_methodNamed Bd.named Bd.method).1
  have X0 : Stand p l e ({ frames := 1, cells := 0, slots := 0, locals := 12 } : Room) s m #[(.ref oa)] below meth c s₁ [] 0 0 := Stand.of_body Bd
  have e0 : s₁.heap = h0 := by rw [← hh, Bd.state]; rfl
  have N0 := Fr.nil n0
  show own_Fin p e below s (own_Q_rec Z oa h0 n0) ({ frames := 1, cells := 0, slots := 0, locals := 12 } : Room).cells ({ frames := 1, cells := 0, slots := 0, locals := 12 } : Room).slots (s₁.setTop (entryFrame m #[(.ref oa)] 1))
  refine own_Fin.go (fun t k => castTop (own_ef_rec m oa) k) ?_
  refine own_Fin.go (fun t k => XS.aloadN X0.here hx rfl (hb hby own_drec_0) rfl rfl k) ?_
  show own_Fin _ _ _ _ _ _ _ (s₁.setTop (mkF m 1 #[.val (.ref oa)] [(.ref oa)]))
  obtain ⟨T1, X1, e1, st1⟩ := initO X0 hx hZ hown (hw _ (List.mem_of_getElem? (i := 21) rfl)) (hw _ (List.mem_of_getElem? (i := 22) rfl)) (hw _ (List.mem_of_getElem? (i := 23) rfl)) e0 (g := (mkF m 1 #[.val (.ref oa)] [(.ref oa)])) rfl (by rw [hml]; rfl) rfl (hb hby own_drec_1) (by decide) (W := 0) (by show 2 * 0 + _ ≤ _; exact Nat.le_of_eq rfl) (by decide)
  refine own_Fin.go st1 ?_
  show own_Fin _ _ _ _ _ _ _ (T1.setTop (mkF m 4 #[.val (.ref oa)] []))
  refine own_ret0 X1 hx Bd.returns (hb hby own_drec_4) Bd.notSynchronized (by decide) (by decide) ?_
  rw [e1]
  exact ⟨rfl, N0, rfl⟩
theorem own_dcod_0 : decode jdk_42_method_152_code 0 = .ok (.getstatic 38, 3) := by decide +kernel
theorem own_dcod_3 : decode jdk_42_method_152_code 3 = .ok (.ifCond .eq 10, 3) := by decide +kernel
theorem own_dcod_6 : decode jdk_42_method_152_code 6 = .ok (.aload_n 0, 1) := by decide +kernel
theorem own_dcod_7 : decode jdk_42_method_152_code 7 = .ok (.getfield 15, 3) := by decide +kernel
theorem own_dcod_10 : decode jdk_42_method_152_code 10 = .ok (.goto 4, 3) := by decide +kernel
theorem own_dcod_14 : decode jdk_42_method_152_code 14 = .ok (.ireturn, 1) := by decide +kernel
theorem own_pn1 : plainName "java/lang/String" = true := by first | (simp [plainName, overriddenIn]; done) | decide +kernel
theorem own_ef_cod (m : MethodId) (oa : Addr) : entryFrame m #[(.ref oa)] 1 = mkF m 0 #[.val (.ref oa)] [] := by first | (simp [entryFrame, mkF, argsToLocals, Value.category]; done) | rfl
def own_Q_cod (Z : State) (oa : Addr) (vcs : Int32) (h0 : Heap) (n0 : Nat) (v : Option Value) (h : Heap) (L : List Loc) : Prop := v = some (.int (0 : Int32)) ∧ Fr n0 L ∧ h = h0
set_option maxRecDepth 65536 in
set_option maxHeartbeats 40000000 in
theorem own_rm_cod (l : Launch) (Z : State) (a0 : Array Value) (hw : ∀ d ∈ tables_1, d.before a0 Z = true) (ws : List Jvm.Cond) (oa : Addr) (vcs : Int32) (h0 : Heap) (n0 : Nat) (Z0 : n0 ≤ h0.size) (F_oa_coder : Fld Z h0 oa "java/lang/String" "coder" "B" (.int (0 : Int32))) (S_COMPACT_STRINGS : Sta Z h0 "java/lang/String" "COMPACT_STRINGS" "Z" (.int vcs)) (hcs : ¬ vcs = 0) :
    MetFree l (⟨"java/lang/String", "coder", "()B"⟩ : MethodName) (head1 (Jvm.Cond.code (⟨"java/lang/String", "coder", "()B"⟩ : MethodName) jdk_42_method_152_code 1 (some .byte) :: ws) ({ frames := 0, cells := 0, slots := 0, locals := 0 } : Room)) (fun a U => a = #[(.ref oa)] ∧ Z.Warmed39 U.vm ∧ U.heap = h0) (fun _ _ _ _ _ => True) (fun _ U o U' => ∃ v L, o = .returned v ∧ own_Q_cod Z oa vcs h0 n0 v U'.heap L ∧ FrameEnd U o U' L ({ frames := 0, cells := 0, slots := 0, locals := 0 } : Room).cells ({ frames := 0, cells := 0, slots := 0, locals := 0 } : Room).slots) := by
  refine MetFree.of_bodySF (plainFor_of_name own_pn1) hisR ?_
  intro p e s m args below meth c s₁ Bd hml0 hP hK
  obtain ⟨rfl, hZ, hh⟩ := hP
  have hx := Bd.exec
  have hby := Bd.bytes
  have hml : c.maxLocals = 1 := hml0
  have hown : s.vm.findClass "java/lang/String" = some m.cls := findClass_of_methodNamed Bd.named
  have hnm := (name_of_methodNamed Bd.named Bd.method).1
  have X0 : Stand p l e ({ frames := 0, cells := 0, slots := 0, locals := 0 } : Room) s m #[(.ref oa)] below meth c s₁ [] 0 0 := Stand.of_body Bd
  have e0 : s₁.heap = h0 := by rw [← hh, Bd.state]; rfl
  have N0 := Fr.nil n0
  show own_Fin p e below s (own_Q_cod Z oa vcs h0 n0) ({ frames := 0, cells := 0, slots := 0, locals := 0 } : Room).cells ({ frames := 0, cells := 0, slots := 0, locals := 0 } : Room).slots (s₁.setTop (entryFrame m #[(.ref oa)] 1))
  refine own_Fin.go (fun t k => castTop (own_ef_cod m oa) k) ?_
  obtain ⟨T1, X1, e1, st1⟩ := getS2 X0 hx hZ hown (host := "") (Or.inl (hw _ (List.mem_of_getElem? (i := 42) rfl))) Via.refl e0 S_COMPACT_STRINGS (g := (mkF m 0 #[.val (.ref oa)] [])) rfl (hb hby own_dcod_0)
  refine own_Fin.go st1 ?_
  show own_Fin _ _ _ _ _ _ _ (T1.setTop (mkF m 3 #[.val (.ref oa)] [(.int vcs)]))
  have hc3 : ¬ (vcs = (0 : Int32)) := hcs
  refine own_Fin.go (fun t k => XS.ifNo X1.here hx rfl (hb hby own_dcod_3) rfl (Jvm.Free.XT.i0_eq_f hc3) k) ?_
  show own_Fin _ _ _ _ _ _ _ (T1.setTop (mkF m 6 #[.val (.ref oa)] []))
  refine own_Fin.go (fun t k => XS.aloadN X1.here hx rfl (hb hby own_dcod_6) rfl rfl k) ?_
  show own_Fin _ _ _ _ _ _ _ (T1.setTop (mkF m 7 #[.val (.ref oa)] [(.ref oa)]))
  obtain ⟨T2, X2, e2, st2⟩ := getF X1 hx hZ hown (host := "") (Or.inl (hw _ (List.mem_of_getElem? (i := 43) rfl))) Via.refl e1 F_oa_coder (g := (mkF m 7 #[.val (.ref oa)] [(.ref oa)])) rfl rfl (hb hby own_dcod_7)
  refine own_Fin.go st2 ?_
  show own_Fin _ _ _ _ _ _ _ (T2.setTop (mkF m 10 #[.val (.ref oa)] [(.int (0 : Int32))]))
  refine own_Fin.go (fun t k => XS.goto X2.here hx rfl (pc0 := 10) (pc' := 14) rfl (hb hby own_dcod_10) (by decide) (by decide) k) ?_
  show own_Fin _ _ _ _ _ _ _ (T2.setTop (mkF m 14 #[.val (.ref oa)] [(.int (0 : Int32))]))
  refine own_retN X2 hx (t := .byte) (w := (0 : Int32)) Bd.returns (by simp) (hb hby own_dcod_14) Bd.notSynchronized rfl (by decide) (by decide) ?_
  rw [e2]
  exact ⟨rfl, N0, rfl⟩
theorem own_pd0 : parseMethodDescriptor "()B" = some ⟨[], some .byte⟩ := by decide +kernel
theorem own_dlen_0 : decode jdk_42_method_54_code 0 = .ok (.aload_n 0, 1) := by decide +kernel
theorem own_dlen_1 : decode jdk_42_method_54_code 1 = .ok (.getfield 9, 3) := by decide +kernel
theorem own_dlen_4 : decode jdk_42_method_54_code 4 = .ok (.arraylength, 1) := by decide +kernel
theorem own_dlen_5 : decode jdk_42_method_54_code 5 = .ok (.aload_n 0, 1) := by decide +kernel
theorem own_dlen_6 : decode jdk_42_method_54_code 6 = .ok (.invokevirtual 335, 3) := by decide +kernel
theorem own_dlen_9 : decode jdk_42_method_54_code 9 = .ok (.ishr, 1) := by decide +kernel
theorem own_dlen_10 : decode jdk_42_method_54_code 10 = .ok (.ireturn, 1) := by decide +kernel
theorem own_ef_len (m : MethodId) (oa : Addr) : entryFrame m #[(.ref oa)] 1 = mkF m 0 #[.val (.ref oa)] [] := by first | (simp [entryFrame, mkF, argsToLocals, Value.category]; done) | rfl
def own_Q_len (Z : State) (oa : Addr) (vcs : Int32) (ov : Addr) (kv : ClassId) (h0 : Heap) (n0 : Nat) (v : Option Value) (h : Heap) (L : List Loc) : Prop := v = some (.int (1 : Int32)) ∧ Fr n0 L ∧ h = h0
set_option maxRecDepth 65536 in
set_option maxHeartbeats 40000000 in
theorem own_rm_len (l : Launch) (Z : State) (a0 : Array Value) (hw : ∀ d ∈ tables_1, d.before a0 Z = true) (ws : List Jvm.Cond) (oa : Addr) (vcs : Int32) (ov : Addr) (kv : ClassId) (h0 : Heap) (n0 : Nat) (Z0 : n0 ≤ h0.size) (E_oa : Exa Z h0 oa "java/lang/String") (F_oa_value : Fld Z h0 oa "java/lang/String" "value" "[B" (.ref ov)) (F_oa_coder : Fld Z h0 oa "java/lang/String" "coder" "B" (.int (0 : Int32))) (V_ov : Arv Z h0 ov kv .byte (1 : Int32) [(.int (99 : Int32))] (.int 0)) (S_COMPACT_STRINGS : Sta Z h0 "java/lang/String" "COMPACT_STRINGS" "Z" (.int vcs)) (hcs : ¬ vcs = 0) :
    MetFree l (⟨"java/lang/String", "length", "()I"⟩ : MethodName) (head1 (Jvm.Cond.code (⟨"java/lang/String", "length", "()I"⟩ : MethodName) jdk_42_method_54_code 1 (some .int) :: ws) ({ frames := 1, cells := 0, slots := 0, locals := 13 } : Room)) (fun a U => a = #[(.ref oa)] ∧ Z.Warmed39 U.vm ∧ U.heap = h0) (fun _ _ _ _ _ => True) (fun _ U o U' => ∃ v L, o = .returned v ∧ own_Q_len Z oa vcs ov kv h0 n0 v U'.heap L ∧ FrameEnd U o U' L ({ frames := 1, cells := 0, slots := 0, locals := 13 } : Room).cells ({ frames := 1, cells := 0, slots := 0, locals := 13 } : Room).slots) := by
  refine MetFree.of_bodySF (plainFor_of_name own_pn1) hisR ?_
  intro p e s m args below meth c s₁ Bd hml0 hP hK
  obtain ⟨rfl, hZ, hh⟩ := hP
  have hx := Bd.exec
  have hby := Bd.bytes
  have hml : c.maxLocals = 1 := hml0
  have hown : s.vm.findClass "java/lang/String" = some m.cls := findClass_of_methodNamed Bd.named
  have hnm := (name_of_methodNamed Bd.named Bd.method).1
  have X0 : Stand p l e ({ frames := 1, cells := 0, slots := 0, locals := 13 } : Room) s m #[(.ref oa)] below meth c s₁ [] 0 0 := Stand.of_body Bd
  have e0 : s₁.heap = h0 := by rw [← hh, Bd.state]; rfl
  have N0 := Fr.nil n0
  show own_Fin p e below s (own_Q_len Z oa vcs ov kv h0 n0) ({ frames := 1, cells := 0, slots := 0, locals := 13 } : Room).cells ({ frames := 1, cells := 0, slots := 0, locals := 13 } : Room).slots (s₁.setTop (entryFrame m #[(.ref oa)] 1))
  refine own_Fin.go (fun t k => castTop (own_ef_len m oa) k) ?_
  refine own_Fin.go (fun t k => XS.aloadN X0.here hx rfl (hb hby own_dlen_0) rfl rfl k) ?_
  show own_Fin _ _ _ _ _ _ _ (s₁.setTop (mkF m 1 #[.val (.ref oa)] [(.ref oa)]))
  obtain ⟨T1, X1, e1, st1⟩ := getF X0 hx hZ hown (host := "") (Or.inl (hw _ (List.mem_of_getElem? (i := 36) rfl))) Via.refl e0 F_oa_value (g := (mkF m 1 #[.val (.ref oa)] [(.ref oa)])) rfl rfl (hb hby own_dlen_1)
  refine own_Fin.go st1 ?_
  show own_Fin _ _ _ _ _ _ _ (T1.setTop (mkF m 4 #[.val (.ref oa)] [(.ref ov)]))
  obtain ⟨cl2, Ar2, -, S2, N2l, -, -⟩ := (id V_ov)
  refine own_Fin.go (fun t k => X1.arraylength hx (by rw [e1]; exact Ar2.1) (State.isArrayOf_alike hZ.alike Ar2.2.1) (g := (mkF m 4 #[.val (.ref oa)] [(.ref ov)])) rfl rfl (hb hby own_dlen_4) t k) ?_
  rw [len_of S2 N2l]
  show own_Fin _ _ _ _ _ _ _ (T1.setTop (mkF m 5 #[.val (.ref oa)] [(.int (1 : Int32))]))
  refine own_Fin.go (fun t k => XS.aloadN X1.here hx rfl (hb hby own_dlen_5) rfl rfl k) ?_
  show own_Fin _ _ _ _ _ _ _ (T1.setTop (mkF m 6 #[.val (.ref oa)] [(.ref oa), (.int (1 : Int32))]))
  obtain ⟨cq3, kq3, q3a, q3b, q3c⟩ := isOf hZ e1 E_oa
  obtain ⟨_, _, ⟨T3, L3, k3, n3⟩, -, X3, ⟨Lc3, hQ3, l3, y3, z3⟩, st3⟩ := X1.virtualBack hx (y := (⟨"java/lang/String", "coder", "()B"⟩ : MethodName)) (z := (⟨"java/lang/String", "coder", "()B"⟩ : MethodName)) hown (mvT hZ (hw _ (List.mem_of_getElem? (i := 37) rfl))) (mvT hZ (hw _ (List.mem_of_getElem? (i := 38) rfl))) (notFace_of_selects (args := #[]) (mvT hZ (hw _ (List.mem_of_getElem? (i := 40) rfl)))) (mvT hZ (hw _ (List.mem_of_getElem? (i := 40) rfl))) (mvT hZ (hw _ (List.mem_of_getElem? (i := 39) rfl))) (by decide) (backOf (W := 1) (own_rm_cod l Z a0 hw [] oa vcs h0 n0 Z0 F_oa_coder S_COMPACT_STRINGS (by assumption)) hZ (hw _ (List.mem_of_getElem? (i := 41) rfl)) (hw _ (List.mem_of_getElem? (i := 5) rfl)) (by decide) (by decide)) q3a q3c (g := (mkF m 6 #[.val (.ref oa)] [(.ref oa), (.int (1 : Int32))])) rfl (by rw [hml]; rfl) (Steps.refl _) (argsL := []) (rest := [(.int (1 : Int32))]) (lenOf own_pd0 rfl) rfl (by show 2 * 0 + _ ≤ _; exact Nat.le_of_eq rfl) (hb hby own_dlen_6) (fun _ _ => ⟨rfl, e1, (by decide : 0 + 0 ≤ _), (by decide : 0 + 0 ≤ _)⟩)
  dsimp only [Pt.U, Pt.locs, Pt.cells, Pt.slots] at X3 l3 y3 z3 st3 hQ3
  subst l3 y3 z3
  obtain ⟨rfl, N3q, e3⟩ := hQ3
  refine own_Fin.go (fun t k => st3.trans k) ?_
  have N3 := Fr.app N0 N3q
  show own_Fin _ _ _ _ _ _ _ (T3.setTop (mkF m 9 #[.val (.ref oa)] [(.int (0 : Int32)), (.int (1 : Int32))]))
  refine own_Fin.go (fun t k => XS.ishr X3.here hx rfl (hb hby own_dlen_9) rfl k) ?_
  show own_Fin _ _ _ _ _ _ _ (T3.setTop (mkF m 10 #[.val (.ref oa)] [(.int ((1 : Int32) >>> ((0 : Int32) &&& 31)))]))
  rw [show ((1 : Int32) >>> ((0 : Int32) &&& 31)) = (1 : Int32) from by decide +kernel]
  show own_Fin _ _ _ _ _ _ _ (T3.setTop (mkF m 10 #[.val (.ref oa)] [(.int (1 : Int32))]))
  refine own_retI X3 hx Bd.returns (hb hby own_dlen_10) Bd.notSynchronized (by decide) (by decide) ?_
  rw [e3]
  exact ⟨rfl, N3, rfl⟩
theorem own_dlat_0 : decode jdk_42_method_154_code 0 = .ok (.getstatic 38, 3) := by decide +kernel
theorem own_dlat_3 : decode jdk_42_method_154_code 3 = .ok (.ifCond .eq 14, 3) := by decide +kernel
theorem own_dlat_6 : decode jdk_42_method_154_code 6 = .ok (.aload_n 0, 1) := by decide +kernel
theorem own_dlat_7 : decode jdk_42_method_154_code 7 = .ok (.getfield 15, 3) := by decide +kernel
theorem own_dlat_10 : decode jdk_42_method_154_code 10 = .ok (.ifCond .ne 7, 3) := by decide +kernel
theorem own_dlat_13 : decode jdk_42_method_154_code 13 = .ok (.iconst 1, 1) := by decide +kernel
theorem own_dlat_14 : decode jdk_42_method_154_code 14 = .ok (.goto 4, 3) := by decide +kernel
theorem own_dlat_18 : decode jdk_42_method_154_code 18 = .ok (.ireturn, 1) := by decide +kernel
theorem own_ef_lat (m : MethodId) (oa : Addr) : entryFrame m #[(.ref oa)] 1 = mkF m 0 #[.val (.ref oa)] [] := by first | (simp [entryFrame, mkF, argsToLocals, Value.category]; done) | rfl
def own_Q_lat (Z : State) (oa : Addr) (vcs : Int32) (h0 : Heap) (n0 : Nat) (v : Option Value) (h : Heap) (L : List Loc) : Prop := v = some (.int (1 : Int32)) ∧ Fr n0 L ∧ h = h0
set_option maxRecDepth 65536 in
set_option maxHeartbeats 40000000 in
theorem own_rm_lat (l : Launch) (Z : State) (a0 : Array Value) (hw : ∀ d ∈ tables_1, d.before a0 Z = true) (ws : List Jvm.Cond) (oa : Addr) (vcs : Int32) (h0 : Heap) (n0 : Nat) (Z0 : n0 ≤ h0.size) (F_oa_coder : Fld Z h0 oa "java/lang/String" "coder" "B" (.int (0 : Int32))) (S_COMPACT_STRINGS : Sta Z h0 "java/lang/String" "COMPACT_STRINGS" "Z" (.int vcs)) (hcs : ¬ vcs = 0) :
    MetFree l (⟨"java/lang/String", "isLatin1", "()Z"⟩ : MethodName) (head1 (Jvm.Cond.code (⟨"java/lang/String", "isLatin1", "()Z"⟩ : MethodName) jdk_42_method_154_code 1 (some .boolean) :: ws) ({ frames := 0, cells := 0, slots := 0, locals := 0 } : Room)) (fun a U => a = #[(.ref oa)] ∧ Z.Warmed39 U.vm ∧ U.heap = h0) (fun _ _ _ _ _ => True) (fun _ U o U' => ∃ v L, o = .returned v ∧ own_Q_lat Z oa vcs h0 n0 v U'.heap L ∧ FrameEnd U o U' L ({ frames := 0, cells := 0, slots := 0, locals := 0 } : Room).cells ({ frames := 0, cells := 0, slots := 0, locals := 0 } : Room).slots) := by
  refine MetFree.of_bodySF (plainFor_of_name own_pn1) hisR ?_
  intro p e s m args below meth c s₁ Bd hml0 hP hK
  obtain ⟨rfl, hZ, hh⟩ := hP
  have hx := Bd.exec
  have hby := Bd.bytes
  have hml : c.maxLocals = 1 := hml0
  have hown : s.vm.findClass "java/lang/String" = some m.cls := findClass_of_methodNamed Bd.named
  have hnm := (name_of_methodNamed Bd.named Bd.method).1
  have X0 : Stand p l e ({ frames := 0, cells := 0, slots := 0, locals := 0 } : Room) s m #[(.ref oa)] below meth c s₁ [] 0 0 := Stand.of_body Bd
  have e0 : s₁.heap = h0 := by rw [← hh, Bd.state]; rfl
  have N0 := Fr.nil n0
  show own_Fin p e below s (own_Q_lat Z oa vcs h0 n0) ({ frames := 0, cells := 0, slots := 0, locals := 0 } : Room).cells ({ frames := 0, cells := 0, slots := 0, locals := 0 } : Room).slots (s₁.setTop (entryFrame m #[(.ref oa)] 1))
  refine own_Fin.go (fun t k => castTop (own_ef_lat m oa) k) ?_
  obtain ⟨T1, X1, e1, st1⟩ := getS2 X0 hx hZ hown (host := "") (Or.inl (hw _ (List.mem_of_getElem? (i := 42) rfl))) Via.refl e0 S_COMPACT_STRINGS (g := (mkF m 0 #[.val (.ref oa)] [])) rfl (hb hby own_dlat_0)
  refine own_Fin.go st1 ?_
  show own_Fin _ _ _ _ _ _ _ (T1.setTop (mkF m 3 #[.val (.ref oa)] [(.int vcs)]))
  have hc3 : ¬ (vcs = (0 : Int32)) := hcs
  refine own_Fin.go (fun t k => XS.ifNo X1.here hx rfl (hb hby own_dlat_3) rfl (Jvm.Free.XT.i0_eq_f hc3) k) ?_
  show own_Fin _ _ _ _ _ _ _ (T1.setTop (mkF m 6 #[.val (.ref oa)] []))
  refine own_Fin.go (fun t k => XS.aloadN X1.here hx rfl (hb hby own_dlat_6) rfl rfl k) ?_
  show own_Fin _ _ _ _ _ _ _ (T1.setTop (mkF m 7 #[.val (.ref oa)] [(.ref oa)]))
  obtain ⟨T2, X2, e2, st2⟩ := getF X1 hx hZ hown (host := "") (Or.inl (hw _ (List.mem_of_getElem? (i := 43) rfl))) Via.refl e1 F_oa_coder (g := (mkF m 7 #[.val (.ref oa)] [(.ref oa)])) rfl rfl (hb hby own_dlat_7)
  refine own_Fin.go st2 ?_
  show own_Fin _ _ _ _ _ _ _ (T2.setTop (mkF m 10 #[.val (.ref oa)] [(.int (0 : Int32))]))
  refine own_Fin.go (fun t k => XS.ifNo X2.here hx rfl (hb hby own_dlat_10) rfl (by decide) k) ?_
  show own_Fin _ _ _ _ _ _ _ (T2.setTop (mkF m 13 #[.val (.ref oa)] []))
  refine own_Fin.go (fun t k => XS.iconst X2.here hx rfl (hb hby own_dlat_13) k) ?_
  show own_Fin _ _ _ _ _ _ _ (T2.setTop (mkF m 14 #[.val (.ref oa)] [(.int (1 : Int32))]))
  refine own_Fin.go (fun t k => XS.goto X2.here hx rfl (pc0 := 14) (pc' := 18) rfl (hb hby own_dlat_14) (by decide) (by decide) k) ?_
  show own_Fin _ _ _ _ _ _ _ (T2.setTop (mkF m 18 #[.val (.ref oa)] [(.int (1 : Int32))]))
  refine own_retN X2 hx (t := .boolean) (w := (1 : Int32)) Bd.returns (by simp) (hb hby own_dlat_18) Bd.notSynchronized rfl (by decide) (by decide) ?_
  rw [e2]
  exact ⟨rfl, N0, rfl⟩
theorem own_dpci_0 : decode jdk_41_method_11_code 0 = .ok (.iload_n 0, 1) := by decide +kernel
theorem own_dpci_1 : decode jdk_41_method_11_code 1 = .ok (.ifCond .lt 8, 3) := by decide +kernel
theorem own_dpci_4 : decode jdk_41_method_11_code 4 = .ok (.iload_n 0, 1) := by decide +kernel
theorem own_dpci_5 : decode jdk_41_method_11_code 5 = .ok (.iload_n 1, 1) := by decide +kernel
theorem own_dpci_6 : decode jdk_41_method_11_code 6 = .ok (.if_icmp .lt 10, 3) := by decide +kernel
theorem own_dpci_16 : decode jdk_41_method_11_code 16 = .ok (.iload_n 0, 1) := by decide +kernel
theorem own_dpci_17 : decode jdk_41_method_11_code 17 = .ok (.ireturn, 1) := by decide +kernel
theorem own_pn2 : plainName "jdk/internal/util/Preconditions" = true := by first | (simp [plainName, overriddenIn]; done) | decide +kernel
theorem own_ef_pci (m : MethodId) (vf : Value) (hv : vf.isRef = true) : entryFrame m #[(.int (0 : Int32)), (.int (1 : Int32)), vf] 3 = mkF m 0 #[.val (.int (0 : Int32)), .val (.int (1 : Int32)), .val vf] [] := by rcases ref_cases hv with rfl | ⟨_, rfl⟩ <;> first | (simp [entryFrame, mkF, argsToLocals, Value.category]; done) | rfl
def own_Q_pci (Z : State) (vf : Value) (h0 : Heap) (n0 : Nat) (v : Option Value) (h : Heap) (L : List Loc) : Prop := v = some (.int (0 : Int32)) ∧ Fr n0 L ∧ h = h0
set_option maxRecDepth 65536 in
set_option maxHeartbeats 40000000 in
theorem own_rm_pci (l : Launch) (Z : State) (a0 : Array Value) (hw : ∀ d ∈ tables_1, d.before a0 Z = true) (ws : List Jvm.Cond) (vf : Value) (h0 : Heap) (n0 : Nat) (Z0 : n0 ≤ h0.size) (hvf : vf.isRef = true) :
    MetFree l (⟨"jdk/internal/util/Preconditions", "checkIndex", "(IILjava/util/function/BiFunction;)I"⟩ : MethodName) (head1 (Jvm.Cond.code (⟨"jdk/internal/util/Preconditions", "checkIndex", "(IILjava/util/function/BiFunction;)I"⟩ : MethodName) jdk_41_method_11_code 3 (some .int) :: ws) ({ frames := 0, cells := 0, slots := 0, locals := 0 } : Room)) (fun a U => a = #[(.int (0 : Int32)), (.int (1 : Int32)), vf] ∧ Z.Warmed39 U.vm ∧ U.heap = h0) (fun _ _ _ _ _ => True) (fun _ U o U' => ∃ v L, o = .returned v ∧ own_Q_pci Z vf h0 n0 v U'.heap L ∧ FrameEnd U o U' L ({ frames := 0, cells := 0, slots := 0, locals := 0 } : Room).cells ({ frames := 0, cells := 0, slots := 0, locals := 0 } : Room).slots) := by
  refine MetFree.of_bodySF (plainFor_of_name own_pn2) hisR ?_
  intro p e s m args below meth c s₁ Bd hml0 hP hK
  obtain ⟨rfl, hZ, hh⟩ := hP
  have hx := Bd.exec
  have hby := Bd.bytes
  have hml : c.maxLocals = 3 := hml0
  have hown : s.vm.findClass "jdk/internal/util/Preconditions" = some m.cls := findClass_of_methodNamed Bd.named
  have hnm := (name_of_methodNamed Bd.named Bd.method).1
  have X0 : Stand p l e ({ frames := 0, cells := 0, slots := 0, locals := 0 } : Room) s m #[(.int (0 : Int32)), (.int (1 : Int32)), vf] below meth c s₁ [] 0 0 := Stand.of_body Bd
  have e0 : s₁.heap = h0 := by rw [← hh, Bd.state]; rfl
  have N0 := Fr.nil n0
  show own_Fin p e below s (own_Q_pci Z vf h0 n0) ({ frames := 0, cells := 0, slots := 0, locals := 0 } : Room).cells ({ frames := 0, cells := 0, slots := 0, locals := 0 } : Room).slots (s₁.setTop (entryFrame m #[(.int (0 : Int32)), (.int (1 : Int32)), vf] 3))
  refine own_Fin.go (fun t k => castTop (own_ef_pci m vf hvf) k) ?_
  refine own_Fin.go (fun t k => XS.iloadN X0.here hx rfl (hb hby own_dpci_0) rfl k) ?_
  show own_Fin _ _ _ _ _ _ _ (s₁.setTop (mkF m 1 #[.val (.int (0 : Int32)), .val (.int (1 : Int32)), .val vf] [(.int (0 : Int32))]))
  refine own_Fin.go (fun t k => XS.ifNo X0.here hx rfl (hb hby own_dpci_1) rfl (by decide) k) ?_
  show own_Fin _ _ _ _ _ _ _ (s₁.setTop (mkF m 4 #[.val (.int (0 : Int32)), .val (.int (1 : Int32)), .val vf] []))
  refine own_Fin.go (fun t k => XS.iloadN X0.here hx rfl (hb hby own_dpci_4) rfl k) ?_
  show own_Fin _ _ _ _ _ _ _ (s₁.setTop (mkF m 5 #[.val (.int (0 : Int32)), .val (.int (1 : Int32)), .val vf] [(.int (0 : Int32))]))
  refine own_Fin.go (fun t k => XS.iloadN X0.here hx rfl (hb hby own_dpci_5) rfl k) ?_
  show own_Fin _ _ _ _ _ _ _ (s₁.setTop (mkF m 6 #[.val (.int (0 : Int32)), .val (.int (1 : Int32)), .val vf] [(.int (1 : Int32)), (.int (0 : Int32))]))
  refine own_Fin.go (fun t k => XS.icmpYes X0.here hx rfl (pc0 := 6) (pc' := 16) rfl (hb hby own_dpci_6) rfl (by decide) (by decide) (by decide) k) ?_
  show own_Fin _ _ _ _ _ _ _ (s₁.setTop (mkF m 16 #[.val (.int (0 : Int32)), .val (.int (1 : Int32)), .val vf] []))
  refine own_Fin.go (fun t k => XS.iloadN X0.here hx rfl (hb hby own_dpci_16) rfl k) ?_
  show own_Fin _ _ _ _ _ _ _ (s₁.setTop (mkF m 17 #[.val (.int (0 : Int32)), .val (.int (1 : Int32)), .val vf] [(.int (0 : Int32))]))
  refine own_retI X0 hx Bd.returns (hb hby own_dpci_17) Bd.notSynchronized (by decide) (by decide) ?_
  rw [e0]
  exact ⟨rfl, N0, rfl⟩
theorem own_pd1 : parseMethodDescriptor "(IILjava/util/function/BiFunction;)I" = some ⟨[.int, .int, (.object "java/util/function/BiFunction")], some .int⟩ := by decide +kernel
theorem own_dsci_0 : decode jdk_42_method_155_code 0 = .ok (.iload_n 0, 1) := by decide +kernel
theorem own_dsci_1 : decode jdk_42_method_155_code 1 = .ok (.iload_n 1, 1) := by decide +kernel
theorem own_dsci_2 : decode jdk_42_method_155_code 2 = .ok (.getstatic 1053, 3) := by decide +kernel
theorem own_dsci_5 : decode jdk_42_method_155_code 5 = .ok (.invokestatic 1059, 3) := by decide +kernel
theorem own_dsci_8 : decode jdk_42_method_155_code 8 = .ok (.pop, 1) := by decide +kernel
theorem own_dsci_9 : decode jdk_42_method_155_code 9 = .ok (.return_, 1) := by decide +kernel
theorem own_ef_sci (m : MethodId)  : entryFrame m #[(.int (0 : Int32)), (.int (1 : Int32))] 2 = mkF m 0 #[.val (.int (0 : Int32)), .val (.int (1 : Int32))] [] := by first | (simp [entryFrame, mkF, argsToLocals, Value.category]; done) | rfl
def own_Q_sci (Z : State) (vf : Value) (h0 : Heap) (n0 : Nat) (v : Option Value) (h : Heap) (L : List Loc) : Prop := v = none ∧ Fr n0 L ∧ h = h0
set_option maxRecDepth 65536 in
set_option maxHeartbeats 40000000 in
theorem own_rm_sci (l : Launch) (Z : State) (a0 : Array Value) (hw : ∀ d ∈ tables_1, d.before a0 Z = true) (ws : List Jvm.Cond) (vf : Value) (h0 : Heap) (n0 : Nat) (Z0 : n0 ≤ h0.size) (S_SIOOBE_FORMATTER : Sta Z h0 "jdk/internal/util/Preconditions" "SIOOBE_FORMATTER" "Ljava/util/function/BiFunction;" vf) (hvf : vf.isRef = true) :
    MetFree l (⟨"java/lang/String", "checkIndex", "(II)V"⟩ : MethodName) (head1 (Jvm.Cond.code (⟨"java/lang/String", "checkIndex", "(II)V"⟩ : MethodName) jdk_42_method_155_code 2 none :: ws) ({ frames := 1, cells := 0, slots := 0, locals := 14 } : Room)) (fun a U => a = #[(.int (0 : Int32)), (.int (1 : Int32))] ∧ Z.Warmed39 U.vm ∧ U.heap = h0) (fun _ _ _ _ _ => True) (fun _ U o U' => ∃ v L, o = .returned v ∧ own_Q_sci Z vf h0 n0 v U'.heap L ∧ FrameEnd U o U' L ({ frames := 1, cells := 0, slots := 0, locals := 14 } : Room).cells ({ frames := 1, cells := 0, slots := 0, locals := 14 } : Room).slots) := by
  refine MetFree.of_bodySF (plainFor_of_name own_pn1) hisR ?_
  intro p e s m args below meth c s₁ Bd hml0 hP hK
  obtain ⟨rfl, hZ, hh⟩ := hP
  have hx := Bd.exec
  have hby := Bd.bytes
  have hml : c.maxLocals = 2 := hml0
  have hown : s.vm.findClass "java/lang/String" = some m.cls := findClass_of_methodNamed Bd.named
  have hnm := (name_of_methodNamed Bd.named Bd.method).1
  have X0 : Stand p l e ({ frames := 1, cells := 0, slots := 0, locals := 14 } : Room) s m #[(.int (0 : Int32)), (.int (1 : Int32))] below meth c s₁ [] 0 0 := Stand.of_body Bd
  have e0 : s₁.heap = h0 := by rw [← hh, Bd.state]; rfl
  have N0 := Fr.nil n0
  show own_Fin p e below s (own_Q_sci Z vf h0 n0) ({ frames := 1, cells := 0, slots := 0, locals := 14 } : Room).cells ({ frames := 1, cells := 0, slots := 0, locals := 14 } : Room).slots (s₁.setTop (entryFrame m #[(.int (0 : Int32)), (.int (1 : Int32))] 2))
  refine own_Fin.go (fun t k => castTop (own_ef_sci m ) k) ?_
  refine own_Fin.go (fun t k => XS.iloadN X0.here hx rfl (hb hby own_dsci_0) rfl k) ?_
  show own_Fin _ _ _ _ _ _ _ (s₁.setTop (mkF m 1 #[.val (.int (0 : Int32)), .val (.int (1 : Int32))] [(.int (0 : Int32))]))
  refine own_Fin.go (fun t k => XS.iloadN X0.here hx rfl (hb hby own_dsci_1) rfl k) ?_
  show own_Fin _ _ _ _ _ _ _ (s₁.setTop (mkF m 2 #[.val (.int (0 : Int32)), .val (.int (1 : Int32))] [(.int (1 : Int32)), (.int (0 : Int32))]))
  obtain ⟨T1, X1, e1, st1⟩ := getS2 X0 hx hZ hown (host := "") (Or.inl (hw _ (List.mem_of_getElem? (i := 61) rfl))) Via.refl e0 S_SIOOBE_FORMATTER (g := (mkF m 2 #[.val (.int (0 : Int32)), .val (.int (1 : Int32))] [(.int (1 : Int32)), (.int (0 : Int32))])) rfl (hb hby own_dsci_2)
  refine own_Fin.go st1 ?_
  show own_Fin _ _ _ _ _ _ _ (T1.setTop (mkF m 5 #[.val (.int (0 : Int32)), .val (.int (1 : Int32))] [vf, (.int (1 : Int32)), (.int (0 : Int32))]))
  obtain ⟨_, _, ⟨T2, L2, k2, n2⟩, -, X2, ⟨Lc2, hQ2, l2, y2, z2⟩, st2⟩ := Jvm.LawKit.callS X1 hx (y := (⟨"jdk/internal/util/Preconditions", "checkIndex", "(IILjava/util/function/BiFunction;)I"⟩ : MethodName)) hown (mvT hZ (hw _ (List.mem_of_getElem? (i := 63) rfl))) (mvT hZ (hw _ (List.mem_of_getElem? (i := 64) rfl))) (mvT hZ (hw _ (List.mem_of_getElem? (i := 62) rfl))) (mvT hZ (hw _ (List.mem_of_getElem? (i := 65) rfl))) (by decide) (backOf (W := 0) (own_rm_pci l Z a0 hw [] vf  h0 n0 Z0 (by assumption)) hZ (hw _ (List.mem_of_getElem? (i := 65) rfl)) (hw _ (List.mem_of_getElem? (i := 62) rfl)) (by decide) (by decide)) (g := (mkF m 5 #[.val (.int (0 : Int32)), .val (.int (1 : Int32))] [vf, (.int (1 : Int32)), (.int (0 : Int32))])) rfl (by rw [hml]; rfl) (argsL := [(.int (0 : Int32)), (.int (1 : Int32)), vf]) (rest := []) (lenOf own_pd1 rfl) rfl (by show 2 * 0 + _ ≤ _; exact Nat.le_of_eq rfl) (hb hby own_dsci_5) (fun _ _ => ⟨rfl, e1, (by decide : 0 + 0 ≤ _), (by decide : 0 + 0 ≤ _)⟩)
  dsimp only [Pt.U, Pt.locs, Pt.cells, Pt.slots] at X2 l2 y2 z2 st2 hQ2
  subst l2 y2 z2
  obtain ⟨rfl, N2q, e2⟩ := hQ2
  refine own_Fin.go (fun t k => st2 t k) ?_
  have N2 := Fr.app N0 N2q
  show own_Fin _ _ _ _ _ _ _ (T2.setTop (mkF m 8 #[.val (.int (0 : Int32)), .val (.int (1 : Int32))] [(.int (0 : Int32))]))
  refine own_Fin.go (fun t k => XS.pop X2.here hx rfl (hb hby own_dsci_8) rfl rfl k) ?_
  show own_Fin _ _ _ _ _ _ _ (T2.setTop (mkF m 9 #[.val (.int (0 : Int32)), .val (.int (1 : Int32))] []))
  refine own_ret0 X2 hx Bd.returns (hb hby own_dsci_9) Bd.notSynchronized (by decide) (by decide) ?_
  rw [e2]
  exact ⟨rfl, N2, rfl⟩
theorem own_pd2 : parseMethodDescriptor "(II)V" = some ⟨[.int, .int], none⟩ := by decide +kernel
theorem own_dlch_0 : decode jdk_43_method_2_code 0 = .ok (.iload_n 1, 1) := by decide +kernel
theorem own_dlch_1 : decode jdk_43_method_2_code 1 = .ok (.aload_n 0, 1) := by decide +kernel
theorem own_dlch_2 : decode jdk_43_method_2_code 2 = .ok (.arraylength, 1) := by decide +kernel
theorem own_dlch_3 : decode jdk_43_method_2_code 3 = .ok (.invokestatic 9, 3) := by decide +kernel
theorem own_dlch_6 : decode jdk_43_method_2_code 6 = .ok (.aload_n 0, 1) := by decide +kernel
theorem own_dlch_7 : decode jdk_43_method_2_code 7 = .ok (.iload_n 1, 1) := by decide +kernel
theorem own_dlch_8 : decode jdk_43_method_2_code 8 = .ok (.baload, 1) := by decide +kernel
theorem own_dlch_9 : decode jdk_43_method_2_code 9 = .ok (.sipush 255, 3) := by decide +kernel
theorem own_dlch_12 : decode jdk_43_method_2_code 12 = .ok (.iand, 1) := by decide +kernel
theorem own_dlch_13 : decode jdk_43_method_2_code 13 = .ok (.i2c, 1) := by decide +kernel
theorem own_dlch_14 : decode jdk_43_method_2_code 14 = .ok (.ireturn, 1) := by decide +kernel
theorem own_pn3 : plainName "java/lang/StringLatin1" = true := by first | (simp [plainName, overriddenIn]; done) | decide +kernel
theorem own_ef_lch (m : MethodId) (ov : Addr) : entryFrame m #[(.ref ov), (.int (0 : Int32))] 2 = mkF m 0 #[.val (.ref ov), .val (.int (0 : Int32))] [] := by first | (simp [entryFrame, mkF, argsToLocals, Value.category]; done) | rfl
def own_Q_lch (Z : State) (ov : Addr) (kv : ClassId) (vf : Value) (h0 : Heap) (n0 : Nat) (v : Option Value) (h : Heap) (L : List Loc) : Prop := v = some (.int (99 : Int32)) ∧ Fr n0 L ∧ h = h0
set_option maxRecDepth 65536 in
set_option maxHeartbeats 40000000 in
theorem own_rm_lch (l : Launch) (Z : State) (a0 : Array Value) (hw : ∀ d ∈ tables_1, d.before a0 Z = true) (ws : List Jvm.Cond) (ov : Addr) (kv : ClassId) (vf : Value) (h0 : Heap) (n0 : Nat) (Z0 : n0 ≤ h0.size) (V_ov : Arv Z h0 ov kv .byte (1 : Int32) [(.int (99 : Int32))] (.int 0)) (S_SIOOBE_FORMATTER : Sta Z h0 "jdk/internal/util/Preconditions" "SIOOBE_FORMATTER" "Ljava/util/function/BiFunction;" vf) (hvf : vf.isRef = true) :
    MetFree l (⟨"java/lang/StringLatin1", "charAt", "([BI)C"⟩ : MethodName) (head1 (Jvm.Cond.code (⟨"java/lang/StringLatin1", "charAt", "([BI)C"⟩ : MethodName) jdk_43_method_2_code 2 (some .char) :: ws) ({ frames := 2, cells := 0, slots := 0, locals := 27 } : Room)) (fun a U => a = #[(.ref ov), (.int (0 : Int32))] ∧ Z.Warmed39 U.vm ∧ U.heap = h0) (fun _ _ _ _ _ => True) (fun _ U o U' => ∃ v L, o = .returned v ∧ own_Q_lch Z ov kv vf h0 n0 v U'.heap L ∧ FrameEnd U o U' L ({ frames := 2, cells := 0, slots := 0, locals := 27 } : Room).cells ({ frames := 2, cells := 0, slots := 0, locals := 27 } : Room).slots) := by
  refine MetFree.of_bodySF (plainFor_of_name own_pn3) hisR ?_
  intro p e s m args below meth c s₁ Bd hml0 hP hK
  obtain ⟨rfl, hZ, hh⟩ := hP
  have hx := Bd.exec
  have hby := Bd.bytes
  have hml : c.maxLocals = 2 := hml0
  have hown : s.vm.findClass "java/lang/StringLatin1" = some m.cls := findClass_of_methodNamed Bd.named
  have hnm := (name_of_methodNamed Bd.named Bd.method).1
  have X0 : Stand p l e ({ frames := 2, cells := 0, slots := 0, locals := 27 } : Room) s m #[(.ref ov), (.int (0 : Int32))] below meth c s₁ [] 0 0 := Stand.of_body Bd
  have e0 : s₁.heap = h0 := by rw [← hh, Bd.state]; rfl
  have N0 := Fr.nil n0
  show own_Fin p e below s (own_Q_lch Z ov kv vf h0 n0) ({ frames := 2, cells := 0, slots := 0, locals := 27 } : Room).cells ({ frames := 2, cells := 0, slots := 0, locals := 27 } : Room).slots (s₁.setTop (entryFrame m #[(.ref ov), (.int (0 : Int32))] 2))
  refine own_Fin.go (fun t k => castTop (own_ef_lch m ov) k) ?_
  refine own_Fin.go (fun t k => XS.iloadN X0.here hx rfl (hb hby own_dlch_0) rfl k) ?_
  show own_Fin _ _ _ _ _ _ _ (s₁.setTop (mkF m 1 #[.val (.ref ov), .val (.int (0 : Int32))] [(.int (0 : Int32))]))
  refine own_Fin.go (fun t k => XS.aloadN X0.here hx rfl (hb hby own_dlch_1) rfl rfl k) ?_
  show own_Fin _ _ _ _ _ _ _ (s₁.setTop (mkF m 2 #[.val (.ref ov), .val (.int (0 : Int32))] [(.ref ov), (.int (0 : Int32))]))
  obtain ⟨cl1, Ar1, -, S1, N1l, -, -⟩ := (id V_ov)
  refine own_Fin.go (fun t k => X0.arraylength hx (by rw [e0]; exact Ar1.1) (State.isArrayOf_alike hZ.alike Ar1.2.1) (g := (mkF m 2 #[.val (.ref ov), .val (.int (0 : Int32))] [(.ref ov), (.int (0 : Int32))])) rfl rfl (hb hby own_dlch_2) t k) ?_
  rw [len_of S1 N1l]
  show own_Fin _ _ _ _ _ _ _ (s₁.setTop (mkF m 3 #[.val (.ref ov), .val (.int (0 : Int32))] [(.int (1 : Int32)), (.int (0 : Int32))]))
  obtain ⟨_, _, ⟨T2, L2, k2, n2⟩, -, X2, ⟨Lc2, hQ2, l2, y2, z2⟩, st2⟩ := Jvm.LawKit.callS X0 hx (y := (⟨"java/lang/String", "checkIndex", "(II)V"⟩ : MethodName)) hown (mvT hZ (hw _ (List.mem_of_getElem? (i := 58) rfl))) (mvT hZ (hw _ (List.mem_of_getElem? (i := 59) rfl))) (mvT hZ (hw _ (List.mem_of_getElem? (i := 5) rfl))) (mvT hZ (hw _ (List.mem_of_getElem? (i := 60) rfl))) (by decide) (backOf (W := 0) (own_rm_sci l Z a0 hw []  vf h0 n0 Z0 S_SIOOBE_FORMATTER (by assumption)) hZ (hw _ (List.mem_of_getElem? (i := 60) rfl)) (hw _ (List.mem_of_getElem? (i := 5) rfl)) (by decide) (by decide)) (g := (mkF m 3 #[.val (.ref ov), .val (.int (0 : Int32))] [(.int (1 : Int32)), (.int (0 : Int32))])) rfl (by rw [hml]; rfl) (argsL := [(.int (0 : Int32)), (.int (1 : Int32))]) (rest := []) (lenOf own_pd2 rfl) rfl (by show 2 * 0 + _ ≤ _; exact Nat.le_of_eq rfl) (hb hby own_dlch_3) (fun _ _ => ⟨rfl, e0, (by decide : 0 + 0 ≤ _), (by decide : 0 + 0 ≤ _)⟩)
  dsimp only [Pt.U, Pt.locs, Pt.cells, Pt.slots] at X2 l2 y2 z2 st2 hQ2
  subst l2 y2 z2
  obtain ⟨rfl, N2q, e2⟩ := hQ2
  refine own_Fin.go (fun t k => st2 t k) ?_
  have N2 := Fr.app N0 N2q
  show own_Fin _ _ _ _ _ _ _ (T2.setTop (mkF m 6 #[.val (.ref ov), .val (.int (0 : Int32))] []))
  refine own_Fin.go (fun t k => XS.aloadN X2.here hx rfl (hb hby own_dlch_6) rfl rfl k) ?_
  show own_Fin _ _ _ _ _ _ _ (T2.setTop (mkF m 7 #[.val (.ref ov), .val (.int (0 : Int32))] [(.ref ov)]))
  refine own_Fin.go (fun t k => XS.iloadN X2.here hx rfl (hb hby own_dlch_7) rfl k) ?_
  show own_Fin _ _ _ _ _ _ _ (T2.setTop (mkF m 8 #[.val (.ref ov), .val (.int (0 : Int32))] [(.int (0 : Int32)), (.ref ov)]))
  obtain ⟨cl3, Ar3, q3, S3, N3l, H3, G3⟩ := (id V_ov)
  have hin3 : ¬ ((0 : Int32) < 0 ∨ cl3.slots.size ≤ ((0 : Int32)).toNatClampNeg) := inb_of S3 ⟨by decide, by decide⟩
  have hat3 : cl3.slots[((0 : Int32)).toNatClampNeg]? = some (.int (99 : Int32)) := Has.at H3 hin3 rfl
  refine own_Fin.go (fun t k => X2.baloadBytes hx (j := (0 : Int32)) (v := (.int (99 : Int32))) (by rw [e2]; exact Ar3.1) (State.isArrayOf_alike hZ.alike Ar3.2.1) Ar3.2.2 hin3 hat3 (g := (mkF m 8 #[.val (.ref ov), .val (.int (0 : Int32))] [(.int (0 : Int32)), (.ref ov)])) rfl rfl (hb hby own_dlch_8) t k) ?_
  show own_Fin _ _ _ _ _ _ _ (T2.setTop (mkF m 9 #[.val (.ref ov), .val (.int (0 : Int32))] [(.int (99 : Int32))]))
  refine own_Fin.go (fun t k => XS.sipush X2.here hx rfl (hb hby own_dlch_9) k) ?_
  show own_Fin _ _ _ _ _ _ _ (T2.setTop (mkF m 12 #[.val (.ref ov), .val (.int (0 : Int32))] [(.int (255 : Int32)), (.int (99 : Int32))]))
  refine own_Fin.go (fun t k => XS.iand X2.here hx rfl (hb hby own_dlch_12) rfl k) ?_
  show own_Fin _ _ _ _ _ _ _ (T2.setTop (mkF m 13 #[.val (.ref ov), .val (.int (0 : Int32))] [(.int ((99 : Int32) &&& (255 : Int32)))]))
  rw [show ((99 : Int32) &&& (255 : Int32)) = (99 : Int32) from by decide +kernel]
  show own_Fin _ _ _ _ _ _ _ (T2.setTop (mkF m 13 #[.val (.ref ov), .val (.int (0 : Int32))] [(.int (99 : Int32))]))
  refine own_Fin.go (fun t k => XS.i2c X2.here hx rfl (hb hby own_dlch_13) rfl k) ?_
  show own_Fin _ _ _ _ _ _ _ (T2.setTop (mkF m 14 #[.val (.ref ov), .val (.int (0 : Int32))] [(.int ((99 : Int32).toUInt32.toUInt16.toUInt32.toInt32))]))
  rw [show ((99 : Int32).toUInt32.toUInt16.toUInt32.toInt32) = (99 : Int32) from by decide +kernel]
  show own_Fin _ _ _ _ _ _ _ (T2.setTop (mkF m 14 #[.val (.ref ov), .val (.int (0 : Int32))] [(.int (99 : Int32))]))
  refine own_retN X2 hx (t := .char) (w := (99 : Int32)) Bd.returns (by simp) (hb hby own_dlch_14) Bd.notSynchronized rfl (by decide) (by decide) ?_
  rw [e2]
  exact ⟨rfl, N2, rfl⟩
theorem own_pd3 : parseMethodDescriptor "()Z" = some ⟨[], some .boolean⟩ := by decide +kernel
theorem own_pd4 : parseMethodDescriptor "([BI)C" = some ⟨[(.array .byte), .int], some .char⟩ := by decide +kernel
theorem own_dcha_0 : decode jdk_42_method_56_code 0 = .ok (.aload_n 0, 1) := by decide +kernel
theorem own_dcha_1 : decode jdk_42_method_56_code 1 = .ok (.invokevirtual 492, 3) := by decide +kernel
theorem own_dcha_4 : decode jdk_42_method_56_code 4 = .ok (.ifCond .eq 12, 3) := by decide +kernel
theorem own_dcha_7 : decode jdk_42_method_56_code 7 = .ok (.aload_n 0, 1) := by decide +kernel
theorem own_dcha_8 : decode jdk_42_method_56_code 8 = .ok (.getfield 9, 3) := by decide +kernel
theorem own_dcha_11 : decode jdk_42_method_56_code 11 = .ok (.iload_n 1, 1) := by decide +kernel
theorem own_dcha_12 : decode jdk_42_method_56_code 12 = .ok (.invokestatic 495, 3) := by decide +kernel
theorem own_dcha_15 : decode jdk_42_method_56_code 15 = .ok (.ireturn, 1) := by decide +kernel
theorem own_ef_cha (m : MethodId) (oa : Addr) : entryFrame m #[(.ref oa), (.int (0 : Int32))] 2 = mkF m 0 #[.val (.ref oa), .val (.int (0 : Int32))] [] := by first | (simp [entryFrame, mkF, argsToLocals, Value.category]; done) | rfl
def own_Q_cha (Z : State) (oa : Addr) (vcs : Int32) (ov : Addr) (kv : ClassId) (vf : Value) (h0 : Heap) (n0 : Nat) (v : Option Value) (h : Heap) (L : List Loc) : Prop := v = some (.int (99 : Int32)) ∧ Fr n0 L ∧ h = h0
set_option maxRecDepth 65536 in
set_option maxHeartbeats 40000000 in
theorem own_rm_cha (l : Launch) (Z : State) (a0 : Array Value) (hw : ∀ d ∈ tables_1, d.before a0 Z = true) (ws : List Jvm.Cond) (oa : Addr) (vcs : Int32) (ov : Addr) (kv : ClassId) (vf : Value) (h0 : Heap) (n0 : Nat) (Z0 : n0 ≤ h0.size) (E_oa : Exa Z h0 oa "java/lang/String") (F_oa_value : Fld Z h0 oa "java/lang/String" "value" "[B" (.ref ov)) (F_oa_coder : Fld Z h0 oa "java/lang/String" "coder" "B" (.int (0 : Int32))) (V_ov : Arv Z h0 ov kv .byte (1 : Int32) [(.int (99 : Int32))] (.int 0)) (S_COMPACT_STRINGS : Sta Z h0 "java/lang/String" "COMPACT_STRINGS" "Z" (.int vcs)) (hcs : ¬ vcs = 0) (S_SIOOBE_FORMATTER : Sta Z h0 "jdk/internal/util/Preconditions" "SIOOBE_FORMATTER" "Ljava/util/function/BiFunction;" vf) (hvf : vf.isRef = true) :
    MetFree l (⟨"java/lang/String", "charAt", "(I)C"⟩ : MethodName) (head1 (Jvm.Cond.code (⟨"java/lang/String", "charAt", "(I)C"⟩ : MethodName) jdk_42_method_56_code 2 (some .char) :: ws) ({ frames := 3, cells := 0, slots := 0, locals := 40 } : Room)) (fun a U => a = #[(.ref oa), (.int (0 : Int32))] ∧ Z.Warmed39 U.vm ∧ U.heap = h0) (fun _ _ _ _ _ => True) (fun _ U o U' => ∃ v L, o = .returned v ∧ own_Q_cha Z oa vcs ov kv vf h0 n0 v U'.heap L ∧ FrameEnd U o U' L ({ frames := 3, cells := 0, slots := 0, locals := 40 } : Room).cells ({ frames := 3, cells := 0, slots := 0, locals := 40 } : Room).slots) := by
  refine MetFree.of_bodySF (plainFor_of_name own_pn1) hisR ?_
  intro p e s m args below meth c s₁ Bd hml0 hP hK
  obtain ⟨rfl, hZ, hh⟩ := hP
  have hx := Bd.exec
  have hby := Bd.bytes
  have hml : c.maxLocals = 2 := hml0
  have hown : s.vm.findClass "java/lang/String" = some m.cls := findClass_of_methodNamed Bd.named
  have hnm := (name_of_methodNamed Bd.named Bd.method).1
  have X0 : Stand p l e ({ frames := 3, cells := 0, slots := 0, locals := 40 } : Room) s m #[(.ref oa), (.int (0 : Int32))] below meth c s₁ [] 0 0 := Stand.of_body Bd
  have e0 : s₁.heap = h0 := by rw [← hh, Bd.state]; rfl
  have N0 := Fr.nil n0
  show own_Fin p e below s (own_Q_cha Z oa vcs ov kv vf h0 n0) ({ frames := 3, cells := 0, slots := 0, locals := 40 } : Room).cells ({ frames := 3, cells := 0, slots := 0, locals := 40 } : Room).slots (s₁.setTop (entryFrame m #[(.ref oa), (.int (0 : Int32))] 2))
  refine own_Fin.go (fun t k => castTop (own_ef_cha m oa) k) ?_
  refine own_Fin.go (fun t k => XS.aloadN X0.here hx rfl (hb hby own_dcha_0) rfl rfl k) ?_
  show own_Fin _ _ _ _ _ _ _ (s₁.setTop (mkF m 1 #[.val (.ref oa), .val (.int (0 : Int32))] [(.ref oa)]))
  obtain ⟨cq1, kq1, q1a, q1b, q1c⟩ := isOf hZ e0 E_oa
  obtain ⟨_, _, ⟨T1, L1, k1, n1⟩, -, X1, ⟨Lc1, hQ1, l1, y1, z1⟩, st1⟩ := X0.virtualBack hx (y := (⟨"java/lang/String", "isLatin1", "()Z"⟩ : MethodName)) (z := (⟨"java/lang/String", "isLatin1", "()Z"⟩ : MethodName)) hown (mvT hZ (hw _ (List.mem_of_getElem? (i := 49) rfl))) (mvT hZ (hw _ (List.mem_of_getElem? (i := 50) rfl))) (notFace_of_selects (args := #[]) (mvT hZ (hw _ (List.mem_of_getElem? (i := 52) rfl)))) (mvT hZ (hw _ (List.mem_of_getElem? (i := 52) rfl))) (mvT hZ (hw _ (List.mem_of_getElem? (i := 51) rfl))) (by decide) (backOf (W := 0) (own_rm_lat l Z a0 hw [] oa vcs h0 n0 Z0 F_oa_coder S_COMPACT_STRINGS (by assumption)) hZ (hw _ (List.mem_of_getElem? (i := 53) rfl)) (hw _ (List.mem_of_getElem? (i := 5) rfl)) (by decide) (by decide)) q1a q1c (g := (mkF m 1 #[.val (.ref oa), .val (.int (0 : Int32))] [(.ref oa)])) rfl (by rw [hml]; rfl) (Steps.refl _) (argsL := []) (rest := []) (lenOf own_pd3 rfl) rfl (by show 2 * 0 + _ ≤ _; exact Nat.le_of_eq rfl) (hb hby own_dcha_1) (fun _ _ => ⟨rfl, e0, (by decide : 0 + 0 ≤ _), (by decide : 0 + 0 ≤ _)⟩)
  dsimp only [Pt.U, Pt.locs, Pt.cells, Pt.slots] at X1 l1 y1 z1 st1 hQ1
  subst l1 y1 z1
  obtain ⟨rfl, N1q, e1⟩ := hQ1
  refine own_Fin.go (fun t k => st1.trans k) ?_
  have N1 := Fr.app N0 N1q
  show own_Fin _ _ _ _ _ _ _ (T1.setTop (mkF m 4 #[.val (.ref oa), .val (.int (0 : Int32))] [(.int (1 : Int32))]))
  refine own_Fin.go (fun t k => XS.ifNo X1.here hx rfl (hb hby own_dcha_4) rfl (by decide) k) ?_
  show own_Fin _ _ _ _ _ _ _ (T1.setTop (mkF m 7 #[.val (.ref oa), .val (.int (0 : Int32))] []))
  refine own_Fin.go (fun t k => XS.aloadN X1.here hx rfl (hb hby own_dcha_7) rfl rfl k) ?_
  show own_Fin _ _ _ _ _ _ _ (T1.setTop (mkF m 8 #[.val (.ref oa), .val (.int (0 : Int32))] [(.ref oa)]))
  obtain ⟨T2, X2, e2, st2⟩ := getF X1 hx hZ hown (host := "") (Or.inl (hw _ (List.mem_of_getElem? (i := 36) rfl))) Via.refl e1 F_oa_value (g := (mkF m 8 #[.val (.ref oa), .val (.int (0 : Int32))] [(.ref oa)])) rfl rfl (hb hby own_dcha_8)
  refine own_Fin.go st2 ?_
  show own_Fin _ _ _ _ _ _ _ (T2.setTop (mkF m 11 #[.val (.ref oa), .val (.int (0 : Int32))] [(.ref ov)]))
  refine own_Fin.go (fun t k => XS.iloadN X2.here hx rfl (hb hby own_dcha_11) rfl k) ?_
  show own_Fin _ _ _ _ _ _ _ (T2.setTop (mkF m 12 #[.val (.ref oa), .val (.int (0 : Int32))] [(.int (0 : Int32)), (.ref ov)]))
  obtain ⟨_, _, ⟨T3, L3, k3, n3⟩, -, X3, ⟨Lc3, hQ3, l3, y3, z3⟩, st3⟩ := Jvm.LawKit.callS X2 hx (y := (⟨"java/lang/StringLatin1", "charAt", "([BI)C"⟩ : MethodName)) hown (mvT hZ (hw _ (List.mem_of_getElem? (i := 54) rfl))) (mvT hZ (hw _ (List.mem_of_getElem? (i := 55) rfl))) (mvT hZ (hw _ (List.mem_of_getElem? (i := 56) rfl))) (mvT hZ (hw _ (List.mem_of_getElem? (i := 57) rfl))) (by decide) (backOf (W := 0) (own_rm_lch l Z a0 hw [] ov kv vf h0 n0 Z0 V_ov S_SIOOBE_FORMATTER (by assumption)) hZ (hw _ (List.mem_of_getElem? (i := 57) rfl)) (hw _ (List.mem_of_getElem? (i := 56) rfl)) (by decide) (by decide)) (g := (mkF m 12 #[.val (.ref oa), .val (.int (0 : Int32))] [(.int (0 : Int32)), (.ref ov)])) rfl (by rw [hml]; rfl) (argsL := [(.ref ov), (.int (0 : Int32))]) (rest := []) (lenOf own_pd4 rfl) rfl (by show 2 * 0 + _ ≤ _; exact Nat.le_of_eq rfl) (hb hby own_dcha_12) (fun _ _ => ⟨rfl, e2, (by decide : 0 + 0 ≤ _), (by decide : 0 + 0 ≤ _)⟩)
  dsimp only [Pt.U, Pt.locs, Pt.cells, Pt.slots] at X3 l3 y3 z3 st3 hQ3
  subst l3 y3 z3
  obtain ⟨rfl, N3q, e3⟩ := hQ3
  refine own_Fin.go (fun t k => st3 t k) ?_
  have N3 := Fr.app N1 N3q
  show own_Fin _ _ _ _ _ _ _ (T3.setTop (mkF m 15 #[.val (.ref oa), .val (.int (0 : Int32))] [(.int (99 : Int32))]))
  refine own_retN X3 hx (t := .char) (w := (99 : Int32)) Bd.returns (by simp) (hb hby own_dcha_15) Bd.notSynchronized rfl (by decide) (by decide) ?_
  rw [e3]
  exact ⟨rfl, N3, rfl⟩
theorem own_disl_0 : decode prog_24_method_7_code 0 = .ok (.iload_n 0, 1) := by decide +kernel
theorem own_disl_1 : decode prog_24_method_7_code 1 = .ok (.bipush 97, 2) := by decide +kernel
theorem own_disl_3 : decode prog_24_method_7_code 3 = .ok (.if_icmp .lt 13, 3) := by decide +kernel
theorem own_disl_6 : decode prog_24_method_7_code 6 = .ok (.iload_n 0, 1) := by decide +kernel
theorem own_disl_7 : decode prog_24_method_7_code 7 = .ok (.bipush 122, 2) := by decide +kernel
theorem own_disl_9 : decode prog_24_method_7_code 9 = .ok (.if_icmp .gt 7, 3) := by decide +kernel
theorem own_disl_12 : decode prog_24_method_7_code 12 = .ok (.iconst 1, 1) := by decide +kernel
theorem own_disl_13 : decode prog_24_method_7_code 13 = .ok (.goto 4, 3) := by decide +kernel
theorem own_disl_17 : decode prog_24_method_7_code 17 = .ok (.ireturn, 1) := by decide +kernel
theorem own_pn4 : plainName "com/example/inrush/inrush/engine/Names" = true := by first | (simp [plainName, overriddenIn]; done) | decide +kernel
theorem own_ef_isl (m : MethodId)  : entryFrame m #[(.int (99 : Int32))] 1 = mkF m 0 #[.val (.int (99 : Int32))] [] := by first | (simp [entryFrame, mkF, argsToLocals, Value.category]; done) | rfl
def own_Q_isl (Z : State) (h0 : Heap) (n0 : Nat) (v : Option Value) (h : Heap) (L : List Loc) : Prop := v = some (.int (1 : Int32)) ∧ Fr n0 L ∧ h = h0
set_option maxRecDepth 65536 in
set_option maxHeartbeats 40000000 in
theorem own_rm_isl (l : Launch) (Z : State) (a0 : Array Value) (hw : ∀ d ∈ tables_1, d.before a0 Z = true) (ws : List Jvm.Cond) (h0 : Heap) (n0 : Nat) (Z0 : n0 ≤ h0.size) :
    MetFree l (⟨"com/example/inrush/inrush/engine/Names", "isLetter", "(C)Z"⟩ : MethodName) (head1 (Jvm.Cond.code (⟨"com/example/inrush/inrush/engine/Names", "isLetter", "(C)Z"⟩ : MethodName) prog_24_method_7_code 1 (some .boolean) :: ws) ({ frames := 0, cells := 0, slots := 0, locals := 0 } : Room)) (fun a U => a = #[(.int (99 : Int32))] ∧ Z.Warmed39 U.vm ∧ U.heap = h0) (fun _ _ _ _ _ => True) (fun _ U o U' => ∃ v L, o = .returned v ∧ own_Q_isl Z h0 n0 v U'.heap L ∧ FrameEnd U o U' L ({ frames := 0, cells := 0, slots := 0, locals := 0 } : Room).cells ({ frames := 0, cells := 0, slots := 0, locals := 0 } : Room).slots) := by
  refine MetFree.of_bodySF (plainFor_of_name own_pn4) hisR ?_
  intro p e s m args below meth c s₁ Bd hml0 hP hK
  obtain ⟨rfl, hZ, hh⟩ := hP
  have hx := Bd.exec
  have hby := Bd.bytes
  have hml : c.maxLocals = 1 := hml0
  have hown : s.vm.findClass "com/example/inrush/inrush/engine/Names" = some m.cls := findClass_of_methodNamed Bd.named
  have hnm := (name_of_methodNamed Bd.named Bd.method).1
  have X0 : Stand p l e ({ frames := 0, cells := 0, slots := 0, locals := 0 } : Room) s m #[(.int (99 : Int32))] below meth c s₁ [] 0 0 := Stand.of_body Bd
  have e0 : s₁.heap = h0 := by rw [← hh, Bd.state]; rfl
  have N0 := Fr.nil n0
  show own_Fin p e below s (own_Q_isl Z h0 n0) ({ frames := 0, cells := 0, slots := 0, locals := 0 } : Room).cells ({ frames := 0, cells := 0, slots := 0, locals := 0 } : Room).slots (s₁.setTop (entryFrame m #[(.int (99 : Int32))] 1))
  refine own_Fin.go (fun t k => castTop (own_ef_isl m ) k) ?_
  refine own_Fin.go (fun t k => XS.iloadN X0.here hx rfl (hb hby own_disl_0) rfl k) ?_
  show own_Fin _ _ _ _ _ _ _ (s₁.setTop (mkF m 1 #[.val (.int (99 : Int32))] [(.int (99 : Int32))]))
  refine own_Fin.go (fun t k => XS.bipush X0.here hx rfl (hb hby own_disl_1) k) ?_
  show own_Fin _ _ _ _ _ _ _ (s₁.setTop (mkF m 3 #[.val (.int (99 : Int32))] [(.int (97 : Int32)), (.int (99 : Int32))]))
  refine own_Fin.go (fun t k => XS.icmpNo X0.here hx rfl (hb hby own_disl_3) rfl (by decide) k) ?_
  show own_Fin _ _ _ _ _ _ _ (s₁.setTop (mkF m 6 #[.val (.int (99 : Int32))] []))
  refine own_Fin.go (fun t k => XS.iloadN X0.here hx rfl (hb hby own_disl_6) rfl k) ?_
  show own_Fin _ _ _ _ _ _ _ (s₁.setTop (mkF m 7 #[.val (.int (99 : Int32))] [(.int (99 : Int32))]))
  refine own_Fin.go (fun t k => XS.bipush X0.here hx rfl (hb hby own_disl_7) k) ?_
  show own_Fin _ _ _ _ _ _ _ (s₁.setTop (mkF m 9 #[.val (.int (99 : Int32))] [(.int (122 : Int32)), (.int (99 : Int32))]))
  refine own_Fin.go (fun t k => XS.icmpNo X0.here hx rfl (hb hby own_disl_9) rfl (by decide) k) ?_
  show own_Fin _ _ _ _ _ _ _ (s₁.setTop (mkF m 12 #[.val (.int (99 : Int32))] []))
  refine own_Fin.go (fun t k => XS.iconst X0.here hx rfl (hb hby own_disl_12) k) ?_
  show own_Fin _ _ _ _ _ _ _ (s₁.setTop (mkF m 13 #[.val (.int (99 : Int32))] [(.int (1 : Int32))]))
  refine own_Fin.go (fun t k => XS.goto X0.here hx rfl (pc0 := 13) (pc' := 17) rfl (hb hby own_disl_13) (by decide) (by decide) k) ?_
  show own_Fin _ _ _ _ _ _ _ (s₁.setTop (mkF m 17 #[.val (.int (99 : Int32))] [(.int (1 : Int32))]))
  refine own_retN X0 hx (t := .boolean) (w := (1 : Int32)) Bd.returns (by simp) (hb hby own_disl_17) Bd.notSynchronized rfl (by decide) (by decide) ?_
  rw [e0]
  exact ⟨rfl, N0, rfl⟩
theorem own_pd5 : parseMethodDescriptor "()I" = some ⟨[], some .int⟩ := by decide +kernel
theorem own_pd6 : parseMethodDescriptor "(I)C" = some ⟨[.int], some .char⟩ := by decide +kernel
theorem own_pd7 : parseMethodDescriptor "(C)Z" = some ⟨[.char], some .boolean⟩ := by decide +kernel
theorem own_disn_0 : decode prog_24_method_6_code 0 = .ok (.aload_n 0, 1) := by decide +kernel
theorem own_disn_1 : decode prog_24_method_6_code 1 = .ok (.invokevirtual 40, 3) := by decide +kernel
theorem own_disn_4 : decode prog_24_method_6_code 4 = .ok (.istore_n 3, 1) := by decide +kernel
theorem own_disn_5 : decode prog_24_method_6_code 5 = .ok (.iload_n 3, 1) := by decide +kernel
theorem own_disn_6 : decode prog_24_method_6_code 6 = .ok (.ifCond .eq 8, 3) := by decide +kernel
theorem own_disn_9 : decode prog_24_method_6_code 9 = .ok (.iload_n 3, 1) := by decide +kernel
theorem own_disn_10 : decode prog_24_method_6_code 10 = .ok (.iload_n 1, 1) := by decide +kernel
theorem own_disn_11 : decode prog_24_method_6_code 11 = .ok (.if_icmp .le 5, 3) := by decide +kernel
theorem own_disn_16 : decode prog_24_method_6_code 16 = .ok (.iconst 0, 1) := by decide +kernel
theorem own_disn_17 : decode prog_24_method_6_code 17 = .ok (.istore 4, 2) := by decide +kernel
theorem own_disn_19 : decode prog_24_method_6_code 19 = .ok (.iload 4, 2) := by decide +kernel
theorem own_disn_21 : decode prog_24_method_6_code 21 = .ok (.iload_n 3, 1) := by decide +kernel
theorem own_disn_22 : decode prog_24_method_6_code 22 = .ok (.if_icmp .ge 52, 3) := by decide +kernel
theorem own_disn_25 : decode prog_24_method_6_code 25 = .ok (.aload_n 0, 1) := by decide +kernel
theorem own_disn_26 : decode prog_24_method_6_code 26 = .ok (.iload 4, 2) := by decide +kernel
theorem own_disn_28 : decode prog_24_method_6_code 28 = .ok (.invokevirtual 20, 3) := by decide +kernel
theorem own_disn_31 : decode prog_24_method_6_code 31 = .ok (.istore 5, 2) := by decide +kernel
theorem own_disn_33 : decode prog_24_method_6_code 33 = .ok (.iload 5, 2) := by decide +kernel
theorem own_disn_35 : decode prog_24_method_6_code 35 = .ok (.invokestatic 26, 3) := by decide +kernel
theorem own_disn_38 : decode prog_24_method_6_code 38 = .ok (.ifCond .ne 30, 3) := by decide +kernel
theorem own_disn_68 : decode prog_24_method_6_code 68 = .ok (.iinc 4 1, 3) := by decide +kernel
theorem own_disn_71 : decode prog_24_method_6_code 71 = .ok (.goto (-52), 3) := by decide +kernel
theorem own_disn_74 : decode prog_24_method_6_code 74 = .ok (.iconst 1, 1) := by decide +kernel
theorem own_disn_75 : decode prog_24_method_6_code 75 = .ok (.ireturn, 1) := by decide +kernel
theorem own_ef_isn (m : MethodId) (oa : Addr) : entryFrame m #[(.ref oa), (.int (32 : Int32)), (.int (1 : Int32))] 6 = mkF m 0 #[.val (.ref oa), .val (.int (32 : Int32)), .val (.int (1 : Int32)), .unset, .unset, .unset] [] := by first | (simp [entryFrame, mkF, argsToLocals, Value.category]; done) | rfl
def own_Q_isn (Z : State) (oa : Addr) (vcs : Int32) (ov : Addr) (kv : ClassId) (vf : Value) (h0 : Heap) (n0 : Nat) (v : Option Value) (h : Heap) (L : List Loc) : Prop := v = some (.int (1 : Int32)) ∧ Fr n0 L ∧ h = h0
set_option maxRecDepth 65536 in
set_option maxHeartbeats 40000000 in
theorem own_rm_isn (l : Launch) (Z : State) (a0 : Array Value) (hw : ∀ d ∈ tables_1, d.before a0 Z = true) (ws : List Jvm.Cond) (oa : Addr) (vcs : Int32) (ov : Addr) (kv : ClassId) (vf : Value) (h0 : Heap) (n0 : Nat) (Z0 : n0 ≤ h0.size) (E_oa : Exa Z h0 oa "java/lang/String") (F_oa_value : Fld Z h0 oa "java/lang/String" "value" "[B" (.ref ov)) (F_oa_coder : Fld Z h0 oa "java/lang/String" "coder" "B" (.int (0 : Int32))) (V_ov : Arv Z h0 ov kv .byte (1 : Int32) [(.int (99 : Int32))] (.int 0)) (S_COMPACT_STRINGS : Sta Z h0 "java/lang/String" "COMPACT_STRINGS" "Z" (.int vcs)) (hcs : ¬ vcs = 0) (S_SIOOBE_FORMATTER : Sta Z h0 "jdk/internal/util/Preconditions" "SIOOBE_FORMATTER" "Ljava/util/function/BiFunction;" vf) (hvf : vf.isRef = true) :
    MetFree l (⟨"com/example/inrush/inrush/engine/Names", "isName", "(Ljava/lang/String;IZ)Z"⟩ : MethodName) (head1 (Jvm.Cond.code (⟨"com/example/inrush/inrush/engine/Names", "isName", "(Ljava/lang/String;IZ)Z"⟩ : MethodName) prog_24_method_6_code 6 (some .boolean) :: ws) ({ frames := 4, cells := 0, slots := 0, locals := 53 } : Room)) (fun a U => a = #[(.ref oa), (.int (32 : Int32)), (.int (1 : Int32))] ∧ Z.Warmed39 U.vm ∧ U.heap = h0) (fun _ _ _ _ _ => True) (fun _ U o U' => ∃ v L, o = .returned v ∧ own_Q_isn Z oa vcs ov kv vf h0 n0 v U'.heap L ∧ FrameEnd U o U' L ({ frames := 4, cells := 0, slots := 0, locals := 53 } : Room).cells ({ frames := 4, cells := 0, slots := 0, locals := 53 } : Room).slots) := by
  refine MetFree.of_bodySF (plainFor_of_name own_pn4) hisR ?_
  intro p e s m args below meth c s₁ Bd hml0 hP hK
  obtain ⟨rfl, hZ, hh⟩ := hP
  have hx := Bd.exec
  have hby := Bd.bytes
  have hml : c.maxLocals = 6 := hml0
  have hown : s.vm.findClass "com/example/inrush/inrush/engine/Names" = some m.cls := findClass_of_methodNamed Bd.named
  have hnm := (name_of_methodNamed Bd.named Bd.method).1
  have X0 : Stand p l e ({ frames := 4, cells := 0, slots := 0, locals := 53 } : Room) s m #[(.ref oa), (.int (32 : Int32)), (.int (1 : Int32))] below meth c s₁ [] 0 0 := Stand.of_body Bd
  have e0 : s₁.heap = h0 := by rw [← hh, Bd.state]; rfl
  have N0 := Fr.nil n0
  show own_Fin p e below s (own_Q_isn Z oa vcs ov kv vf h0 n0) ({ frames := 4, cells := 0, slots := 0, locals := 53 } : Room).cells ({ frames := 4, cells := 0, slots := 0, locals := 53 } : Room).slots (s₁.setTop (entryFrame m #[(.ref oa), (.int (32 : Int32)), (.int (1 : Int32))] 6))
  refine own_Fin.go (fun t k => castTop (own_ef_isn m oa) k) ?_
  refine own_Fin.go (fun t k => XS.aloadN X0.here hx rfl (hb hby own_disn_0) rfl rfl k) ?_
  show own_Fin _ _ _ _ _ _ _ (s₁.setTop (mkF m 1 #[.val (.ref oa), .val (.int (32 : Int32)), .val (.int (1 : Int32)), .unset, .unset, .unset] [(.ref oa)]))
  obtain ⟨cq1, kq1, q1a, q1b, q1c⟩ := isOf hZ e0 E_oa
  obtain ⟨_, _, ⟨T1, L1, k1, n1⟩, -, X1, ⟨Lc1, hQ1, l1, y1, z1⟩, st1⟩ := X0.virtualBack hx (y := (⟨"java/lang/String", "length", "()I"⟩ : MethodName)) (z := (⟨"java/lang/String", "length", "()I"⟩ : MethodName)) hown (mvT hZ (hw _ (List.mem_of_getElem? (i := 31) rfl))) (mvT hZ (hw _ (List.mem_of_getElem? (i := 32) rfl))) (notFace_of_selects (args := #[]) (mvT hZ (hw _ (List.mem_of_getElem? (i := 34) rfl)))) (mvT hZ (hw _ (List.mem_of_getElem? (i := 34) rfl))) (mvT hZ (hw _ (List.mem_of_getElem? (i := 33) rfl))) (by decide) (backOf (W := 0) (own_rm_len l Z a0 hw [] oa vcs ov kv h0 n0 Z0 E_oa F_oa_value F_oa_coder V_ov S_COMPACT_STRINGS (by assumption)) hZ (hw _ (List.mem_of_getElem? (i := 35) rfl)) (hw _ (List.mem_of_getElem? (i := 5) rfl)) (by decide) (by decide)) q1a q1c (g := (mkF m 1 #[.val (.ref oa), .val (.int (32 : Int32)), .val (.int (1 : Int32)), .unset, .unset, .unset] [(.ref oa)])) rfl (by rw [hml]; rfl) (Steps.refl _) (argsL := []) (rest := []) (lenOf own_pd5 rfl) rfl (by show 2 * 0 + _ ≤ _; exact Nat.le_of_eq rfl) (hb hby own_disn_1) (fun _ _ => ⟨rfl, e0, (by decide : 0 + 0 ≤ _), (by decide : 0 + 0 ≤ _)⟩)
  dsimp only [Pt.U, Pt.locs, Pt.cells, Pt.slots] at X1 l1 y1 z1 st1 hQ1
  subst l1 y1 z1
  obtain ⟨rfl, N1q, e1⟩ := hQ1
  refine own_Fin.go (fun t k => st1.trans k) ?_
  have N1 := Fr.app N0 N1q
  show own_Fin _ _ _ _ _ _ _ (T1.setTop (mkF m 4 #[.val (.ref oa), .val (.int (32 : Int32)), .val (.int (1 : Int32)), .unset, .unset, .unset] [(.int (1 : Int32))]))
  refine own_Fin.go (fun t k => XS.istoreN X1.here hx rfl (hb hby own_disn_4) rfl (l' := #[.val (.ref oa), .val (.int (32 : Int32)), .val (.int (1 : Int32)), .val (.int (1 : Int32)), .unset, .unset]) rfl k) ?_
  show own_Fin _ _ _ _ _ _ _ (T1.setTop (mkF m 5 #[.val (.ref oa), .val (.int (32 : Int32)), .val (.int (1 : Int32)), .val (.int (1 : Int32)), .unset, .unset] []))
  refine own_Fin.go (fun t k => XS.iloadN X1.here hx rfl (hb hby own_disn_5) rfl k) ?_
  show own_Fin _ _ _ _ _ _ _ (T1.setTop (mkF m 6 #[.val (.ref oa), .val (.int (32 : Int32)), .val (.int (1 : Int32)), .val (.int (1 : Int32)), .unset, .unset] [(.int (1 : Int32))]))
  refine own_Fin.go (fun t k => XS.ifNo X1.here hx rfl (hb hby own_disn_6) rfl (by decide) k) ?_
  show own_Fin _ _ _ _ _ _ _ (T1.setTop (mkF m 9 #[.val (.ref oa), .val (.int (32 : Int32)), .val (.int (1 : Int32)), .val (.int (1 : Int32)), .unset, .unset] []))
  refine own_Fin.go (fun t k => XS.iloadN X1.here hx rfl (hb hby own_disn_9) rfl k) ?_
  show own_Fin _ _ _ _ _ _ _ (T1.setTop (mkF m 10 #[.val (.ref oa), .val (.int (32 : Int32)), .val (.int (1 : Int32)), .val (.int (1 : Int32)), .unset, .unset] [(.int (1 : Int32))]))
  refine own_Fin.go (fun t k => XS.iloadN X1.here hx rfl (hb hby own_disn_10) rfl k) ?_
  show own_Fin _ _ _ _ _ _ _ (T1.setTop (mkF m 11 #[.val (.ref oa), .val (.int (32 : Int32)), .val (.int (1 : Int32)), .val (.int (1 : Int32)), .unset, .unset] [(.int (32 : Int32)), (.int (1 : Int32))]))
  refine own_Fin.go (fun t k => XS.icmpYes X1.here hx rfl (pc0 := 11) (pc' := 16) rfl (hb hby own_disn_11) rfl (by decide) (by decide) (by decide) k) ?_
  show own_Fin _ _ _ _ _ _ _ (T1.setTop (mkF m 16 #[.val (.ref oa), .val (.int (32 : Int32)), .val (.int (1 : Int32)), .val (.int (1 : Int32)), .unset, .unset] []))
  refine own_Fin.go (fun t k => XS.iconst X1.here hx rfl (hb hby own_disn_16) k) ?_
  show own_Fin _ _ _ _ _ _ _ (T1.setTop (mkF m 17 #[.val (.ref oa), .val (.int (32 : Int32)), .val (.int (1 : Int32)), .val (.int (1 : Int32)), .unset, .unset] [(.int (0 : Int32))]))
  refine own_Fin.go (fun t k => XS.istore X1.here hx rfl (hb hby own_disn_17) rfl (l' := #[.val (.ref oa), .val (.int (32 : Int32)), .val (.int (1 : Int32)), .val (.int (1 : Int32)), .val (.int (0 : Int32)), .unset]) rfl k) ?_
  show own_Fin _ _ _ _ _ _ _ (T1.setTop (mkF m 19 #[.val (.ref oa), .val (.int (32 : Int32)), .val (.int (1 : Int32)), .val (.int (1 : Int32)), .val (.int (0 : Int32)), .unset] []))
  refine own_Fin.go (fun t k => XS.iload X1.here hx rfl (hb hby own_disn_19) rfl k) ?_
  show own_Fin _ _ _ _ _ _ _ (T1.setTop (mkF m 21 #[.val (.ref oa), .val (.int (32 : Int32)), .val (.int (1 : Int32)), .val (.int (1 : Int32)), .val (.int (0 : Int32)), .unset] [(.int (0 : Int32))]))
  refine own_Fin.go (fun t k => XS.iloadN X1.here hx rfl (hb hby own_disn_21) rfl k) ?_
  show own_Fin _ _ _ _ _ _ _ (T1.setTop (mkF m 22 #[.val (.ref oa), .val (.int (32 : Int32)), .val (.int (1 : Int32)), .val (.int (1 : Int32)), .val (.int (0 : Int32)), .unset] [(.int (1 : Int32)), (.int (0 : Int32))]))
  refine own_Fin.go (fun t k => XS.icmpNo X1.here hx rfl (hb hby own_disn_22) rfl (by decide) k) ?_
  show own_Fin _ _ _ _ _ _ _ (T1.setTop (mkF m 25 #[.val (.ref oa), .val (.int (32 : Int32)), .val (.int (1 : Int32)), .val (.int (1 : Int32)), .val (.int (0 : Int32)), .unset] []))
  refine own_Fin.go (fun t k => XS.aloadN X1.here hx rfl (hb hby own_disn_25) rfl rfl k) ?_
  show own_Fin _ _ _ _ _ _ _ (T1.setTop (mkF m 26 #[.val (.ref oa), .val (.int (32 : Int32)), .val (.int (1 : Int32)), .val (.int (1 : Int32)), .val (.int (0 : Int32)), .unset] [(.ref oa)]))
  refine own_Fin.go (fun t k => XS.iload X1.here hx rfl (hb hby own_disn_26) rfl k) ?_
  show own_Fin _ _ _ _ _ _ _ (T1.setTop (mkF m 28 #[.val (.ref oa), .val (.int (32 : Int32)), .val (.int (1 : Int32)), .val (.int (1 : Int32)), .val (.int (0 : Int32)), .unset] [(.int (0 : Int32)), (.ref oa)]))
  obtain ⟨cq2, kq2, q2a, q2b, q2c⟩ := isOf hZ e1 E_oa
  obtain ⟨_, _, ⟨T2, L2, k2, n2⟩, -, X2, ⟨Lc2, hQ2, l2, y2, z2⟩, st2⟩ := X1.virtualBack hx (y := (⟨"java/lang/String", "charAt", "(I)C"⟩ : MethodName)) (z := (⟨"java/lang/String", "charAt", "(I)C"⟩ : MethodName)) hown (mvT hZ (hw _ (List.mem_of_getElem? (i := 44) rfl))) (mvT hZ (hw _ (List.mem_of_getElem? (i := 45) rfl))) (notFace_of_selects (args := #[]) (mvT hZ (hw _ (List.mem_of_getElem? (i := 47) rfl)))) (mvT hZ (hw _ (List.mem_of_getElem? (i := 47) rfl))) (mvT hZ (hw _ (List.mem_of_getElem? (i := 46) rfl))) (by decide) (backOf (W := 0) (own_rm_cha l Z a0 hw [] oa vcs ov kv vf h0 n0 Z0 E_oa F_oa_value F_oa_coder V_ov S_COMPACT_STRINGS (by assumption) S_SIOOBE_FORMATTER (by assumption)) hZ (hw _ (List.mem_of_getElem? (i := 48) rfl)) (hw _ (List.mem_of_getElem? (i := 5) rfl)) (by decide) (by decide)) q2a q2c (g := (mkF m 28 #[.val (.ref oa), .val (.int (32 : Int32)), .val (.int (1 : Int32)), .val (.int (1 : Int32)), .val (.int (0 : Int32)), .unset] [(.int (0 : Int32)), (.ref oa)])) rfl (by rw [hml]; rfl) (Steps.refl _) (argsL := [(.int (0 : Int32))]) (rest := []) (lenOf own_pd6 rfl) rfl (by show 2 * 0 + _ ≤ _; exact Nat.le_of_eq rfl) (hb hby own_disn_28) (fun _ _ => ⟨rfl, e1, (by decide : 0 + 0 ≤ _), (by decide : 0 + 0 ≤ _)⟩)
  dsimp only [Pt.U, Pt.locs, Pt.cells, Pt.slots] at X2 l2 y2 z2 st2 hQ2
  subst l2 y2 z2
  obtain ⟨rfl, N2q, e2⟩ := hQ2
  refine own_Fin.go (fun t k => st2.trans k) ?_
  have N2 := Fr.app N1 N2q
  show own_Fin _ _ _ _ _ _ _ (T2.setTop (mkF m 31 #[.val (.ref oa), .val (.int (32 : Int32)), .val (.int (1 : Int32)), .val (.int (1 : Int32)), .val (.int (0 : Int32)), .unset] [(.int (99 : Int32))]))
  refine own_Fin.go (fun t k => XS.istore X2.here hx rfl (hb hby own_disn_31) rfl (l' := #[.val (.ref oa), .val (.int (32 : Int32)), .val (.int (1 : Int32)), .val (.int (1 : Int32)), .val (.int (0 : Int32)), .val (.int (99 : Int32))]) rfl k) ?_
  show own_Fin _ _ _ _ _ _ _ (T2.setTop (mkF m 33 #[.val (.ref oa), .val (.int (32 : Int32)), .val (.int (1 : Int32)), .val (.int (1 : Int32)), .val (.int (0 : Int32)), .val (.int (99 : Int32))] []))
  refine own_Fin.go (fun t k => XS.iload X2.here hx rfl (hb hby own_disn_33) rfl k) ?_
  show own_Fin _ _ _ _ _ _ _ (T2.setTop (mkF m 35 #[.val (.ref oa), .val (.int (32 : Int32)), .val (.int (1 : Int32)), .val (.int (1 : Int32)), .val (.int (0 : Int32)), .val (.int (99 : Int32))] [(.int (99 : Int32))]))
  obtain ⟨_, _, ⟨T3, L3, k3, n3⟩, -, X3, ⟨Lc3, hQ3, l3, y3, z3⟩, st3⟩ := Jvm.LawKit.callS X2 hx (y := (⟨"com/example/inrush/inrush/engine/Names", "isLetter", "(C)Z"⟩ : MethodName)) hown (mvT hZ (hw _ (List.mem_of_getElem? (i := 66) rfl))) (mvT hZ (hw _ (List.mem_of_getElem? (i := 67) rfl))) (mvT hZ (hw _ (List.mem_of_getElem? (i := 26) rfl))) (mvT hZ (hw _ (List.mem_of_getElem? (i := 68) rfl))) (by decide) (backOf (W := 0) (own_rm_isl l Z a0 hw []   h0 n0 Z0 ) hZ (hw _ (List.mem_of_getElem? (i := 68) rfl)) (hw _ (List.mem_of_getElem? (i := 26) rfl)) (by decide) (by decide)) (g := (mkF m 35 #[.val (.ref oa), .val (.int (32 : Int32)), .val (.int (1 : Int32)), .val (.int (1 : Int32)), .val (.int (0 : Int32)), .val (.int (99 : Int32))] [(.int (99 : Int32))])) rfl (by rw [hml]; rfl) (argsL := [(.int (99 : Int32))]) (rest := []) (lenOf own_pd7 rfl) rfl (by show 2 * 0 + _ ≤ _; exact Nat.le_of_eq rfl) (hb hby own_disn_35) (fun _ _ => ⟨rfl, e2, (by decide : 0 + 0 ≤ _), (by decide : 0 + 0 ≤ _)⟩)
  dsimp only [Pt.U, Pt.locs, Pt.cells, Pt.slots] at X3 l3 y3 z3 st3 hQ3
  subst l3 y3 z3
  obtain ⟨rfl, N3q, e3⟩ := hQ3
  refine own_Fin.go (fun t k => st3 t k) ?_
  have N3 := Fr.app N2 N3q
  show own_Fin _ _ _ _ _ _ _ (T3.setTop (mkF m 38 #[.val (.ref oa), .val (.int (32 : Int32)), .val (.int (1 : Int32)), .val (.int (1 : Int32)), .val (.int (0 : Int32)), .val (.int (99 : Int32))] [(.int (1 : Int32))]))
  refine own_Fin.go (fun t k => XS.ifYes X3.here hx rfl (pc0 := 38) (pc' := 68) rfl (hb hby own_disn_38) rfl (by decide) (by decide) (by decide) k) ?_
  show own_Fin _ _ _ _ _ _ _ (T3.setTop (mkF m 68 #[.val (.ref oa), .val (.int (32 : Int32)), .val (.int (1 : Int32)), .val (.int (1 : Int32)), .val (.int (0 : Int32)), .val (.int (99 : Int32))] []))
  refine own_Fin.go (fun t k => XS.iinc X3.here hx rfl (hb hby own_disn_68) rfl (l' := #[.val (.ref oa), .val (.int (32 : Int32)), .val (.int (1 : Int32)), .val (.int (1 : Int32)), .val (.int ((0 : Int32) + (1 : Int32))), .val (.int (99 : Int32))]) rfl k) ?_
  show own_Fin _ _ _ _ _ _ _ (T3.setTop (mkF m 71 #[.val (.ref oa), .val (.int (32 : Int32)), .val (.int (1 : Int32)), .val (.int (1 : Int32)), .val (.int ((0 : Int32) + (1 : Int32))), .val (.int (99 : Int32))] []))
  rw [show ((0 : Int32) + (1 : Int32)) = (1 : Int32) from by decide +kernel]
  show own_Fin _ _ _ _ _ _ _ (T3.setTop (mkF m 71 #[.val (.ref oa), .val (.int (32 : Int32)), .val (.int (1 : Int32)), .val (.int (1 : Int32)), .val (.int (1 : Int32)), .val (.int (99 : Int32))] []))
  refine own_Fin.go (fun t k => XS.goto X3.here hx rfl (pc0 := 71) (pc' := 19) rfl (hb hby own_disn_71) (by decide) (by decide) k) ?_
  show own_Fin _ _ _ _ _ _ _ (T3.setTop (mkF m 19 #[.val (.ref oa), .val (.int (32 : Int32)), .val (.int (1 : Int32)), .val (.int (1 : Int32)), .val (.int (1 : Int32)), .val (.int (99 : Int32))] []))
  refine own_Fin.go (fun t k => XS.iload X3.here hx rfl (hb hby own_disn_19) rfl k) ?_
  show own_Fin _ _ _ _ _ _ _ (T3.setTop (mkF m 21 #[.val (.ref oa), .val (.int (32 : Int32)), .val (.int (1 : Int32)), .val (.int (1 : Int32)), .val (.int (1 : Int32)), .val (.int (99 : Int32))] [(.int (1 : Int32))]))
  refine own_Fin.go (fun t k => XS.iloadN X3.here hx rfl (hb hby own_disn_21) rfl k) ?_
  show own_Fin _ _ _ _ _ _ _ (T3.setTop (mkF m 22 #[.val (.ref oa), .val (.int (32 : Int32)), .val (.int (1 : Int32)), .val (.int (1 : Int32)), .val (.int (1 : Int32)), .val (.int (99 : Int32))] [(.int (1 : Int32)), (.int (1 : Int32))]))
  refine own_Fin.go (fun t k => XS.icmpYes X3.here hx rfl (pc0 := 22) (pc' := 74) rfl (hb hby own_disn_22) rfl (by decide) (by decide) (by decide) k) ?_
  show own_Fin _ _ _ _ _ _ _ (T3.setTop (mkF m 74 #[.val (.ref oa), .val (.int (32 : Int32)), .val (.int (1 : Int32)), .val (.int (1 : Int32)), .val (.int (1 : Int32)), .val (.int (99 : Int32))] []))
  refine own_Fin.go (fun t k => XS.iconst X3.here hx rfl (hb hby own_disn_74) k) ?_
  show own_Fin _ _ _ _ _ _ _ (T3.setTop (mkF m 75 #[.val (.ref oa), .val (.int (32 : Int32)), .val (.int (1 : Int32)), .val (.int (1 : Int32)), .val (.int (1 : Int32)), .val (.int (99 : Int32))] [(.int (1 : Int32))]))
  refine own_retN X3 hx (t := .boolean) (w := (1 : Int32)) Bd.returns (by simp) (hb hby own_disn_75) Bd.notSynchronized rfl (by decide) (by decide) ?_
  rw [e3]
  exact ⟨rfl, N3, rfl⟩
theorem own_pd8 : parseMethodDescriptor "(Ljava/lang/String;IZ)Z" = some ⟨[(.object "java/lang/String"), .int, .boolean], some .boolean⟩ := by decide +kernel
theorem own_dchk_0 : decode prog_24_method_3_code 0 = .ok (.aload_n 0, 1) := by decide +kernel
theorem own_dchk_1 : decode prog_24_method_3_code 1 = .ok (.bipush 32, 2) := by decide +kernel
theorem own_dchk_3 : decode prog_24_method_3_code 3 = .ok (.iconst 1, 1) := by decide +kernel
theorem own_dchk_4 : decode prog_24_method_3_code 4 = .ok (.invokestatic 9, 3) := by decide +kernel
theorem own_dchk_7 : decode prog_24_method_3_code 7 = .ok (.ifCond .eq 14, 3) := by decide +kernel
theorem own_dchk_10 : decode prog_24_method_3_code 10 = .ok (.aload_n 0, 1) := by decide +kernel
theorem own_dchk_11 : decode prog_24_method_3_code 11 = .ok (.iconst 0, 1) := by decide +kernel
theorem own_dchk_12 : decode prog_24_method_3_code 12 = .ok (.invokevirtual 20, 3) := by decide +kernel
theorem own_dchk_15 : decode prog_24_method_3_code 15 = .ok (.invokestatic 26, 3) := by decide +kernel
theorem own_dchk_18 : decode prog_24_method_3_code 18 = .ok (.ifCond .ne 13, 3) := by decide +kernel
theorem own_dchk_31 : decode prog_24_method_3_code 31 = .ok (.aload_n 0, 1) := by decide +kernel
theorem own_dchk_32 : decode prog_24_method_3_code 32 = .ok (.areturn, 1) := by decide +kernel
theorem own_ef_chk (m : MethodId) (oa : Addr) : entryFrame m #[(.ref oa)] 1 = mkF m 0 #[.val (.ref oa)] [] := by first | (simp [entryFrame, mkF, argsToLocals, Value.category]; done) | rfl
def own_Q_chk (Z : State) (oa : Addr) (vcs : Int32) (ov : Addr) (kv : ClassId) (vf : Value) (h0 : Heap) (n0 : Nat) (v : Option Value) (h : Heap) (L : List Loc) : Prop := v = some (.ref oa) ∧ Fr n0 L ∧ h = h0
set_option maxRecDepth 65536 in
set_option maxHeartbeats 40000000 in
theorem own_rm_chk (l : Launch) (Z : State) (a0 : Array Value) (hw : ∀ d ∈ tables_1, d.before a0 Z = true) (ws : List Jvm.Cond) (oa : Addr) (vcs : Int32) (ov : Addr) (kv : ClassId) (vf : Value) (h0 : Heap) (n0 : Nat) (Z0 : n0 ≤ h0.size) (E_oa : Exa Z h0 oa "java/lang/String") (F_oa_value : Fld Z h0 oa "java/lang/String" "value" "[B" (.ref ov)) (F_oa_coder : Fld Z h0 oa "java/lang/String" "coder" "B" (.int (0 : Int32))) (V_ov : Arv Z h0 ov kv .byte (1 : Int32) [(.int (99 : Int32))] (.int 0)) (S_COMPACT_STRINGS : Sta Z h0 "java/lang/String" "COMPACT_STRINGS" "Z" (.int vcs)) (hcs : ¬ vcs = 0) (S_SIOOBE_FORMATTER : Sta Z h0 "jdk/internal/util/Preconditions" "SIOOBE_FORMATTER" "Ljava/util/function/BiFunction;" vf) (hvf : vf.isRef = true) :
    MetFree l (⟨"com/example/inrush/inrush/engine/Names", "checkCounter", "(Ljava/lang/String;)Ljava/lang/String;"⟩ : MethodName) (head1 (Jvm.Cond.code (⟨"com/example/inrush/inrush/engine/Names", "checkCounter", "(Ljava/lang/String;)Ljava/lang/String;"⟩ : MethodName) prog_24_method_3_code 1 (some (.object "java/lang/String")) :: ws) ({ frames := 5, cells := 0, slots := 0, locals := 70 } : Room)) (fun a U => a = #[(.ref oa)] ∧ Z.Warmed39 U.vm ∧ U.heap = h0) (fun _ _ _ _ _ => True) (fun _ U o U' => ∃ v L, o = .returned v ∧ own_Q_chk Z oa vcs ov kv vf h0 n0 v U'.heap L ∧ FrameEnd U o U' L ({ frames := 5, cells := 0, slots := 0, locals := 70 } : Room).cells ({ frames := 5, cells := 0, slots := 0, locals := 70 } : Room).slots) := by
  refine MetFree.of_bodySF (plainFor_of_name own_pn4) hisR ?_
  intro p e s m args below meth c s₁ Bd hml0 hP hK
  obtain ⟨rfl, hZ, hh⟩ := hP
  have hx := Bd.exec
  have hby := Bd.bytes
  have hml : c.maxLocals = 1 := hml0
  have hown : s.vm.findClass "com/example/inrush/inrush/engine/Names" = some m.cls := findClass_of_methodNamed Bd.named
  have hnm := (name_of_methodNamed Bd.named Bd.method).1
  have X0 : Stand p l e ({ frames := 5, cells := 0, slots := 0, locals := 70 } : Room) s m #[(.ref oa)] below meth c s₁ [] 0 0 := Stand.of_body Bd
  have e0 : s₁.heap = h0 := by rw [← hh, Bd.state]; rfl
  have N0 := Fr.nil n0
  show own_Fin p e below s (own_Q_chk Z oa vcs ov kv vf h0 n0) ({ frames := 5, cells := 0, slots := 0, locals := 70 } : Room).cells ({ frames := 5, cells := 0, slots := 0, locals := 70 } : Room).slots (s₁.setTop (entryFrame m #[(.ref oa)] 1))
  refine own_Fin.go (fun t k => castTop (own_ef_chk m oa) k) ?_
  refine own_Fin.go (fun t k => XS.aloadN X0.here hx rfl (hb hby own_dchk_0) rfl rfl k) ?_
  show own_Fin _ _ _ _ _ _ _ (s₁.setTop (mkF m 1 #[.val (.ref oa)] [(.ref oa)]))
  refine own_Fin.go (fun t k => XS.bipush X0.here hx rfl (hb hby own_dchk_1) k) ?_
  show own_Fin _ _ _ _ _ _ _ (s₁.setTop (mkF m 3 #[.val (.ref oa)] [(.int (32 : Int32)), (.ref oa)]))
  refine own_Fin.go (fun t k => XS.iconst X0.here hx rfl (hb hby own_dchk_3) k) ?_
  show own_Fin _ _ _ _ _ _ _ (s₁.setTop (mkF m 4 #[.val (.ref oa)] [(.int (1 : Int32)), (.int (32 : Int32)), (.ref oa)]))
  obtain ⟨_, _, ⟨T1, L1, k1, n1⟩, -, X1, ⟨Lc1, hQ1, l1, y1, z1⟩, st1⟩ := Jvm.LawKit.callS X0 hx (y := (⟨"com/example/inrush/inrush/engine/Names", "isName", "(Ljava/lang/String;IZ)Z"⟩ : MethodName)) hown (mvT hZ (hw _ (List.mem_of_getElem? (i := 28) rfl))) (mvT hZ (hw _ (List.mem_of_getElem? (i := 29) rfl))) (mvT hZ (hw _ (List.mem_of_getElem? (i := 26) rfl))) (mvT hZ (hw _ (List.mem_of_getElem? (i := 30) rfl))) (by decide) (backOf (W := 0) (own_rm_isn l Z a0 hw [] oa vcs ov kv vf h0 n0 Z0 E_oa F_oa_value F_oa_coder V_ov S_COMPACT_STRINGS (by assumption) S_SIOOBE_FORMATTER (by assumption)) hZ (hw _ (List.mem_of_getElem? (i := 30) rfl)) (hw _ (List.mem_of_getElem? (i := 26) rfl)) (by decide) (by decide)) (g := (mkF m 4 #[.val (.ref oa)] [(.int (1 : Int32)), (.int (32 : Int32)), (.ref oa)])) rfl (by rw [hml]; rfl) (argsL := [(.ref oa), (.int (32 : Int32)), (.int (1 : Int32))]) (rest := []) (lenOf own_pd8 rfl) rfl (by show 2 * 0 + _ ≤ _; exact Nat.le_of_eq rfl) (hb hby own_dchk_4) (fun _ _ => ⟨rfl, e0, (by decide : 0 + 0 ≤ _), (by decide : 0 + 0 ≤ _)⟩)
  dsimp only [Pt.U, Pt.locs, Pt.cells, Pt.slots] at X1 l1 y1 z1 st1 hQ1
  subst l1 y1 z1
  obtain ⟨rfl, N1q, e1⟩ := hQ1
  refine own_Fin.go (fun t k => st1 t k) ?_
  have N1 := Fr.app N0 N1q
  show own_Fin _ _ _ _ _ _ _ (T1.setTop (mkF m 7 #[.val (.ref oa)] [(.int (1 : Int32))]))
  refine own_Fin.go (fun t k => XS.ifNo X1.here hx rfl (hb hby own_dchk_7) rfl (by decide) k) ?_
  show own_Fin _ _ _ _ _ _ _ (T1.setTop (mkF m 10 #[.val (.ref oa)] []))
  refine own_Fin.go (fun t k => XS.aloadN X1.here hx rfl (hb hby own_dchk_10) rfl rfl k) ?_
  show own_Fin _ _ _ _ _ _ _ (T1.setTop (mkF m 11 #[.val (.ref oa)] [(.ref oa)]))
  refine own_Fin.go (fun t k => XS.iconst X1.here hx rfl (hb hby own_dchk_11) k) ?_
  show own_Fin _ _ _ _ _ _ _ (T1.setTop (mkF m 12 #[.val (.ref oa)] [(.int (0 : Int32)), (.ref oa)]))
  obtain ⟨cq2, kq2, q2a, q2b, q2c⟩ := isOf hZ e1 E_oa
  obtain ⟨_, _, ⟨T2, L2, k2, n2⟩, -, X2, ⟨Lc2, hQ2, l2, y2, z2⟩, st2⟩ := X1.virtualBack hx (y := (⟨"java/lang/String", "charAt", "(I)C"⟩ : MethodName)) (z := (⟨"java/lang/String", "charAt", "(I)C"⟩ : MethodName)) hown (mvT hZ (hw _ (List.mem_of_getElem? (i := 44) rfl))) (mvT hZ (hw _ (List.mem_of_getElem? (i := 45) rfl))) (notFace_of_selects (args := #[]) (mvT hZ (hw _ (List.mem_of_getElem? (i := 47) rfl)))) (mvT hZ (hw _ (List.mem_of_getElem? (i := 47) rfl))) (mvT hZ (hw _ (List.mem_of_getElem? (i := 46) rfl))) (by decide) (backOf (W := 0) (own_rm_cha l Z a0 hw [] oa vcs ov kv vf h0 n0 Z0 E_oa F_oa_value F_oa_coder V_ov S_COMPACT_STRINGS (by assumption) S_SIOOBE_FORMATTER (by assumption)) hZ (hw _ (List.mem_of_getElem? (i := 48) rfl)) (hw _ (List.mem_of_getElem? (i := 5) rfl)) (by decide) (by decide)) q2a q2c (g := (mkF m 12 #[.val (.ref oa)] [(.int (0 : Int32)), (.ref oa)])) rfl (by rw [hml]; rfl) (Steps.refl _) (argsL := [(.int (0 : Int32))]) (rest := []) (lenOf own_pd6 rfl) rfl (by show 2 * 0 + _ ≤ _; exact Nat.le_of_eq rfl) (hb hby own_dchk_12) (fun _ _ => ⟨rfl, e1, (by decide : 0 + 0 ≤ _), (by decide : 0 + 0 ≤ _)⟩)
  dsimp only [Pt.U, Pt.locs, Pt.cells, Pt.slots] at X2 l2 y2 z2 st2 hQ2
  subst l2 y2 z2
  obtain ⟨rfl, N2q, e2⟩ := hQ2
  refine own_Fin.go (fun t k => st2.trans k) ?_
  have N2 := Fr.app N1 N2q
  show own_Fin _ _ _ _ _ _ _ (T2.setTop (mkF m 15 #[.val (.ref oa)] [(.int (99 : Int32))]))
  obtain ⟨_, _, ⟨T3, L3, k3, n3⟩, -, X3, ⟨Lc3, hQ3, l3, y3, z3⟩, st3⟩ := Jvm.LawKit.callS X2 hx (y := (⟨"com/example/inrush/inrush/engine/Names", "isLetter", "(C)Z"⟩ : MethodName)) hown (mvT hZ (hw _ (List.mem_of_getElem? (i := 66) rfl))) (mvT hZ (hw _ (List.mem_of_getElem? (i := 67) rfl))) (mvT hZ (hw _ (List.mem_of_getElem? (i := 26) rfl))) (mvT hZ (hw _ (List.mem_of_getElem? (i := 68) rfl))) (by decide) (backOf (W := 0) (own_rm_isl l Z a0 hw []   h0 n0 Z0 ) hZ (hw _ (List.mem_of_getElem? (i := 68) rfl)) (hw _ (List.mem_of_getElem? (i := 26) rfl)) (by decide) (by decide)) (g := (mkF m 15 #[.val (.ref oa)] [(.int (99 : Int32))])) rfl (by rw [hml]; rfl) (argsL := [(.int (99 : Int32))]) (rest := []) (lenOf own_pd7 rfl) rfl (by show 2 * 0 + _ ≤ _; exact Nat.le_of_eq rfl) (hb hby own_dchk_15) (fun _ _ => ⟨rfl, e2, (by decide : 0 + 0 ≤ _), (by decide : 0 + 0 ≤ _)⟩)
  dsimp only [Pt.U, Pt.locs, Pt.cells, Pt.slots] at X3 l3 y3 z3 st3 hQ3
  subst l3 y3 z3
  obtain ⟨rfl, N3q, e3⟩ := hQ3
  refine own_Fin.go (fun t k => st3 t k) ?_
  have N3 := Fr.app N2 N3q
  show own_Fin _ _ _ _ _ _ _ (T3.setTop (mkF m 18 #[.val (.ref oa)] [(.int (1 : Int32))]))
  refine own_Fin.go (fun t k => XS.ifYes X3.here hx rfl (pc0 := 18) (pc' := 31) rfl (hb hby own_dchk_18) rfl (by decide) (by decide) (by decide) k) ?_
  show own_Fin _ _ _ _ _ _ _ (T3.setTop (mkF m 31 #[.val (.ref oa)] []))
  refine own_Fin.go (fun t k => XS.aloadN X3.here hx rfl (hb hby own_dchk_31) rfl rfl k) ?_
  show own_Fin _ _ _ _ _ _ _ (T3.setTop (mkF m 32 #[.val (.ref oa)] [(.ref oa)]))
  refine own_retA X3 hx Bd.returns rfl (hb hby own_dchk_32) Bd.notSynchronized (by decide) (by decide) ?_
  rw [e3]
  exact ⟨rfl, N3, rfl⟩
theorem own_pd9 : parseMethodDescriptor "()V" = some ⟨[], none⟩ := by decide +kernel
theorem own_pd10 : parseMethodDescriptor "(Ljava/lang/String;)Ljava/lang/String;" = some ⟨[(.object "java/lang/String")], some (.object "java/lang/String")⟩ := by decide +kernel
theorem own_dlim_0 : decode prog_21_method_1_code 0 = .ok (.aload_n 0, 1) := by decide +kernel
theorem own_dlim_1 : decode prog_21_method_1_code 1 = .ok (.invokespecial 3, 3) := by decide +kernel
theorem own_dlim_4 : decode prog_21_method_1_code 4 = .ok (.aload_n 1, 1) := by decide +kernel
theorem own_dlim_5 : decode prog_21_method_1_code 5 = .ok (.invokestatic 9, 3) := by decide +kernel
theorem own_dlim_8 : decode prog_21_method_1_code 8 = .ok (.pop, 1) := by decide +kernel
theorem own_dlim_9 : decode prog_21_method_1_code 9 = .ok (.lload_n 3, 1) := by decide +kernel
theorem own_dlim_10 : decode prog_21_method_1_code 10 = .ok (.lconst 0, 1) := by decide +kernel
theorem own_dlim_11 : decode prog_21_method_1_code 11 = .ok (.lcmp, 1) := by decide +kernel
theorem own_dlim_12 : decode prog_21_method_1_code 12 = .ok (.ifCond .ge 13, 3) := by decide +kernel
theorem own_dlim_25 : decode prog_21_method_1_code 25 = .ok (.aload_n 0, 1) := by decide +kernel
theorem own_dlim_26 : decode prog_21_method_1_code 26 = .ok (.aload_n 1, 1) := by decide +kernel
theorem own_dlim_27 : decode prog_21_method_1_code 27 = .ok (.putfield 24, 3) := by decide +kernel
theorem own_dlim_30 : decode prog_21_method_1_code 30 = .ok (.aload_n 0, 1) := by decide +kernel
theorem own_dlim_31 : decode prog_21_method_1_code 31 = .ok (.aload_n 2, 1) := by decide +kernel
theorem own_dlim_32 : decode prog_21_method_1_code 32 = .ok (.putfield 28, 3) := by decide +kernel
theorem own_dlim_35 : decode prog_21_method_1_code 35 = .ok (.aload_n 0, 1) := by decide +kernel
theorem own_dlim_36 : decode prog_21_method_1_code 36 = .ok (.lload_n 3, 1) := by decide +kernel
theorem own_dlim_37 : decode prog_21_method_1_code 37 = .ok (.putfield 31, 3) := by decide +kernel
theorem own_dlim_40 : decode prog_21_method_1_code 40 = .ok (.return_, 1) := by decide +kernel
theorem own_pn5 : plainName "com/example/inrush/inrush/engine/Limit" = true := by first | (simp [plainName, overriddenIn]; done) | decide +kernel
theorem own_ef_lim (m : MethodId) (oa : Addr) (oc : Addr) (ow : Addr) (va : Int64) : entryFrame m #[(.ref oa), (.ref oc), (.ref ow), (.long va)] 5 = mkF m 0 #[.val (.ref oa), .val (.ref oc), .val (.ref ow), .val (.long va), .second] [] := by first | (simp [entryFrame, mkF, argsToLocals, Value.category]; done) | rfl
def own_Q_lim (Z : State) (oa : Addr) (oc : Addr) (ow : Addr) (va : Int64) (vcs : Int32) (ov : Addr) (kv : ClassId) (vf : Value) (h0 : Heap) (n0 : Nat) (v : Option Value) (h : Heap) (L : List Loc) : Prop := v = none ∧ Fr n0 L ∧ Keep h0 h [oa] ∧ Exa Z h oa "com/example/inrush/inrush/engine/Limit" ∧ Fld Z h oa "com/example/inrush/inrush/engine/Limit" "max" "J" (.long va)
set_option maxRecDepth 65536 in
set_option maxHeartbeats 40000000 in
theorem own_rm_lim (l : Launch) (Z : State) (a0 : Array Value) (hw : ∀ d ∈ tables_1, d.before a0 Z = true) (ws : List Jvm.Cond) (oa : Addr) (oc : Addr) (ow : Addr) (va : Int64) (vcs : Int32) (ov : Addr) (kv : ClassId) (vf : Value) (h0 : Heap) (n0 : Nat) (Z0 : n0 ≤ h0.size) (E_oa : Exa Z h0 oa "com/example/inrush/inrush/engine/Limit") (F_oa_counter : Fld Z h0 oa "com/example/inrush/inrush/engine/Limit" "counter" "Ljava/lang/String;" .null) (F_oa_window : Fld Z h0 oa "com/example/inrush/inrush/engine/Limit" "window" "Ljava/lang/String;" .null) (F_oa_max : Fld Z h0 oa "com/example/inrush/inrush/engine/Limit" "max" "J" (.long (0 : Int64))) (g_oa : n0 ≤ oa) (E_oc : Exa Z h0 oc "java/lang/String") (F_oc_value : Fld Z h0 oc "java/lang/String" "value" "[B" (.ref ov)) (F_oc_coder : Fld Z h0 oc "java/lang/String" "coder" "B" (.int (0 : Int32))) (V_ov : Arv Z h0 ov kv .byte (1 : Int32) [(.int (99 : Int32))] (.int 0)) (S_COMPACT_STRINGS : Sta Z h0 "java/lang/String" "COMPACT_STRINGS" "Z" (.int vcs)) (hcs : ¬ vcs = 0) (S_SIOOBE_FORMATTER : Sta Z h0 "jdk/internal/util/Preconditions" "SIOOBE_FORMATTER" "Ljava/util/function/BiFunction;" vf) (hvf : vf.isRef = true) (hpos : ¬ va < 0) :
    MetFree l (⟨"com/example/inrush/inrush/engine/Limit", "<init>", "(Ljava/lang/String;Ljava/lang/String;J)V"⟩ : MethodName) (head1 (Jvm.Cond.code (⟨"com/example/inrush/inrush/engine/Limit", "<init>", "(Ljava/lang/String;Ljava/lang/String;J)V"⟩ : MethodName) prog_21_method_1_code 5 none :: ws) ({ frames := 6, cells := 0, slots := 0, locals := 82 } : Room)) (fun a U => a = #[(.ref oa), (.ref oc), (.ref ow), (.long va)] ∧ Z.Warmed39 U.vm ∧ U.heap = h0) (fun _ _ _ _ _ => True) (fun _ U o U' => ∃ v L, o = .returned v ∧ own_Q_lim Z oa oc ow va vcs ov kv vf h0 n0 v U'.heap L ∧ FrameEnd U o U' L ({ frames := 6, cells := 0, slots := 0, locals := 82 } : Room).cells ({ frames := 6, cells := 0, slots := 0, locals := 82 } : Room).slots) := by
  refine MetFree.of_bodySF (plainFor_of_name own_pn5) hisR ?_
  intro p e s m args below meth c s₁ Bd hml0 hP hK
  obtain ⟨rfl, hZ, hh⟩ := hP
  have hx := Bd.exec
  have hby := Bd.bytes
  have hml : c.maxLocals = 5 := hml0
  have hown : s.vm.findClass "com/example/inrush/inrush/engine/Limit" = some m.cls := findClass_of_methodNamed Bd.named
  have hnm := (name_of_methodNamed Bd.named Bd.method).1
  have X0 : Stand p l e ({ frames := 6, cells := 0, slots := 0, locals := 82 } : Room) s m #[(.ref oa), (.ref oc), (.ref ow), (.long va)] below meth c s₁ [] 0 0 := Stand.of_body Bd
  have e0 : s₁.heap = h0 := by rw [← hh, Bd.state]; rfl
  have N0 := Fr.nil n0
  have K0 := Keep.refl h0 [oa]
  show own_Fin p e below s (own_Q_lim Z oa oc ow va vcs ov kv vf h0 n0) ({ frames := 6, cells := 0, slots := 0, locals := 82 } : Room).cells ({ frames := 6, cells := 0, slots := 0, locals := 82 } : Room).slots (s₁.setTop (entryFrame m #[(.ref oa), (.ref oc), (.ref ow), (.long va)] 5))
  refine own_Fin.go (fun t k => castTop (own_ef_lim m oa oc ow va) k) ?_
  refine own_Fin.go (fun t k => XS.aloadN X0.here hx rfl (hb hby own_dlim_0) rfl rfl k) ?_
  show own_Fin _ _ _ _ _ _ _ (s₁.setTop (mkF m 1 #[.val (.ref oa), .val (.ref oc), .val (.ref ow), .val (.long va), .second] [(.ref oa)]))
  obtain ⟨_, _, ⟨T1, L1, k1, n1⟩, -, X1, ⟨Lc1, hQ1, l1, y1, z1⟩, st1⟩ := X0.specialBack hx (y := (⟨"java/lang/Record", "<init>", "()V"⟩ : MethodName)) rfl hown (mvT hZ (hw _ (List.mem_of_getElem? (i := 16) rfl))) (mvT hZ (hw _ (List.mem_of_getElem? (i := 17) rfl))) (mvT hZ (hw _ (List.mem_of_getElem? (i := 20) rfl))) (by decide) (backOf (W := 0) (own_rm_rec l Z a0 hw [] oa  h0 n0 Z0 ) hZ (hw _ (List.mem_of_getElem? (i := 20) rfl)) (hw _ (List.mem_of_getElem? (i := 19) rfl)) (by decide) (by decide)) (g := (mkF m 1 #[.val (.ref oa), .val (.ref oc), .val (.ref ow), .val (.long va), .second] [(.ref oa)])) rfl (by rw [hml]; rfl) (Steps.refl _) (a := oa) (argsL := []) (rest := []) (lenOf own_pd9 rfl) rfl (by show 2 * 0 + _ ≤ _; exact Nat.le_of_eq rfl) (hb hby own_dlim_1) (fun _ _ => ⟨rfl, e0, (by decide : 0 + 0 ≤ _), (by decide : 0 + 0 ≤ _)⟩)
  dsimp only [Pt.U, Pt.locs, Pt.cells, Pt.slots] at X1 l1 y1 z1 st1 hQ1
  subst l1 y1 z1
  obtain ⟨rfl, N1q, e1⟩ := hQ1
  refine own_Fin.go (fun t k => st1.trans k) ?_
  have N1 := Fr.app N0 N1q
  show own_Fin _ _ _ _ _ _ _ (T1.setTop (mkF m 4 #[.val (.ref oa), .val (.ref oc), .val (.ref ow), .val (.long va), .second] []))
  refine own_Fin.go (fun t k => XS.aloadN X1.here hx rfl (hb hby own_dlim_4) rfl rfl k) ?_
  show own_Fin _ _ _ _ _ _ _ (T1.setTop (mkF m 5 #[.val (.ref oa), .val (.ref oc), .val (.ref ow), .val (.long va), .second] [(.ref oc)]))
  obtain ⟨_, _, ⟨T2, L2, k2, n2⟩, -, X2, ⟨Lc2, hQ2, l2, y2, z2⟩, st2⟩ := Jvm.LawKit.callS X1 hx (y := (⟨"com/example/inrush/inrush/engine/Names", "checkCounter", "(Ljava/lang/String;)Ljava/lang/String;"⟩ : MethodName)) hown (mvT hZ (hw _ (List.mem_of_getElem? (i := 24) rfl))) (mvT hZ (hw _ (List.mem_of_getElem? (i := 25) rfl))) (mvT hZ (hw _ (List.mem_of_getElem? (i := 26) rfl))) (mvT hZ (hw _ (List.mem_of_getElem? (i := 27) rfl))) (by decide) (backOf (W := 0) (own_rm_chk l Z a0 hw [] oc vcs ov kv vf h0 n0 Z0 E_oc F_oc_value F_oc_coder V_ov S_COMPACT_STRINGS (by assumption) S_SIOOBE_FORMATTER (by assumption)) hZ (hw _ (List.mem_of_getElem? (i := 27) rfl)) (hw _ (List.mem_of_getElem? (i := 26) rfl)) (by decide) (by decide)) (g := (mkF m 5 #[.val (.ref oa), .val (.ref oc), .val (.ref ow), .val (.long va), .second] [(.ref oc)])) rfl (by rw [hml]; rfl) (argsL := [(.ref oc)]) (rest := []) (lenOf own_pd10 rfl) rfl (by show 2 * 0 + _ ≤ _; exact Nat.le_of_eq rfl) (hb hby own_dlim_5) (fun _ _ => ⟨rfl, e1, (by decide : 0 + 0 ≤ _), (by decide : 0 + 0 ≤ _)⟩)
  dsimp only [Pt.U, Pt.locs, Pt.cells, Pt.slots] at X2 l2 y2 z2 st2 hQ2
  subst l2 y2 z2
  obtain ⟨rfl, N2q, e2⟩ := hQ2
  refine own_Fin.go (fun t k => st2 t k) ?_
  have N2 := Fr.app N1 N2q
  show own_Fin _ _ _ _ _ _ _ (T2.setTop (mkF m 8 #[.val (.ref oa), .val (.ref oc), .val (.ref ow), .val (.long va), .second] [(.ref oc)]))
  refine own_Fin.go (fun t k => XS.pop X2.here hx rfl (hb hby own_dlim_8) rfl rfl k) ?_
  show own_Fin _ _ _ _ _ _ _ (T2.setTop (mkF m 9 #[.val (.ref oa), .val (.ref oc), .val (.ref ow), .val (.long va), .second] []))
  refine own_Fin.go (fun t k => XS.lloadN X2.here hx rfl (hb hby own_dlim_9) rfl k) ?_
  show own_Fin _ _ _ _ _ _ _ (T2.setTop (mkF m 10 #[.val (.ref oa), .val (.ref oc), .val (.ref ow), .val (.long va), .second] [(.long va)]))
  refine own_Fin.go (fun t k => XS.lconst X2.here hx rfl (hb hby own_dlim_10) k) ?_
  show own_Fin _ _ _ _ _ _ _ (T2.setTop (mkF m 11 #[.val (.ref oa), .val (.ref oc), .val (.ref ow), .val (.long va), .second] [(.long (0 : Int64)), (.long va)]))
  refine own_Fin.go (fun t k => XS.lcmp X2.here hx rfl (hb hby own_dlim_11) rfl k) ?_
  show own_Fin _ _ _ _ _ _ _ (T2.setTop (mkF m 12 #[.val (.ref oa), .val (.ref oc), .val (.ref ow), .val (.long va), .second] [(.int (lcmpW va (0 : Int64)))]))
  have hc12 : ¬ (va < (0 : Int64)) := hpos
  refine own_Fin.go (fun t k => XS.ifYes X2.here hx rfl (pc0 := 12) (pc' := 25) rfl (hb hby own_dlim_12) rfl (Jvm.Free.XT.ll_ge_t hc12) (by decide) (by decide) k) ?_
  show own_Fin _ _ _ _ _ _ _ (T2.setTop (mkF m 25 #[.val (.ref oa), .val (.ref oc), .val (.ref ow), .val (.long va), .second] []))
  refine own_Fin.go (fun t k => XS.aloadN X2.here hx rfl (hb hby own_dlim_25) rfl rfl k) ?_
  show own_Fin _ _ _ _ _ _ _ (T2.setTop (mkF m 26 #[.val (.ref oa), .val (.ref oc), .val (.ref ow), .val (.long va), .second] [(.ref oa)]))
  refine own_Fin.go (fun t k => XS.aloadN X2.here hx rfl (hb hby own_dlim_26) rfl rfl k) ?_
  show own_Fin _ _ _ _ _ _ _ (T2.setTop (mkF m 27 #[.val (.ref oa), .val (.ref oc), .val (.ref ow), .val (.long va), .second] [(.ref oc), (.ref oa)]))
  obtain ⟨T3, h3, X3, e3, W3, st3⟩ := putF X2 hx hZ hown (host := "") (Or.inl (hw _ (List.mem_of_getElem? (i := 69) rfl))) Via.refl e2 F_oa_counter E_oa (Or.inr ⟨(hw _ (List.mem_of_getElem? (i := 70) rfl)), rfl, hnm⟩) (hw _ (List.mem_of_getElem? (i := 2) rfl)) (ty := (.object "java/lang/String")) (by decide) rfl rfl (g := (mkF m 27 #[.val (.ref oa), .val (.ref oc), .val (.ref ow), .val (.long va), .second] [(.ref oc), (.ref oa)])) rfl rfl (hb hby own_dlim_27)
  refine own_Fin.go st3 ?_
  have F_oa_counter_3 := Fld.same W3 F_oa_counter
  have E_oa_3 := Exa.wr W3 E_oa
  have F_oa_window_3 := Fld.other W3 F_oa_window (Or.inr (slot_ne (Or.inr (hw _ (List.mem_of_getElem? (i := 72) rfl))) (Or.inr (hw _ (List.mem_of_getElem? (i := 70) rfl))) (by decide) (t := (.object "java/lang/String")) (t' := (.object "java/lang/String")) (by decide) (by decide)))
  have F_oa_max_3 := Fld.other W3 F_oa_max (Or.inr (slot_ne (Or.inr (hw _ (List.mem_of_getElem? (i := 74) rfl))) (Or.inr (hw _ (List.mem_of_getElem? (i := 70) rfl))) (by decide) (t := .long) (t' := (.object "java/lang/String")) (by decide) (by decide)))
  have Z3 := Nat.le_trans Z0 (Keep.of_wr W3).1
  have K3 := K0.wr W3 (Or.inl (List.mem_of_getElem? (i := 0) rfl))
  have N3 := Fr.snoc X3 N2 g_oa
  show own_Fin _ _ _ _ _ _ _ (T3.setTop (mkF m 30 #[.val (.ref oa), .val (.ref oc), .val (.ref ow), .val (.long va), .second] []))
  refine own_Fin.go (fun t k => XS.aloadN X3.here hx rfl (hb hby own_dlim_30) rfl rfl k) ?_
  show own_Fin _ _ _ _ _ _ _ (T3.setTop (mkF m 31 #[.val (.ref oa), .val (.ref oc), .val (.ref ow), .val (.long va), .second] [(.ref oa)]))
  refine own_Fin.go (fun t k => XS.aloadN X3.here hx rfl (hb hby own_dlim_31) rfl rfl k) ?_
  show own_Fin _ _ _ _ _ _ _ (T3.setTop (mkF m 32 #[.val (.ref oa), .val (.ref oc), .val (.ref ow), .val (.long va), .second] [(.ref ow), (.ref oa)]))
  obtain ⟨T4, h4, X4, e4, W4, st4⟩ := putF X3 hx hZ hown (host := "") (Or.inl (hw _ (List.mem_of_getElem? (i := 71) rfl))) Via.refl e3 F_oa_window_3 E_oa_3 (Or.inr ⟨(hw _ (List.mem_of_getElem? (i := 72) rfl)), rfl, hnm⟩) (hw _ (List.mem_of_getElem? (i := 2) rfl)) (ty := (.object "java/lang/String")) (by decide) rfl rfl (g := (mkF m 32 #[.val (.ref oa), .val (.ref oc), .val (.ref ow), .val (.long va), .second] [(.ref ow), (.ref oa)])) rfl rfl (hb hby own_dlim_32)
  refine own_Fin.go st4 ?_
  have F_oa_window_4 := Fld.same W4 F_oa_window_3
  have E_oa_4 := Exa.wr W4 E_oa_3
  have F_oa_counter_4 := Fld.other W4 F_oa_counter_3 (Or.inr (slot_ne (Or.inr (hw _ (List.mem_of_getElem? (i := 70) rfl))) (Or.inr (hw _ (List.mem_of_getElem? (i := 72) rfl))) (by decide) (t := (.object "java/lang/String")) (t' := (.object "java/lang/String")) (by decide) (by decide)))
  have F_oa_max_4 := Fld.other W4 F_oa_max_3 (Or.inr (slot_ne (Or.inr (hw _ (List.mem_of_getElem? (i := 74) rfl))) (Or.inr (hw _ (List.mem_of_getElem? (i := 72) rfl))) (by decide) (t := .long) (t' := (.object "java/lang/String")) (by decide) (by decide)))
  have Z4 := Nat.le_trans Z3 (Keep.of_wr W4).1
  have K4 := K3.wr W4 (Or.inl (List.mem_of_getElem? (i := 0) rfl))
  have N4 := Fr.snoc X4 N3 g_oa
  show own_Fin _ _ _ _ _ _ _ (T4.setTop (mkF m 35 #[.val (.ref oa), .val (.ref oc), .val (.ref ow), .val (.long va), .second] []))
  refine own_Fin.go (fun t k => XS.aloadN X4.here hx rfl (hb hby own_dlim_35) rfl rfl k) ?_
  show own_Fin _ _ _ _ _ _ _ (T4.setTop (mkF m 36 #[.val (.ref oa), .val (.ref oc), .val (.ref ow), .val (.long va), .second] [(.ref oa)]))
  refine own_Fin.go (fun t k => XS.lloadN X4.here hx rfl (hb hby own_dlim_36) rfl k) ?_
  show own_Fin _ _ _ _ _ _ _ (T4.setTop (mkF m 37 #[.val (.ref oa), .val (.ref oc), .val (.ref ow), .val (.long va), .second] [(.long va), (.ref oa)]))
  obtain ⟨T5, h5, X5, e5, W5, st5⟩ := putF X4 hx hZ hown (host := "") (Or.inl (hw _ (List.mem_of_getElem? (i := 73) rfl))) Via.refl e4 F_oa_max_4 E_oa_4 (Or.inr ⟨(hw _ (List.mem_of_getElem? (i := 74) rfl)), rfl, hnm⟩) (hw _ (List.mem_of_getElem? (i := 2) rfl)) (ty := .long) (by decide) rfl rfl (g := (mkF m 37 #[.val (.ref oa), .val (.ref oc), .val (.ref ow), .val (.long va), .second] [(.long va), (.ref oa)])) rfl rfl (hb hby own_dlim_37)
  refine own_Fin.go st5 ?_
  have F_oa_max_5 := Fld.same W5 F_oa_max_4
  have E_oa_5 := Exa.wr W5 E_oa_4
  have F_oa_counter_5 := Fld.other W5 F_oa_counter_4 (Or.inr (slot_ne (Or.inr (hw _ (List.mem_of_getElem? (i := 70) rfl))) (Or.inr (hw _ (List.mem_of_getElem? (i := 74) rfl))) (by decide) (t := (.object "java/lang/String")) (t' := .long) (by decide) (by decide)))
  have F_oa_window_5 := Fld.other W5 F_oa_window_4 (Or.inr (slot_ne (Or.inr (hw _ (List.mem_of_getElem? (i := 72) rfl))) (Or.inr (hw _ (List.mem_of_getElem? (i := 74) rfl))) (by decide) (t := (.object "java/lang/String")) (t' := .long) (by decide) (by decide)))
  have Z5 := Nat.le_trans Z4 (Keep.of_wr W5).1
  have K5 := K4.wr W5 (Or.inl (List.mem_of_getElem? (i := 0) rfl))
  have N5 := Fr.snoc X5 N4 g_oa
  show own_Fin _ _ _ _ _ _ _ (T5.setTop (mkF m 40 #[.val (.ref oa), .val (.ref oc), .val (.ref ow), .val (.long va), .second] []))
  refine own_ret0 X5 hx Bd.returns (hb hby own_dlim_40) Bd.notSynchronized (by decide) (by decide) ?_
  rw [e5]
  exact ⟨rfl, N5, K5, E_oa_5, F_oa_max_5⟩
theorem own_dver_0 : decode prog_22_method_1_code 0 = .ok (.aload_n 0, 1) := by decide +kernel
theorem own_dver_1 : decode prog_22_method_1_code 1 = .ok (.invokespecial 1, 3) := by decide +kernel
theorem own_dver_4 : decode prog_22_method_1_code 4 = .ok (.aload_n 0, 1) := by decide +kernel
theorem own_dver_5 : decode prog_22_method_1_code 5 = .ok (.aload_n 1, 1) := by decide +kernel
theorem own_dver_6 : decode prog_22_method_1_code 6 = .ok (.putfield 7, 3) := by decide +kernel
theorem own_dver_9 : decode prog_22_method_1_code 9 = .ok (.aload_n 0, 1) := by decide +kernel
theorem own_dver_10 : decode prog_22_method_1_code 10 = .ok (.lload_n 2, 1) := by decide +kernel
theorem own_dver_11 : decode prog_22_method_1_code 11 = .ok (.putfield 13, 3) := by decide +kernel
theorem own_dver_14 : decode prog_22_method_1_code 14 = .ok (.return_, 1) := by decide +kernel
theorem own_pn6 : plainName "com/example/inrush/inrush/engine/Limit$Verdict" = true := by first | (simp [plainName, overriddenIn]; done) | decide +kernel
theorem own_ef_ver (m : MethodId) (oa : Addr) (ol : Addr) (va : Int64) : entryFrame m #[(.ref oa), (.ref ol), (.long va)] 4 = mkF m 0 #[.val (.ref oa), .val (.ref ol), .val (.long va), .second] [] := by first | (simp [entryFrame, mkF, argsToLocals, Value.category]; done) | rfl
def own_Q_ver (Z : State) (oa : Addr) (ol : Addr) (va : Int64) (h0 : Heap) (n0 : Nat) (v : Option Value) (h : Heap) (L : List Loc) : Prop := v = none ∧ Fr n0 L ∧ Keep h0 h [oa] ∧ Exa Z h oa "com/example/inrush/inrush/engine/Limit$Verdict" ∧ Fld Z h oa "com/example/inrush/inrush/engine/Limit$Verdict" "limit" "Lcom/example/inrush/inrush/engine/Limit;" (.ref ol) ∧ Fld Z h oa "com/example/inrush/inrush/engine/Limit$Verdict" "count" "J" (.long va)
set_option maxRecDepth 65536 in
set_option maxHeartbeats 40000000 in
theorem own_rm_ver (l : Launch) (Z : State) (a0 : Array Value) (hw : ∀ d ∈ tables_1, d.before a0 Z = true) (ws : List Jvm.Cond) (oa : Addr) (ol : Addr) (va : Int64) (h0 : Heap) (n0 : Nat) (Z0 : n0 ≤ h0.size) (E_oa : Exa Z h0 oa "com/example/inrush/inrush/engine/Limit$Verdict") (F_oa_limit : Fld Z h0 oa "com/example/inrush/inrush/engine/Limit$Verdict" "limit" "Lcom/example/inrush/inrush/engine/Limit;" .null) (F_oa_count : Fld Z h0 oa "com/example/inrush/inrush/engine/Limit$Verdict" "count" "J" (.long (0 : Int64))) (g_oa : n0 ≤ oa) :
    MetFree l (⟨"com/example/inrush/inrush/engine/Limit$Verdict", "<init>", "(Lcom/example/inrush/inrush/engine/Limit;J)V"⟩ : MethodName) (head1 (Jvm.Cond.code (⟨"com/example/inrush/inrush/engine/Limit$Verdict", "<init>", "(Lcom/example/inrush/inrush/engine/Limit;J)V"⟩ : MethodName) prog_22_method_1_code 4 none :: ws) ({ frames := 2, cells := 0, slots := 0, locals := 24 } : Room)) (fun a U => a = #[(.ref oa), (.ref ol), (.long va)] ∧ Z.Warmed39 U.vm ∧ U.heap = h0) (fun _ _ _ _ _ => True) (fun _ U o U' => ∃ v L, o = .returned v ∧ own_Q_ver Z oa ol va h0 n0 v U'.heap L ∧ FrameEnd U o U' L ({ frames := 2, cells := 0, slots := 0, locals := 24 } : Room).cells ({ frames := 2, cells := 0, slots := 0, locals := 24 } : Room).slots) := by
  refine MetFree.of_bodySF (plainFor_of_name own_pn6) hisR ?_
  intro p e s m args below meth c s₁ Bd hml0 hP hK
  obtain ⟨rfl, hZ, hh⟩ := hP
  have hx := Bd.exec
  have hby := Bd.bytes
  have hml : c.maxLocals = 4 := hml0
  have hown : s.vm.findClass "com/example/inrush/inrush/engine/Limit$Verdict" = some m.cls := findClass_of_methodNamed Bd.named
  have hnm := (name_of_methodNamed Bd.named Bd.method).1
  have X0 : Stand p l e ({ frames := 2, cells := 0, slots := 0, locals := 24 } : Room) s m #[(.ref oa), (.ref ol), (.long va)] below meth c s₁ [] 0 0 := Stand.of_body Bd
  have e0 : s₁.heap = h0 := by rw [← hh, Bd.state]; rfl
  have N0 := Fr.nil n0
  have K0 := Keep.refl h0 [oa]
  show own_Fin p e below s (own_Q_ver Z oa ol va h0 n0) ({ frames := 2, cells := 0, slots := 0, locals := 24 } : Room).cells ({ frames := 2, cells := 0, slots := 0, locals := 24 } : Room).slots (s₁.setTop (entryFrame m #[(.ref oa), (.ref ol), (.long va)] 4))
  refine own_Fin.go (fun t k => castTop (own_ef_ver m oa ol va) k) ?_
  refine own_Fin.go (fun t k => XS.aloadN X0.here hx rfl (hb hby own_dver_0) rfl rfl k) ?_
  show own_Fin _ _ _ _ _ _ _ (s₁.setTop (mkF m 1 #[.val (.ref oa), .val (.ref ol), .val (.long va), .second] [(.ref oa)]))
  obtain ⟨_, _, ⟨T1, L1, k1, n1⟩, -, X1, ⟨Lc1, hQ1, l1, y1, z1⟩, st1⟩ := X0.specialBack hx (y := (⟨"java/lang/Record", "<init>", "()V"⟩ : MethodName)) rfl hown (mvT hZ (hw _ (List.mem_of_getElem? (i := 81) rfl))) (mvT hZ (hw _ (List.mem_of_getElem? (i := 17) rfl))) (mvT hZ (hw _ (List.mem_of_getElem? (i := 20) rfl))) (by decide) (backOf (W := 0) (own_rm_rec l Z a0 hw [] oa  h0 n0 Z0 ) hZ (hw _ (List.mem_of_getElem? (i := 20) rfl)) (hw _ (List.mem_of_getElem? (i := 19) rfl)) (by decide) (by decide)) (g := (mkF m 1 #[.val (.ref oa), .val (.ref ol), .val (.long va), .second] [(.ref oa)])) rfl (by rw [hml]; rfl) (Steps.refl _) (a := oa) (argsL := []) (rest := []) (lenOf own_pd9 rfl) rfl (by show 2 * 0 + _ ≤ _; exact Nat.le_of_eq rfl) (hb hby own_dver_1) (fun _ _ => ⟨rfl, e0, (by decide : 0 + 0 ≤ _), (by decide : 0 + 0 ≤ _)⟩)
  dsimp only [Pt.U, Pt.locs, Pt.cells, Pt.slots] at X1 l1 y1 z1 st1 hQ1
  subst l1 y1 z1
  obtain ⟨rfl, N1q, e1⟩ := hQ1
  refine own_Fin.go (fun t k => st1.trans k) ?_
  have N1 := Fr.app N0 N1q
  show own_Fin _ _ _ _ _ _ _ (T1.setTop (mkF m 4 #[.val (.ref oa), .val (.ref ol), .val (.long va), .second] []))
  refine own_Fin.go (fun t k => XS.aloadN X1.here hx rfl (hb hby own_dver_4) rfl rfl k) ?_
  show own_Fin _ _ _ _ _ _ _ (T1.setTop (mkF m 5 #[.val (.ref oa), .val (.ref ol), .val (.long va), .second] [(.ref oa)]))
  refine own_Fin.go (fun t k => XS.aloadN X1.here hx rfl (hb hby own_dver_5) rfl rfl k) ?_
  show own_Fin _ _ _ _ _ _ _ (T1.setTop (mkF m 6 #[.val (.ref oa), .val (.ref ol), .val (.long va), .second] [(.ref ol), (.ref oa)]))
  obtain ⟨T2, h2, X2, e2, W2, st2⟩ := putF X1 hx hZ hown (host := "") (Or.inl (hw _ (List.mem_of_getElem? (i := 82) rfl))) Via.refl e1 F_oa_limit E_oa (Or.inr ⟨(hw _ (List.mem_of_getElem? (i := 83) rfl)), rfl, hnm⟩) (hw _ (List.mem_of_getElem? (i := 76) rfl)) (ty := (.object "com/example/inrush/inrush/engine/Limit")) (by decide) rfl rfl (g := (mkF m 6 #[.val (.ref oa), .val (.ref ol), .val (.long va), .second] [(.ref ol), (.ref oa)])) rfl rfl (hb hby own_dver_6)
  refine own_Fin.go st2 ?_
  have F_oa_limit_2 := Fld.same W2 F_oa_limit
  have E_oa_2 := Exa.wr W2 E_oa
  have F_oa_count_2 := Fld.other W2 F_oa_count (Or.inr (slot_ne (Or.inr (hw _ (List.mem_of_getElem? (i := 85) rfl))) (Or.inr (hw _ (List.mem_of_getElem? (i := 83) rfl))) (by decide) (t := .long) (t' := (.object "com/example/inrush/inrush/engine/Limit")) (by decide) (by decide)))
  have Z2 := Nat.le_trans Z0 (Keep.of_wr W2).1
  have K2 := K0.wr W2 (Or.inl (List.mem_of_getElem? (i := 0) rfl))
  have N2 := Fr.snoc X2 N1 g_oa
  show own_Fin _ _ _ _ _ _ _ (T2.setTop (mkF m 9 #[.val (.ref oa), .val (.ref ol), .val (.long va), .second] []))
  refine own_Fin.go (fun t k => XS.aloadN X2.here hx rfl (hb hby own_dver_9) rfl rfl k) ?_
  show own_Fin _ _ _ _ _ _ _ (T2.setTop (mkF m 10 #[.val (.ref oa), .val (.ref ol), .val (.long va), .second] [(.ref oa)]))
  refine own_Fin.go (fun t k => XS.lloadN X2.here hx rfl (hb hby own_dver_10) rfl k) ?_
  show own_Fin _ _ _ _ _ _ _ (T2.setTop (mkF m 11 #[.val (.ref oa), .val (.ref ol), .val (.long va), .second] [(.long va), (.ref oa)]))
  obtain ⟨T3, h3, X3, e3, W3, st3⟩ := putF X2 hx hZ hown (host := "") (Or.inl (hw _ (List.mem_of_getElem? (i := 84) rfl))) Via.refl e2 F_oa_count_2 E_oa_2 (Or.inr ⟨(hw _ (List.mem_of_getElem? (i := 85) rfl)), rfl, hnm⟩) (hw _ (List.mem_of_getElem? (i := 76) rfl)) (ty := .long) (by decide) rfl rfl (g := (mkF m 11 #[.val (.ref oa), .val (.ref ol), .val (.long va), .second] [(.long va), (.ref oa)])) rfl rfl (hb hby own_dver_11)
  refine own_Fin.go st3 ?_
  have F_oa_count_3 := Fld.same W3 F_oa_count_2
  have E_oa_3 := Exa.wr W3 E_oa_2
  have F_oa_limit_3 := Fld.other W3 F_oa_limit_2 (Or.inr (slot_ne (Or.inr (hw _ (List.mem_of_getElem? (i := 83) rfl))) (Or.inr (hw _ (List.mem_of_getElem? (i := 85) rfl))) (by decide) (t := (.object "com/example/inrush/inrush/engine/Limit")) (t' := .long) (by decide) (by decide)))
  have Z3 := Nat.le_trans Z2 (Keep.of_wr W3).1
  have K3 := K2.wr W3 (Or.inl (List.mem_of_getElem? (i := 0) rfl))
  have N3 := Fr.snoc X3 N2 g_oa
  show own_Fin _ _ _ _ _ _ _ (T3.setTop (mkF m 14 #[.val (.ref oa), .val (.ref ol), .val (.long va), .second] []))
  refine own_ret0 X3 hx Bd.returns (hb hby own_dver_14) Bd.notSynchronized (by decide) (by decide) ?_
  rw [e3]
  exact ⟨rfl, N3, K3, E_oa_3, F_oa_limit_3, F_oa_count_3⟩
theorem own_dmx_0 : decode prog_21_method_7_code 0 = .ok (.aload_n 0, 1) := by decide +kernel
theorem own_dmx_1 : decode prog_21_method_7_code 1 = .ok (.getfield 31, 3) := by decide +kernel
theorem own_dmx_4 : decode prog_21_method_7_code 4 = .ok (.lreturn, 1) := by decide +kernel
theorem own_ef_mx (m : MethodId) (oa : Addr) : entryFrame m #[(.ref oa)] 1 = mkF m 0 #[.val (.ref oa)] [] := by first | (simp [entryFrame, mkF, argsToLocals, Value.category]; done) | rfl
def own_Q_mx (Z : State) (oa : Addr) (um : Int64) (h0 : Heap) (n0 : Nat) (v : Option Value) (h : Heap) (L : List Loc) : Prop := v = some (.long um) ∧ Fr n0 L ∧ h = h0
set_option maxRecDepth 65536 in
set_option maxHeartbeats 40000000 in
theorem own_rm_mx (l : Launch) (Z : State) (a0 : Array Value) (hw : ∀ d ∈ tables_1, d.before a0 Z = true) (ws : List Jvm.Cond) (oa : Addr) (um : Int64) (h0 : Heap) (n0 : Nat) (Z0 : n0 ≤ h0.size) (F_oa_max : Fld Z h0 oa "com/example/inrush/inrush/engine/Limit" "max" "J" (.long um)) :
    MetFree l (⟨"com/example/inrush/inrush/engine/Limit", "max", "()J"⟩ : MethodName) (head1 (Jvm.Cond.code (⟨"com/example/inrush/inrush/engine/Limit", "max", "()J"⟩ : MethodName) prog_21_method_7_code 1 (some .long) :: ws) ({ frames := 0, cells := 0, slots := 0, locals := 0 } : Room)) (fun a U => a = #[(.ref oa)] ∧ Z.Warmed39 U.vm ∧ U.heap = h0) (fun _ _ _ _ _ => True) (fun _ U o U' => ∃ v L, o = .returned v ∧ own_Q_mx Z oa um h0 n0 v U'.heap L ∧ FrameEnd U o U' L ({ frames := 0, cells := 0, slots := 0, locals := 0 } : Room).cells ({ frames := 0, cells := 0, slots := 0, locals := 0 } : Room).slots) := by
  refine MetFree.of_bodySF (plainFor_of_name own_pn5) hisR ?_
  intro p e s m args below meth c s₁ Bd hml0 hP hK
  obtain ⟨rfl, hZ, hh⟩ := hP
  have hx := Bd.exec
  have hby := Bd.bytes
  have hml : c.maxLocals = 1 := hml0
  have hown : s.vm.findClass "com/example/inrush/inrush/engine/Limit" = some m.cls := findClass_of_methodNamed Bd.named
  have hnm := (name_of_methodNamed Bd.named Bd.method).1
  have X0 : Stand p l e ({ frames := 0, cells := 0, slots := 0, locals := 0 } : Room) s m #[(.ref oa)] below meth c s₁ [] 0 0 := Stand.of_body Bd
  have e0 : s₁.heap = h0 := by rw [← hh, Bd.state]; rfl
  have N0 := Fr.nil n0
  show own_Fin p e below s (own_Q_mx Z oa um h0 n0) ({ frames := 0, cells := 0, slots := 0, locals := 0 } : Room).cells ({ frames := 0, cells := 0, slots := 0, locals := 0 } : Room).slots (s₁.setTop (entryFrame m #[(.ref oa)] 1))
  refine own_Fin.go (fun t k => castTop (own_ef_mx m oa) k) ?_
  refine own_Fin.go (fun t k => XS.aloadN X0.here hx rfl (hb hby own_dmx_0) rfl rfl k) ?_
  show own_Fin _ _ _ _ _ _ _ (s₁.setTop (mkF m 1 #[.val (.ref oa)] [(.ref oa)]))
  obtain ⟨T1, X1, e1, st1⟩ := getF X0 hx hZ hown (host := "") (Or.inl (hw _ (List.mem_of_getElem? (i := 73) rfl))) Via.refl e0 F_oa_max (g := (mkF m 1 #[.val (.ref oa)] [(.ref oa)])) rfl rfl (hb hby own_dmx_1)
  refine own_Fin.go st1 ?_
  show own_Fin _ _ _ _ _ _ _ (T1.setTop (mkF m 4 #[.val (.ref oa)] [(.long um)]))
  refine own_retJ X1 hx Bd.returns (hb hby own_dmx_4) Bd.notSynchronized (by decide) (by decide) ?_
  rw [e1]
  exact ⟨rfl, N0, rfl⟩
theorem own_pd11 : parseMethodDescriptor "()J" = some ⟨[], some .long⟩ := by decide +kernel
theorem own_dov_0 : decode prog_22_method_2_code 0 = .ok (.aload_n 0, 1) := by decide +kernel
theorem own_dov_1 : decode prog_22_method_2_code 1 = .ok (.getfield 13, 3) := by decide +kernel
theorem own_dov_4 : decode prog_22_method_2_code 4 = .ok (.aload_n 0, 1) := by decide +kernel
theorem own_dov_5 : decode prog_22_method_2_code 5 = .ok (.getfield 7, 3) := by decide +kernel
theorem own_dov_8 : decode prog_22_method_2_code 8 = .ok (.invokevirtual 17, 3) := by decide +kernel
theorem own_dov_11 : decode prog_22_method_2_code 11 = .ok (.lcmp, 1) := by decide +kernel
theorem own_dov_12 : decode prog_22_method_2_code 12 = .ok (.ifCond .le 7, 3) := by decide +kernel
theorem own_dov_15 : decode prog_22_method_2_code 15 = .ok (.iconst 1, 1) := by decide +kernel
theorem own_dov_16 : decode prog_22_method_2_code 16 = .ok (.goto 4, 3) := by decide +kernel
theorem own_dov_19 : decode prog_22_method_2_code 19 = .ok (.iconst 0, 1) := by decide +kernel
theorem own_dov_20 : decode prog_22_method_2_code 20 = .ok (.ireturn, 1) := by decide +kernel
theorem own_ef_ov (m : MethodId) (oa : Addr) : entryFrame m #[(.ref oa)] 1 = mkF m 0 #[.val (.ref oa)] [] := by first | (simp [entryFrame, mkF, argsToLocals, Value.category]; done) | rfl
def own_Q_ov (Z : State) (oa : Addr) (ol : Addr) (uc : Int64) (um : Int64) (h0 : Heap) (n0 : Nat) (v : Option Value) (h : Heap) (L : List Loc) : Prop := v = some (.int (own_gt uc um)) ∧ Fr n0 L ∧ h = h0
set_option maxRecDepth 65536 in
set_option maxHeartbeats 40000000 in
theorem own_rm_ov (l : Launch) (Z : State) (a0 : Array Value) (hw : ∀ d ∈ tables_1, d.before a0 Z = true) (ws : List Jvm.Cond) (oa : Addr) (ol : Addr) (uc : Int64) (um : Int64) (h0 : Heap) (n0 : Nat) (Z0 : n0 ≤ h0.size) (F_oa_limit : Fld Z h0 oa "com/example/inrush/inrush/engine/Limit$Verdict" "limit" "Lcom/example/inrush/inrush/engine/Limit;" (.ref ol)) (F_oa_count : Fld Z h0 oa "com/example/inrush/inrush/engine/Limit$Verdict" "count" "J" (.long uc)) (E_ol : Exa Z h0 ol "com/example/inrush/inrush/engine/Limit") (F_ol_max : Fld Z h0 ol "com/example/inrush/inrush/engine/Limit" "max" "J" (.long um)) :
    MetFree l (⟨"com/example/inrush/inrush/engine/Limit$Verdict", "over", "()Z"⟩ : MethodName) (head1 (Jvm.Cond.code (⟨"com/example/inrush/inrush/engine/Limit$Verdict", "over", "()Z"⟩ : MethodName) prog_22_method_2_code 1 (some .boolean) :: ws) ({ frames := 1, cells := 0, slots := 0, locals := 14 } : Room)) (fun a U => a = #[(.ref oa)] ∧ Z.Warmed39 U.vm ∧ U.heap = h0) (fun _ _ _ _ _ => True) (fun _ U o U' => ∃ v L, o = .returned v ∧ own_Q_ov Z oa ol uc um h0 n0 v U'.heap L ∧ FrameEnd U o U' L ({ frames := 1, cells := 0, slots := 0, locals := 14 } : Room).cells ({ frames := 1, cells := 0, slots := 0, locals := 14 } : Room).slots) := by
  refine MetFree.of_bodySF (plainFor_of_name own_pn6) hisR ?_
  intro p e s m args below meth c s₁ Bd hml0 hP hK
  obtain ⟨rfl, hZ, hh⟩ := hP
  have hx := Bd.exec
  have hby := Bd.bytes
  have hml : c.maxLocals = 1 := hml0
  have hown : s.vm.findClass "com/example/inrush/inrush/engine/Limit$Verdict" = some m.cls := findClass_of_methodNamed Bd.named
  have hnm := (name_of_methodNamed Bd.named Bd.method).1
  have X0 : Stand p l e ({ frames := 1, cells := 0, slots := 0, locals := 14 } : Room) s m #[(.ref oa)] below meth c s₁ [] 0 0 := Stand.of_body Bd
  have e0 : s₁.heap = h0 := by rw [← hh, Bd.state]; rfl
  have N0 := Fr.nil n0
  show own_Fin p e below s (own_Q_ov Z oa ol uc um h0 n0) ({ frames := 1, cells := 0, slots := 0, locals := 14 } : Room).cells ({ frames := 1, cells := 0, slots := 0, locals := 14 } : Room).slots (s₁.setTop (entryFrame m #[(.ref oa)] 1))
  refine own_Fin.go (fun t k => castTop (own_ef_ov m oa) k) ?_
  refine own_Fin.go (fun t k => XS.aloadN X0.here hx rfl (hb hby own_dov_0) rfl rfl k) ?_
  show own_Fin _ _ _ _ _ _ _ (s₁.setTop (mkF m 1 #[.val (.ref oa)] [(.ref oa)]))
  obtain ⟨T1, X1, e1, st1⟩ := getF X0 hx hZ hown (host := "") (Or.inl (hw _ (List.mem_of_getElem? (i := 84) rfl))) Via.refl e0 F_oa_count (g := (mkF m 1 #[.val (.ref oa)] [(.ref oa)])) rfl rfl (hb hby own_dov_1)
  refine own_Fin.go st1 ?_
  show own_Fin _ _ _ _ _ _ _ (T1.setTop (mkF m 4 #[.val (.ref oa)] [(.long uc)]))
  refine own_Fin.go (fun t k => XS.aloadN X1.here hx rfl (hb hby own_dov_4) rfl rfl k) ?_
  show own_Fin _ _ _ _ _ _ _ (T1.setTop (mkF m 5 #[.val (.ref oa)] [(.ref oa), (.long uc)]))
  obtain ⟨T2, X2, e2, st2⟩ := getF X1 hx hZ hown (host := "") (Or.inl (hw _ (List.mem_of_getElem? (i := 82) rfl))) Via.refl e1 F_oa_limit (g := (mkF m 5 #[.val (.ref oa)] [(.ref oa), (.long uc)])) rfl rfl (hb hby own_dov_5)
  refine own_Fin.go st2 ?_
  show own_Fin _ _ _ _ _ _ _ (T2.setTop (mkF m 8 #[.val (.ref oa)] [(.ref ol), (.long uc)]))
  obtain ⟨cq3, kq3, q3a, q3b, q3c⟩ := isOf hZ e2 E_ol
  obtain ⟨_, _, ⟨T3, L3, k3, n3⟩, -, X3, ⟨Lc3, hQ3, l3, y3, z3⟩, st3⟩ := X2.virtualBack hx (y := (⟨"com/example/inrush/inrush/engine/Limit", "max", "()J"⟩ : MethodName)) (z := (⟨"com/example/inrush/inrush/engine/Limit", "max", "()J"⟩ : MethodName)) hown (mvT hZ (hw _ (List.mem_of_getElem? (i := 91) rfl))) (mvT hZ (hw _ (List.mem_of_getElem? (i := 92) rfl))) (notFace_of_selects (args := #[]) (mvT hZ (hw _ (List.mem_of_getElem? (i := 94) rfl)))) (mvT hZ (hw _ (List.mem_of_getElem? (i := 94) rfl))) (mvT hZ (hw _ (List.mem_of_getElem? (i := 93) rfl))) (by decide) (backOf (W := 2) (own_rm_mx l Z a0 hw [] ol um h0 n0 Z0 F_ol_max) hZ (hw _ (List.mem_of_getElem? (i := 95) rfl)) (hw _ (List.mem_of_getElem? (i := 3) rfl)) (by decide) (by decide)) q3a q3c (g := (mkF m 8 #[.val (.ref oa)] [(.ref ol), (.long uc)])) rfl (by rw [hml]; rfl) (Steps.refl _) (argsL := []) (rest := [(.long uc)]) (lenOf own_pd11 rfl) rfl (by show 2 * 0 + _ ≤ _; exact Nat.le_of_eq rfl) (hb hby own_dov_8) (fun _ _ => ⟨rfl, e2, (by decide : 0 + 0 ≤ _), (by decide : 0 + 0 ≤ _)⟩)
  dsimp only [Pt.U, Pt.locs, Pt.cells, Pt.slots] at X3 l3 y3 z3 st3 hQ3
  subst l3 y3 z3
  obtain ⟨rfl, N3q, e3⟩ := hQ3
  refine own_Fin.go (fun t k => st3.trans k) ?_
  have N3 := Fr.app N0 N3q
  show own_Fin _ _ _ _ _ _ _ (T3.setTop (mkF m 11 #[.val (.ref oa)] [(.long um), (.long uc)]))
  refine own_Fin.go (fun t k => XS.lcmp X3.here hx rfl (hb hby own_dov_11) rfl k) ?_
  show own_Fin _ _ _ _ _ _ _ (T3.setTop (mkF m 12 #[.val (.ref oa)] [(.int (lcmpW uc um))]))
  by_cases hc12 : um < uc
  · refine own_Fin.go (fun t k => XS.ifNo X3.here hx rfl (hb hby own_dov_12) rfl (Jvm.Free.XT.ll_le_f hc12) k) ?_
    show own_Fin _ _ _ _ _ _ _ (T3.setTop (mkF m 15 #[.val (.ref oa)] []))
    refine own_Fin.go (fun t k => XS.iconst X3.here hx rfl (hb hby own_dov_15) k) ?_
    show own_Fin _ _ _ _ _ _ _ (T3.setTop (mkF m 16 #[.val (.ref oa)] [(.int (1 : Int32))]))
    refine own_Fin.go (fun t k => XS.goto X3.here hx rfl (pc0 := 16) (pc' := 20) rfl (hb hby own_dov_16) (by decide) (by decide) k) ?_
    show own_Fin _ _ _ _ _ _ _ (T3.setTop (mkF m 20 #[.val (.ref oa)] [(.int (1 : Int32))]))
    refine own_retN X3 hx (t := .boolean) (w := (1 : Int32)) Bd.returns (by simp) (hb hby own_dov_20) Bd.notSynchronized rfl (by decide) (by decide) ?_
    rw [e3]
    exact ⟨by simp only [own_gt, if_pos hc12], N3, rfl⟩
  · refine own_Fin.go (fun t k => XS.ifYes X3.here hx rfl (pc0 := 12) (pc' := 19) rfl (hb hby own_dov_12) rfl (Jvm.Free.XT.ll_le_t hc12) (by decide) (by decide) k) ?_
    show own_Fin _ _ _ _ _ _ _ (T3.setTop (mkF m 19 #[.val (.ref oa)] []))
    refine own_Fin.go (fun t k => XS.iconst X3.here hx rfl (hb hby own_dov_19) k) ?_
    show own_Fin _ _ _ _ _ _ _ (T3.setTop (mkF m 20 #[.val (.ref oa)] [(.int (0 : Int32))]))
    refine own_retN X3 hx (t := .boolean) (w := (0 : Int32)) Bd.returns (by simp) (hb hby own_dov_20) Bd.notSynchronized rfl (by decide) (by decide) ?_
    rw [e3]
    exact ⟨by simp only [own_gt, if_neg hc12], N3, rfl⟩
theorem own_pd12 : parseMethodDescriptor "(Ljava/lang/String;Ljava/lang/String;J)V" = some ⟨[(.object "java/lang/String"), (.object "java/lang/String"), .long], none⟩ := by decide +kernel
theorem own_pd13 : parseMethodDescriptor "(Lcom/example/inrush/inrush/engine/Limit;J)V" = some ⟨[(.object "com/example/inrush/inrush/engine/Limit"), .long], none⟩ := by decide +kernel
theorem own_pn7 : plainName "com/example/inrush/inrush/engine/VerdictOverPinLaw" = true := by first | (simp [plainName, overriddenIn]; done) | decide +kernel
theorem own_ef_law (m : MethodId) (va : Int64) (vb : Int64) : entryFrame m #[(.long va), (.long vb)] maxLocals = mkF m 0 #[.val (.long va), .second, .val (.long vb), .second, .unset, .unset, .unset, .unset, .unset, .unset, .unset] [] := by first | (simp [entryFrame, mkF, argsToLocals, Value.category, maxLocals]; done) | rfl
def own_Q_law (Z : State) (va : Int64) (vb : Int64) (vcs : Int32) (vf : Value) (h0 : Heap) (n0 : Nat) (v : Option Value) (h : Heap) (L : List Loc) : Prop := v = some (.int (1 : Int32)) ∧ Fr n0 L
set_option maxRecDepth 65536 in
set_option maxHeartbeats 40000000 in
theorem own_rm_law (l : Launch) (Z : State) (a0 : Array Value) (hw : ∀ d ∈ tables_1, d.before a0 Z = true) (ws : List Jvm.Cond) (va : Int64) (vb : Int64) (vcs : Int32) (vf : Value) (h0 : Heap) (n0 : Nat) (Z0 : n0 ≤ h0.size) (S_COMPACT_STRINGS : Sta Z h0 "java/lang/String" "COMPACT_STRINGS" "Z" (.int vcs)) (hcs : ¬ vcs = 0) (S_SIOOBE_FORMATTER : Sta Z h0 "jdk/internal/util/Preconditions" "SIOOBE_FORMATTER" "Ljava/util/function/BiFunction;" vf) (hvf : vf.isRef = true) (hc13 : Jvm.Lit.constHeld Z "com/example/inrush/inrush/engine/VerdictOverPinLaw" 13) (hcw : Jvm.Lit.compactW.before a0 Z = true) :
    MetFree l x (head1 (Jvm.Cond.code x code maxLocals ret :: ws) room_1) (fun a U => a = #[(.long va), (.long vb)] ∧ Z.Warmed39 U.vm ∧ U.heap = h0 ∧ U.vm = Z.vm ∧ n0 = h0.size ∧ Z.heap = h0) (fun _ _ _ _ _ => True) (fun _ U o U' => ∃ v L, o = .returned v ∧ own_Q_law Z va vb vcs vf h0 n0 v U'.heap L ∧ FramedW U o U' L room_1.cells room_1.slots) := by
  refine MetFree.of_bodySF (plainFor_of_name own_pn7) hisR ?_
  intro p e s m args below meth c s₁ Bd hml0 hP hK
  obtain ⟨rfl, hZ, hh, hvm, hn0, hZh⟩ := hP
  have hx := Bd.exec
  have hby := Bd.bytes
  have hml : c.maxLocals = 11 := hml0
  have hown : s.vm.findClass "com/example/inrush/inrush/engine/VerdictOverPinLaw" = some m.cls := findClass_of_methodNamed Bd.named
  have hnm := (name_of_methodNamed Bd.named Bd.method).1
  have X0 : Stand p l e room_1 s m #[(.long va), (.long vb)] below meth c s₁ [] 0 0 := Stand.of_body Bd
  have e0 : s₁.heap = h0 := by rw [← hh, Bd.state]; rfl
  have N0 := Fr.nil n0
  have hS : s.Since s.vm 0 := State.WarmedH.since (State.WarmedH.refl s) 0
  have hk0 : 0 ≤ h0.size := Nat.zero_le _
  have IB0 : IB Z s.vm [] := by rw [hvm]; exact IB.start
  have wS : ∀ a ∈ Bundle.stringAtoms, a.before a0 Z = true := by
    intro a ha
    simp only [Bundle.stringAtoms, Bundle.sN, List.mem_cons, List.not_mem_nil, or_false] at ha
    rcases ha with rfl | rfl | rfl | rfl | rfl | rfl | rfl
    · exact (hw _ (List.mem_of_getElem? (i := 5) rfl))
    · exact (hw _ (List.mem_of_getElem? (i := 6) rfl))
    · exact (hw _ (List.mem_of_getElem? (i := 7) rfl))
    · exact (hw _ (List.mem_of_getElem? (i := 8) rfl))
    · exact (hw _ (List.mem_of_getElem? (i := 9) rfl))
    · exact (hw _ (List.mem_of_getElem? (i := 10) rfl))
    · exact (hw _ (List.mem_of_getElem? (i := 11) rfl))
  show own_FinW p e below s (own_Q_law Z va vb vcs vf h0 n0) room_1.cells room_1.slots (s₁.setTop (entryFrame m #[(.long va), (.long vb)] maxLocals))
  refine own_FinW.go (fun t k => castTop (own_ef_law m va vb) k) ?_
  refine own_FinW.go (fun t k => XS.lloadN X0.here hx rfl (hb hby at_0) rfl k) ?_
  show own_FinW _ _ _ _ _ _ _ (s₁.setTop (mkF m 1 #[.val (.long va), .second, .val (.long vb), .second, .unset, .unset, .unset, .unset, .unset, .unset, .unset] [(.long va)]))
  refine own_FinW.go (fun t k => X0.ldc2Long hx hown (mvT hZ (hw _ (List.mem_of_getElem? (i := 0) rfl))) (g := (mkF m 1 #[.val (.long va), .second, .val (.long vb), .second, .unset, .unset, .unset, .unset, .unset, .unset, .unset] [(.long va)])) rfl (hb hby at_1) t k) ?_
  show own_FinW _ _ _ _ _ _ _ (s₁.setTop (mkF m 4 #[.val (.long va), .second, .val (.long vb), .second, .unset, .unset, .unset, .unset, .unset, .unset, .unset] [(.long (9223372036854775807 : Int64)), (.long va)]))
  refine own_FinW.go (fun t k => XS.land X0.here hx rfl (hb hby at_4) rfl k) ?_
  show own_FinW _ _ _ _ _ _ _ (s₁.setTop (mkF m 5 #[.val (.long va), .second, .val (.long vb), .second, .unset, .unset, .unset, .unset, .unset, .unset, .unset] [(.long (va &&& (9223372036854775807 : Int64)))]))
  refine own_FinW.go (fun t k => XS.lstore X0.here hx rfl (hb hby at_5) rfl (l' := #[.val (.long va), .second, .val (.long vb), .second, .val (.long (va &&& (9223372036854775807 : Int64))), .second, .unset, .unset, .unset, .unset, .unset]) rfl k) ?_
  show own_FinW _ _ _ _ _ _ _ (s₁.setTop (mkF m 7 #[.val (.long va), .second, .val (.long vb), .second, .val (.long (va &&& (9223372036854775807 : Int64))), .second, .unset, .unset, .unset, .unset, .unset] []))
  obtain ⟨T1, h1, X1, e1, E1, A1, D1, -, st1⟩ := newO X0 hx hZ hown (hw _ (List.mem_of_getElem? (i := 1) rfl)) (hw _ (List.mem_of_getElem? (i := 2) rfl)) (hw _ (List.mem_of_getElem? (i := 3) rfl)) e0 (g := (mkF m 7 #[.val (.long va), .second, .val (.long vb), .second, .val (.long (va &&& (9223372036854775807 : Int64))), .second, .unset, .unset, .unset, .unset, .unset] [])) rfl (hb hby at_7) (by decide) (by decide)
  obtain ⟨b1, g1⟩ : ∃ z, z = h0.size := ⟨_, rfl⟩
  rw [← g1] at A1 D1 st1
  refine own_FinW.go st1 ?_
  have g_b1 : n0 ≤ b1 := Nat.le_trans Z0 (Nat.le_of_eq g1.symm)
  have S_COMPACT_STRINGS_1 := Sta.ext E1 S_COMPACT_STRINGS
  have S_SIOOBE_FORMATTER_1 := Sta.ext E1 S_SIOOBE_FORMATTER
  have Z1 := Nat.le_trans Z0 E1.1
  have hk1 := Nat.le_trans hk0 E1.1
  have F_b1_counter : Fld Z h1 b1 "com/example/inrush/inrush/engine/Limit" "counter" "Ljava/lang/String;" .null := D1 (Or.inr (hw _ (List.mem_of_getElem? (i := 70) rfl))) (ty := (.object "java/lang/String")) (by decide)
  have F_b1_window : Fld Z h1 b1 "com/example/inrush/inrush/engine/Limit" "window" "Ljava/lang/String;" .null := D1 (Or.inr (hw _ (List.mem_of_getElem? (i := 72) rfl))) (ty := (.object "java/lang/String")) (by decide)
  have F_b1_max : Fld Z h1 b1 "com/example/inrush/inrush/engine/Limit" "max" "J" (.long (0 : Int64)) := D1 (Or.inr (hw _ (List.mem_of_getElem? (i := 74) rfl))) (ty := .long) (by decide)
  show own_FinW _ _ _ _ _ _ _ (T1.setTop (mkF m 10 #[.val (.long va), .second, .val (.long vb), .second, .val (.long (va &&& (9223372036854775807 : Int64))), .second, .unset, .unset, .unset, .unset, .unset] [(.ref b1)]))
  refine own_FinW.go (fun t k => XS.dup X1.here hx rfl (hb hby at_10) rfl rfl k) ?_
  show own_FinW _ _ _ _ _ _ _ (T1.setTop (mkF m 11 #[.val (.long va), .second, .val (.long vb), .second, .val (.long (va &&& (9223372036854775807 : Int64))), .second, .unset, .unset, .unset, .unset, .unset] [(.ref b1), (.ref b1)]))
  obtain ⟨b2, T2, h2, kk2, v2, k2, X2, e2, E2, hS, hk2, hZ, hown, A2, Fc2, Fv2, V2, -, -, IB2, st2⟩ := ldcSV (s := s) (vm0 := s.vm) X1 hx hZ hown (hw _ (List.mem_of_getElem? (i := 4) rfl)) wS e1 hS hk1 (by rw [hh, ← hn0]; exact N0) (fun b_ cl_ q_ => by rw [hh, ← hZh]; exact q_) IB0 (by decide) hc13 hcw (vs := [(.int (99 : Int32))]) (z := (1 : Int32)) ⟨by decide, by decide⟩ (by decide) rfl (g := (mkF m 11 #[.val (.long va), .second, .val (.long vb), .second, .val (.long (va &&& (9223372036854775807 : Int64))), .second, .unset, .unset, .unset, .unset, .unset] [(.ref b1), (.ref b1)])) rfl (hb hby at_11) (n := 4) (by decide) (by decide) (by decide) (by decide)
  refine own_FinW.go st2 ?_
  have S_COMPACT_STRINGS_2 := Sta.ext E2 S_COMPACT_STRINGS_1
  have S_SIOOBE_FORMATTER_2 := Sta.ext E2 S_SIOOBE_FORMATTER_1
  have E_b1_2 := Exa.ext E2 A1
  have F_b1_counter_2 := Fld.ext E2 F_b1_counter
  have F_b1_window_2 := Fld.ext E2 F_b1_window
  have F_b1_max_2 := Fld.ext E2 F_b1_max
  have Z2 := Nat.le_trans Z1 E2.1
  show own_FinW _ _ _ _ _ _ _ (T2.setTop (mkF m 13 #[.val (.long va), .second, .val (.long vb), .second, .val (.long (va &&& (9223372036854775807 : Int64))), .second, .unset, .unset, .unset, .unset, .unset] [(.ref b2), (.ref b1), (.ref b1)]))
  obtain ⟨b3, T3, h3, kk3, X3, e3, E3, hS, hk3, hZ, hown, st3⟩ := ldcS (s := s) (vm0 := T2.vm) X2 hx hZ hown (hw _ (List.mem_of_getElem? (i := 12) rfl)) wS e2 hS hk2 (g := (mkF m 13 #[.val (.long va), .second, .val (.long vb), .second, .val (.long (va &&& (9223372036854775807 : Int64))), .second, .unset, .unset, .unset, .unset, .unset] [(.ref b2), (.ref b1), (.ref b1)])) rfl (hb hby at_13) (n := 4) (by decide) (by decide) (by decide) (by decide)
  refine own_FinW.go st3 ?_
  have S_COMPACT_STRINGS_3 := Sta.ext E3 S_COMPACT_STRINGS_2
  have S_SIOOBE_FORMATTER_3 := Sta.ext E3 S_SIOOBE_FORMATTER_2
  have E_b1_3 := Exa.ext E3 E_b1_2
  have F_b1_counter_3 := Fld.ext E3 F_b1_counter_2
  have F_b1_window_3 := Fld.ext E3 F_b1_window_2
  have F_b1_max_3 := Fld.ext E3 F_b1_max_2
  have E_b2_3 := Exa.ext E3 A2
  have F_b2_coder_3 := Fld.ext E3 Fc2
  have F_b2_value_3 := Fld.ext E3 Fv2
  have V_v2_3 := V2.ext E3
  have Z3 := Nat.le_trans Z2 E3.1
  show own_FinW _ _ _ _ _ _ _ (T3.setTop (mkF m 15 #[.val (.long va), .second, .val (.long vb), .second, .val (.long (va &&& (9223372036854775807 : Int64))), .second, .unset, .unset, .unset, .unset, .unset] [(.ref b3), (.ref b2), (.ref b1), (.ref b1)]))
  refine own_FinW.go (fun t k => XS.lload X3.here hx rfl (hb hby at_15) rfl k) ?_
  show own_FinW _ _ _ _ _ _ _ (T3.setTop (mkF m 17 #[.val (.long va), .second, .val (.long vb), .second, .val (.long (va &&& (9223372036854775807 : Int64))), .second, .unset, .unset, .unset, .unset, .unset] [(.long (va &&& (9223372036854775807 : Int64))), (.ref b3), (.ref b2), (.ref b1), (.ref b1)]))
  obtain ⟨_, _, ⟨T4, L4, k4, n4⟩, -, X4, ⟨Lc4, hQ4, l4, y4, z4⟩, st4⟩ := X3.specialBack hx (y := (⟨"com/example/inrush/inrush/engine/Limit", "<init>", "(Ljava/lang/String;Ljava/lang/String;J)V"⟩ : MethodName)) rfl hown (mvT hZ (hw _ (List.mem_of_getElem? (i := 13) rfl))) (mvT hZ (hw _ (List.mem_of_getElem? (i := 14) rfl))) (mvT hZ (hw _ (List.mem_of_getElem? (i := 15) rfl))) (by decide) (backOf (W := 1) (own_rm_lim l Z a0 hw [] b1 b2 b3 (va &&& (9223372036854775807 : Int64)) vcs v2 k2 vf h3 n0 Z3 E_b1_3 F_b1_counter_3 F_b1_window_3 F_b1_max_3 g_b1 E_b2_3 F_b2_value_3 F_b2_coder_3 V_v2_3 S_COMPACT_STRINGS_3 (by assumption) S_SIOOBE_FORMATTER_3 (by assumption) (own_nn va)) hZ (hw _ (List.mem_of_getElem? (i := 15) rfl)) (hw _ (List.mem_of_getElem? (i := 3) rfl)) (by decide) (by decide)) (g := (mkF m 17 #[.val (.long va), .second, .val (.long vb), .second, .val (.long (va &&& (9223372036854775807 : Int64))), .second, .unset, .unset, .unset, .unset, .unset] [(.long (va &&& (9223372036854775807 : Int64))), (.ref b3), (.ref b2), (.ref b1), (.ref b1)])) rfl (by rw [hml]; rfl) (Steps.refl _) (a := b1) (argsL := [(.ref b2), (.ref b3), (.long (va &&& (9223372036854775807 : Int64)))]) (rest := [(.ref b1)]) (lenOf own_pd12 rfl) rfl (by show 2 * 0 + _ ≤ _; exact Nat.le_of_eq rfl) (hb hby at_17) (fun _ _ => ⟨rfl, e3, (by decide : 5 + 0 ≤ _), (by decide : 19 + 0 ≤ _)⟩)
  dsimp only [Pt.U, Pt.locs, Pt.cells, Pt.slots] at X4 l4 y4 z4 st4 hQ4
  subst l4 y4 z4
  obtain ⟨rfl, N4q, K4q, c4_1, c4_2⟩ := hQ4
  refine own_FinW.go (fun t k => st4.trans k) ?_
  have N4 := Fr.app N0 N4q
  have Z4 := Nat.le_trans Z3 K4q.1
  have hk4 := Nat.le_trans hk3 K4q.1
  show own_FinW _ _ _ _ _ _ _ (T4.setTop (mkF m 20 #[.val (.long va), .second, .val (.long vb), .second, .val (.long (va &&& (9223372036854775807 : Int64))), .second, .unset, .unset, .unset, .unset, .unset] [(.ref b1)]))
  refine own_FinW.go (fun t k => XS.astore X4.here hx rfl (hb hby at_20) rfl rfl (l' := #[.val (.long va), .second, .val (.long vb), .second, .val (.long (va &&& (9223372036854775807 : Int64))), .second, .val (.ref b1), .unset, .unset, .unset, .unset]) rfl k) ?_
  show own_FinW _ _ _ _ _ _ _ (T4.setTop (mkF m 22 #[.val (.long va), .second, .val (.long vb), .second, .val (.long (va &&& (9223372036854775807 : Int64))), .second, .val (.ref b1), .unset, .unset, .unset, .unset] []))
  obtain ⟨T5, h5, X5, e5, E5, A5, D5, -, st5⟩ := newO X4 hx hZ hown (hw _ (List.mem_of_getElem? (i := 75) rfl)) (hw _ (List.mem_of_getElem? (i := 76) rfl)) (hw _ (List.mem_of_getElem? (i := 77) rfl)) rfl (g := (mkF m 22 #[.val (.long va), .second, .val (.long vb), .second, .val (.long (va &&& (9223372036854775807 : Int64))), .second, .val (.ref b1), .unset, .unset, .unset, .unset] [])) rfl (hb hby at_22) (by decide) (by decide)
  obtain ⟨b5, g5⟩ : ∃ z, z = T4.heap.size := ⟨_, rfl⟩
  rw [← g5] at A5 D5 st5
  refine own_FinW.go st5 ?_
  have g_b5 : n0 ≤ b5 := Nat.le_trans Z4 (Nat.le_of_eq g5.symm)
  have ne_b1_b5 : b1 ≠ b5 := Nat.ne_of_lt (Nat.lt_of_lt_of_le c4_2.lt (Nat.le_of_eq g5.symm))
  have E_b1_5 := Exa.ext E5 c4_1
  have F_b1_max_5 := Fld.ext E5 c4_2
  have Z5 := Nat.le_trans Z4 E5.1
  have hk5 := Nat.le_trans hk4 E5.1
  have F_b5_limit : Fld Z h5 b5 "com/example/inrush/inrush/engine/Limit$Verdict" "limit" "Lcom/example/inrush/inrush/engine/Limit;" .null := D5 (Or.inr (hw _ (List.mem_of_getElem? (i := 83) rfl))) (ty := (.object "com/example/inrush/inrush/engine/Limit")) (by decide)
  have F_b5_count : Fld Z h5 b5 "com/example/inrush/inrush/engine/Limit$Verdict" "count" "J" (.long (0 : Int64)) := D5 (Or.inr (hw _ (List.mem_of_getElem? (i := 85) rfl))) (ty := .long) (by decide)
  show own_FinW _ _ _ _ _ _ _ (T5.setTop (mkF m 25 #[.val (.long va), .second, .val (.long vb), .second, .val (.long (va &&& (9223372036854775807 : Int64))), .second, .val (.ref b1), .unset, .unset, .unset, .unset] [(.ref b5)]))
  refine own_FinW.go (fun t k => XS.dup X5.here hx rfl (hb hby at_25) rfl rfl k) ?_
  show own_FinW _ _ _ _ _ _ _ (T5.setTop (mkF m 26 #[.val (.long va), .second, .val (.long vb), .second, .val (.long (va &&& (9223372036854775807 : Int64))), .second, .val (.ref b1), .unset, .unset, .unset, .unset] [(.ref b5), (.ref b5)]))
  refine own_FinW.go (fun t k => XS.aload X5.here hx rfl (hb hby at_26) rfl rfl k) ?_
  show own_FinW _ _ _ _ _ _ _ (T5.setTop (mkF m 28 #[.val (.long va), .second, .val (.long vb), .second, .val (.long (va &&& (9223372036854775807 : Int64))), .second, .val (.ref b1), .unset, .unset, .unset, .unset] [(.ref b1), (.ref b5), (.ref b5)]))
  refine own_FinW.go (fun t k => XS.lload X5.here hx rfl (hb hby at_28) rfl k) ?_
  show own_FinW _ _ _ _ _ _ _ (T5.setTop (mkF m 30 #[.val (.long va), .second, .val (.long vb), .second, .val (.long (va &&& (9223372036854775807 : Int64))), .second, .val (.ref b1), .unset, .unset, .unset, .unset] [(.long (va &&& (9223372036854775807 : Int64))), (.ref b1), (.ref b5), (.ref b5)]))
  obtain ⟨_, _, ⟨T6, L6, k6, n6⟩, -, X6, ⟨Lc6, hQ6, l6, y6, z6⟩, st6⟩ := X5.specialBack hx (y := (⟨"com/example/inrush/inrush/engine/Limit$Verdict", "<init>", "(Lcom/example/inrush/inrush/engine/Limit;J)V"⟩ : MethodName)) rfl hown (mvT hZ (hw _ (List.mem_of_getElem? (i := 78) rfl))) (mvT hZ (hw _ (List.mem_of_getElem? (i := 79) rfl))) (mvT hZ (hw _ (List.mem_of_getElem? (i := 80) rfl))) (by decide) (backOf (W := 1) (own_rm_ver l Z a0 hw [] b5 b1 (va &&& (9223372036854775807 : Int64))  h5 n0 Z5 A5 F_b5_limit F_b5_count g_b5) hZ (hw _ (List.mem_of_getElem? (i := 80) rfl)) (hw _ (List.mem_of_getElem? (i := 77) rfl)) (by decide) (by decide)) (g := (mkF m 30 #[.val (.long va), .second, .val (.long vb), .second, .val (.long (va &&& (9223372036854775807 : Int64))), .second, .val (.ref b1), .unset, .unset, .unset, .unset] [(.long (va &&& (9223372036854775807 : Int64))), (.ref b1), (.ref b5), (.ref b5)])) rfl (by rw [hml]; rfl) (Steps.refl _) (a := b5) (argsL := [(.ref b1), (.long (va &&& (9223372036854775807 : Int64)))]) (rest := [(.ref b5)]) (lenOf own_pd13 rfl) rfl (by show 2 * 0 + _ ≤ _; exact Nat.le_of_eq rfl) (hb hby at_30) (fun _ _ => ⟨rfl, e5, (by decide : 6 + 0 ≤ _), (by decide : 21 + 0 ≤ _)⟩)
  dsimp only [Pt.U, Pt.locs, Pt.cells, Pt.slots] at X6 l6 y6 z6 st6 hQ6
  subst l6 y6 z6
  obtain ⟨rfl, N6q, K6q, c6_1, c6_2, c6_3⟩ := hQ6
  refine own_FinW.go (fun t k => st6.trans k) ?_
  have N6 := Fr.app N4 N6q
  have E_b1_6 := E_b1_5.keep K6q
  have F_b1_max_6 := F_b1_max_5.keep K6q (ninS ne_b1_b5 nin0)
  have Z6 := Nat.le_trans Z5 K6q.1
  have hk6 := Nat.le_trans hk5 K6q.1
  show own_FinW _ _ _ _ _ _ _ (T6.setTop (mkF m 33 #[.val (.long va), .second, .val (.long vb), .second, .val (.long (va &&& (9223372036854775807 : Int64))), .second, .val (.ref b1), .unset, .unset, .unset, .unset] [(.ref b5)]))
  obtain ⟨cq7, kq7, q7a, q7b, q7c⟩ := isOf hZ rfl c6_1
  obtain ⟨_, _, ⟨T7, L7, k7, n7⟩, -, X7, ⟨Lc7, hQ7, l7, y7, z7⟩, st7⟩ := X6.virtualBack hx (y := (⟨"com/example/inrush/inrush/engine/Limit$Verdict", "over", "()Z"⟩ : MethodName)) (z := (⟨"com/example/inrush/inrush/engine/Limit$Verdict", "over", "()Z"⟩ : MethodName)) hown (mvT hZ (hw _ (List.mem_of_getElem? (i := 86) rfl))) (mvT hZ (hw _ (List.mem_of_getElem? (i := 87) rfl))) (notFace_of_selects (args := #[]) (mvT hZ (hw _ (List.mem_of_getElem? (i := 89) rfl)))) (mvT hZ (hw _ (List.mem_of_getElem? (i := 89) rfl))) (mvT hZ (hw _ (List.mem_of_getElem? (i := 88) rfl))) (by decide) (backOf (W := 0) (own_rm_ov l Z a0 hw [] b5 b1 (va &&& (9223372036854775807 : Int64)) (va &&& (9223372036854775807 : Int64)) T6.heap n0 Z6 c6_2 c6_3 E_b1_6 F_b1_max_6) hZ (hw _ (List.mem_of_getElem? (i := 90) rfl)) (hw _ (List.mem_of_getElem? (i := 77) rfl)) (by decide) (by decide)) q7a q7c (g := (mkF m 33 #[.val (.long va), .second, .val (.long vb), .second, .val (.long (va &&& (9223372036854775807 : Int64))), .second, .val (.ref b1), .unset, .unset, .unset, .unset] [(.ref b5)])) rfl (by rw [hml]; rfl) (Steps.refl _) (argsL := []) (rest := []) (lenOf own_pd3 rfl) rfl (by show 2 * 0 + _ ≤ _; exact Nat.le_of_eq rfl) (hb hby at_33) (fun _ _ => ⟨rfl, rfl, (by decide : 6 + 0 ≤ _), (by decide : 21 + 0 ≤ _)⟩)
  dsimp only [Pt.U, Pt.locs, Pt.cells, Pt.slots] at X7 l7 y7 z7 st7 hQ7
  subst l7 y7 z7
  obtain ⟨rfl, N7q, e7⟩ := hQ7
  refine own_FinW.go (fun t k => st7.trans k) ?_
  have N7 := Fr.app N6 N7q
  show own_FinW _ _ _ _ _ _ _ (T7.setTop (mkF m 36 #[.val (.long va), .second, .val (.long vb), .second, .val (.long (va &&& (9223372036854775807 : Int64))), .second, .val (.ref b1), .unset, .unset, .unset, .unset] [(.int (own_gt (va &&& (9223372036854775807 : Int64)) (va &&& (9223372036854775807 : Int64))))]))
  refine own_FinW.go (fun t k => XS.istore X7.here hx rfl (hb hby at_36) rfl (l' := #[.val (.long va), .second, .val (.long vb), .second, .val (.long (va &&& (9223372036854775807 : Int64))), .second, .val (.ref b1), .val (.int (own_gt (va &&& (9223372036854775807 : Int64)) (va &&& (9223372036854775807 : Int64)))), .unset, .unset, .unset]) rfl k) ?_
  show own_FinW _ _ _ _ _ _ _ (T7.setTop (mkF m 38 #[.val (.long va), .second, .val (.long vb), .second, .val (.long (va &&& (9223372036854775807 : Int64))), .second, .val (.ref b1), .val (.int (own_gt (va &&& (9223372036854775807 : Int64)) (va &&& (9223372036854775807 : Int64)))), .unset, .unset, .unset] []))
  refine own_FinW.go (fun t k => XS.iload X7.here hx rfl (hb hby at_38) rfl k) ?_
  show own_FinW _ _ _ _ _ _ _ (T7.setTop (mkF m 40 #[.val (.long va), .second, .val (.long vb), .second, .val (.long (va &&& (9223372036854775807 : Int64))), .second, .val (.ref b1), .val (.int (own_gt (va &&& (9223372036854775807 : Int64)) (va &&& (9223372036854775807 : Int64)))), .unset, .unset, .unset] [(.int (own_gt (va &&& (9223372036854775807 : Int64)) (va &&& (9223372036854775807 : Int64))))]))
  have hc40 : (own_gt (va &&& (9223372036854775807 : Int64)) (va &&& (9223372036854775807 : Int64))) = (0 : Int32) := own_self _
  refine own_FinW.go (fun t k => XS.ifYes X7.here hx rfl (pc0 := 40) (pc' := 45) rfl (hb hby at_40) rfl (Jvm.Free.XT.i0_eq_t hc40) (by decide) (by decide) k) ?_
  show own_FinW _ _ _ _ _ _ _ (T7.setTop (mkF m 45 #[.val (.long va), .second, .val (.long vb), .second, .val (.long (va &&& (9223372036854775807 : Int64))), .second, .val (.ref b1), .val (.int (own_gt (va &&& (9223372036854775807 : Int64)) (va &&& (9223372036854775807 : Int64)))), .unset, .unset, .unset] []))
  obtain ⟨T8, h8, X8, e8, E8, A8, D8, -, st8⟩ := newO X7 hx hZ hown (hw _ (List.mem_of_getElem? (i := 75) rfl)) (hw _ (List.mem_of_getElem? (i := 76) rfl)) (hw _ (List.mem_of_getElem? (i := 77) rfl)) e7 (g := (mkF m 45 #[.val (.long va), .second, .val (.long vb), .second, .val (.long (va &&& (9223372036854775807 : Int64))), .second, .val (.ref b1), .val (.int (own_gt (va &&& (9223372036854775807 : Int64)) (va &&& (9223372036854775807 : Int64)))), .unset, .unset, .unset] [])) rfl (hb hby at_45) (by decide) (by decide)
  obtain ⟨b8, g8⟩ : ∃ z, z = T6.heap.size := ⟨_, rfl⟩
  rw [← g8] at A8 D8 st8
  refine own_FinW.go st8 ?_
  have g_b8 : n0 ≤ b8 := Nat.le_trans Z6 (Nat.le_of_eq g8.symm)
  have ne_b1_b8 : b1 ≠ b8 := Nat.ne_of_lt (Nat.lt_of_lt_of_le F_b1_max_6.lt (Nat.le_of_eq g8.symm))
  have ne_b5_b8 : b5 ≠ b8 := Nat.ne_of_lt (Nat.lt_of_lt_of_le c6_3.lt (Nat.le_of_eq g8.symm))
  have E_b1_8 := Exa.ext E8 E_b1_6
  have F_b1_max_8 := Fld.ext E8 F_b1_max_6
  have E_b5_8 := Exa.ext E8 c6_1
  have F_b5_limit_8 := Fld.ext E8 c6_2
  have F_b5_count_8 := Fld.ext E8 c6_3
  have Z8 := Nat.le_trans Z6 E8.1
  have hk8 := Nat.le_trans hk6 E8.1
  have F_b8_limit : Fld Z h8 b8 "com/example/inrush/inrush/engine/Limit$Verdict" "limit" "Lcom/example/inrush/inrush/engine/Limit;" .null := D8 (Or.inr (hw _ (List.mem_of_getElem? (i := 83) rfl))) (ty := (.object "com/example/inrush/inrush/engine/Limit")) (by decide)
  have F_b8_count : Fld Z h8 b8 "com/example/inrush/inrush/engine/Limit$Verdict" "count" "J" (.long (0 : Int64)) := D8 (Or.inr (hw _ (List.mem_of_getElem? (i := 85) rfl))) (ty := .long) (by decide)
  show own_FinW _ _ _ _ _ _ _ (T8.setTop (mkF m 48 #[.val (.long va), .second, .val (.long vb), .second, .val (.long (va &&& (9223372036854775807 : Int64))), .second, .val (.ref b1), .val (.int (own_gt (va &&& (9223372036854775807 : Int64)) (va &&& (9223372036854775807 : Int64)))), .unset, .unset, .unset] [(.ref b8)]))
  refine own_FinW.go (fun t k => XS.dup X8.here hx rfl (hb hby at_48) rfl rfl k) ?_
  show own_FinW _ _ _ _ _ _ _ (T8.setTop (mkF m 49 #[.val (.long va), .second, .val (.long vb), .second, .val (.long (va &&& (9223372036854775807 : Int64))), .second, .val (.ref b1), .val (.int (own_gt (va &&& (9223372036854775807 : Int64)) (va &&& (9223372036854775807 : Int64)))), .unset, .unset, .unset] [(.ref b8), (.ref b8)]))
  refine own_FinW.go (fun t k => XS.aload X8.here hx rfl (hb hby at_49) rfl rfl k) ?_
  show own_FinW _ _ _ _ _ _ _ (T8.setTop (mkF m 51 #[.val (.long va), .second, .val (.long vb), .second, .val (.long (va &&& (9223372036854775807 : Int64))), .second, .val (.ref b1), .val (.int (own_gt (va &&& (9223372036854775807 : Int64)) (va &&& (9223372036854775807 : Int64)))), .unset, .unset, .unset] [(.ref b1), (.ref b8), (.ref b8)]))
  refine own_FinW.go (fun t k => XS.lloadN X8.here hx rfl (hb hby at_51) rfl k) ?_
  show own_FinW _ _ _ _ _ _ _ (T8.setTop (mkF m 52 #[.val (.long va), .second, .val (.long vb), .second, .val (.long (va &&& (9223372036854775807 : Int64))), .second, .val (.ref b1), .val (.int (own_gt (va &&& (9223372036854775807 : Int64)) (va &&& (9223372036854775807 : Int64)))), .unset, .unset, .unset] [(.long vb), (.ref b1), (.ref b8), (.ref b8)]))
  obtain ⟨_, _, ⟨T9, L9, k9, n9⟩, -, X9, ⟨Lc9, hQ9, l9, y9, z9⟩, st9⟩ := X8.specialBack hx (y := (⟨"com/example/inrush/inrush/engine/Limit$Verdict", "<init>", "(Lcom/example/inrush/inrush/engine/Limit;J)V"⟩ : MethodName)) rfl hown (mvT hZ (hw _ (List.mem_of_getElem? (i := 78) rfl))) (mvT hZ (hw _ (List.mem_of_getElem? (i := 79) rfl))) (mvT hZ (hw _ (List.mem_of_getElem? (i := 80) rfl))) (by decide) (backOf (W := 1) (own_rm_ver l Z a0 hw [] b8 b1 vb  h8 n0 Z8 A8 F_b8_limit F_b8_count g_b8) hZ (hw _ (List.mem_of_getElem? (i := 80) rfl)) (hw _ (List.mem_of_getElem? (i := 77) rfl)) (by decide) (by decide)) (g := (mkF m 52 #[.val (.long va), .second, .val (.long vb), .second, .val (.long (va &&& (9223372036854775807 : Int64))), .second, .val (.ref b1), .val (.int (own_gt (va &&& (9223372036854775807 : Int64)) (va &&& (9223372036854775807 : Int64)))), .unset, .unset, .unset] [(.long vb), (.ref b1), (.ref b8), (.ref b8)])) rfl (by rw [hml]; rfl) (Steps.refl _) (a := b8) (argsL := [(.ref b1), (.long vb)]) (rest := [(.ref b8)]) (lenOf own_pd13 rfl) rfl (by show 2 * 0 + _ ≤ _; exact Nat.le_of_eq rfl) (hb hby at_52) (fun _ _ => ⟨rfl, e8, (by decide : 7 + 0 ≤ _), (by decide : 23 + 0 ≤ _)⟩)
  dsimp only [Pt.U, Pt.locs, Pt.cells, Pt.slots] at X9 l9 y9 z9 st9 hQ9
  subst l9 y9 z9
  obtain ⟨rfl, N9q, K9q, c9_1, c9_2, c9_3⟩ := hQ9
  refine own_FinW.go (fun t k => st9.trans k) ?_
  have N9 := Fr.app N7 N9q
  have E_b1_9 := E_b1_8.keep K9q
  have F_b1_max_9 := F_b1_max_8.keep K9q (ninS ne_b1_b8 nin0)
  have E_b5_9 := E_b5_8.keep K9q
  have F_b5_limit_9 := F_b5_limit_8.keep K9q (ninS ne_b5_b8 nin0)
  have F_b5_count_9 := F_b5_count_8.keep K9q (ninS ne_b5_b8 nin0)
  have Z9 := Nat.le_trans Z8 K9q.1
  have hk9 := Nat.le_trans hk8 K9q.1
  show own_FinW _ _ _ _ _ _ _ (T9.setTop (mkF m 55 #[.val (.long va), .second, .val (.long vb), .second, .val (.long (va &&& (9223372036854775807 : Int64))), .second, .val (.ref b1), .val (.int (own_gt (va &&& (9223372036854775807 : Int64)) (va &&& (9223372036854775807 : Int64)))), .unset, .unset, .unset] [(.ref b8)]))
  obtain ⟨cq10, kq10, q10a, q10b, q10c⟩ := isOf hZ rfl c9_1
  obtain ⟨_, _, ⟨T10, L10, k10, n10⟩, -, X10, ⟨Lc10, hQ10, l10, y10, z10⟩, st10⟩ := X9.virtualBack hx (y := (⟨"com/example/inrush/inrush/engine/Limit$Verdict", "over", "()Z"⟩ : MethodName)) (z := (⟨"com/example/inrush/inrush/engine/Limit$Verdict", "over", "()Z"⟩ : MethodName)) hown (mvT hZ (hw _ (List.mem_of_getElem? (i := 86) rfl))) (mvT hZ (hw _ (List.mem_of_getElem? (i := 87) rfl))) (notFace_of_selects (args := #[]) (mvT hZ (hw _ (List.mem_of_getElem? (i := 89) rfl)))) (mvT hZ (hw _ (List.mem_of_getElem? (i := 89) rfl))) (mvT hZ (hw _ (List.mem_of_getElem? (i := 88) rfl))) (by decide) (backOf (W := 0) (own_rm_ov l Z a0 hw [] b8 b1 vb (va &&& (9223372036854775807 : Int64)) T9.heap n0 Z9 c9_2 c9_3 E_b1_9 F_b1_max_9) hZ (hw _ (List.mem_of_getElem? (i := 90) rfl)) (hw _ (List.mem_of_getElem? (i := 77) rfl)) (by decide) (by decide)) q10a q10c (g := (mkF m 55 #[.val (.long va), .second, .val (.long vb), .second, .val (.long (va &&& (9223372036854775807 : Int64))), .second, .val (.ref b1), .val (.int (own_gt (va &&& (9223372036854775807 : Int64)) (va &&& (9223372036854775807 : Int64)))), .unset, .unset, .unset] [(.ref b8)])) rfl (by rw [hml]; rfl) (Steps.refl _) (argsL := []) (rest := []) (lenOf own_pd3 rfl) rfl (by show 2 * 0 + _ ≤ _; exact Nat.le_of_eq rfl) (hb hby at_55) (fun _ _ => ⟨rfl, rfl, (by decide : 7 + 0 ≤ _), (by decide : 23 + 0 ≤ _)⟩)
  dsimp only [Pt.U, Pt.locs, Pt.cells, Pt.slots] at X10 l10 y10 z10 st10 hQ10
  subst l10 y10 z10
  obtain ⟨rfl, N10q, e10⟩ := hQ10
  refine own_FinW.go (fun t k => st10.trans k) ?_
  have N10 := Fr.app N9 N10q
  show own_FinW _ _ _ _ _ _ _ (T10.setTop (mkF m 58 #[.val (.long va), .second, .val (.long vb), .second, .val (.long (va &&& (9223372036854775807 : Int64))), .second, .val (.ref b1), .val (.int (own_gt (va &&& (9223372036854775807 : Int64)) (va &&& (9223372036854775807 : Int64)))), .unset, .unset, .unset] [(.int (own_gt vb (va &&& (9223372036854775807 : Int64))))]))
  refine own_FinW.go (fun t k => XS.istore X10.here hx rfl (hb hby at_58) rfl (l' := #[.val (.long va), .second, .val (.long vb), .second, .val (.long (va &&& (9223372036854775807 : Int64))), .second, .val (.ref b1), .val (.int (own_gt (va &&& (9223372036854775807 : Int64)) (va &&& (9223372036854775807 : Int64)))), .val (.int (own_gt vb (va &&& (9223372036854775807 : Int64)))), .unset, .unset]) rfl k) ?_
  show own_FinW _ _ _ _ _ _ _ (T10.setTop (mkF m 60 #[.val (.long va), .second, .val (.long vb), .second, .val (.long (va &&& (9223372036854775807 : Int64))), .second, .val (.ref b1), .val (.int (own_gt (va &&& (9223372036854775807 : Int64)) (va &&& (9223372036854775807 : Int64)))), .val (.int (own_gt vb (va &&& (9223372036854775807 : Int64)))), .unset, .unset] []))
  refine own_FinW.go (fun t k => XS.lloadN X10.here hx rfl (hb hby at_60) rfl k) ?_
  show own_FinW _ _ _ _ _ _ _ (T10.setTop (mkF m 61 #[.val (.long va), .second, .val (.long vb), .second, .val (.long (va &&& (9223372036854775807 : Int64))), .second, .val (.ref b1), .val (.int (own_gt (va &&& (9223372036854775807 : Int64)) (va &&& (9223372036854775807 : Int64)))), .val (.int (own_gt vb (va &&& (9223372036854775807 : Int64)))), .unset, .unset] [(.long vb)]))
  refine own_FinW.go (fun t k => XS.lload X10.here hx rfl (hb hby at_61) rfl k) ?_
  show own_FinW _ _ _ _ _ _ _ (T10.setTop (mkF m 63 #[.val (.long va), .second, .val (.long vb), .second, .val (.long (va &&& (9223372036854775807 : Int64))), .second, .val (.ref b1), .val (.int (own_gt (va &&& (9223372036854775807 : Int64)) (va &&& (9223372036854775807 : Int64)))), .val (.int (own_gt vb (va &&& (9223372036854775807 : Int64)))), .unset, .unset] [(.long (va &&& (9223372036854775807 : Int64))), (.long vb)]))
  refine own_FinW.go (fun t k => XS.lcmp X10.here hx rfl (hb hby at_63) rfl k) ?_
  show own_FinW _ _ _ _ _ _ _ (T10.setTop (mkF m 64 #[.val (.long va), .second, .val (.long vb), .second, .val (.long (va &&& (9223372036854775807 : Int64))), .second, .val (.ref b1), .val (.int (own_gt (va &&& (9223372036854775807 : Int64)) (va &&& (9223372036854775807 : Int64)))), .val (.int (own_gt vb (va &&& (9223372036854775807 : Int64)))), .unset, .unset] [(.int (lcmpW vb (va &&& (9223372036854775807 : Int64))))]))
  by_cases hc64 : (va &&& (9223372036854775807 : Int64)) < vb
  · refine own_FinW.go (fun t k => XS.ifNo X10.here hx rfl (hb hby at_64) rfl (Jvm.Free.XT.ll_le_f hc64) k) ?_
    show own_FinW _ _ _ _ _ _ _ (T10.setTop (mkF m 67 #[.val (.long va), .second, .val (.long vb), .second, .val (.long (va &&& (9223372036854775807 : Int64))), .second, .val (.ref b1), .val (.int (own_gt (va &&& (9223372036854775807 : Int64)) (va &&& (9223372036854775807 : Int64)))), .val (.int (own_gt vb (va &&& (9223372036854775807 : Int64)))), .unset, .unset] []))
    refine own_FinW.go (fun t k => XS.iconst X10.here hx rfl (hb hby at_67) k) ?_
    show own_FinW _ _ _ _ _ _ _ (T10.setTop (mkF m 68 #[.val (.long va), .second, .val (.long vb), .second, .val (.long (va &&& (9223372036854775807 : Int64))), .second, .val (.ref b1), .val (.int (own_gt (va &&& (9223372036854775807 : Int64)) (va &&& (9223372036854775807 : Int64)))), .val (.int (own_gt vb (va &&& (9223372036854775807 : Int64)))), .unset, .unset] [(.int (1 : Int32))]))
    refine own_FinW.go (fun t k => XS.goto X10.here hx rfl (pc0 := 68) (pc' := 72) rfl (hb hby at_68) (by decide) (by decide) k) ?_
    show own_FinW _ _ _ _ _ _ _ (T10.setTop (mkF m 72 #[.val (.long va), .second, .val (.long vb), .second, .val (.long (va &&& (9223372036854775807 : Int64))), .second, .val (.ref b1), .val (.int (own_gt (va &&& (9223372036854775807 : Int64)) (va &&& (9223372036854775807 : Int64)))), .val (.int (own_gt vb (va &&& (9223372036854775807 : Int64)))), .unset, .unset] [(.int (1 : Int32))]))
    refine own_FinW.go (fun t k => XS.istore X10.here hx rfl (hb hby at_72) rfl (l' := #[.val (.long va), .second, .val (.long vb), .second, .val (.long (va &&& (9223372036854775807 : Int64))), .second, .val (.ref b1), .val (.int (own_gt (va &&& (9223372036854775807 : Int64)) (va &&& (9223372036854775807 : Int64)))), .val (.int (own_gt vb (va &&& (9223372036854775807 : Int64)))), .val (.int (1 : Int32)), .unset]) rfl k) ?_
    show own_FinW _ _ _ _ _ _ _ (T10.setTop (mkF m 74 #[.val (.long va), .second, .val (.long vb), .second, .val (.long (va &&& (9223372036854775807 : Int64))), .second, .val (.ref b1), .val (.int (own_gt (va &&& (9223372036854775807 : Int64)) (va &&& (9223372036854775807 : Int64)))), .val (.int (own_gt vb (va &&& (9223372036854775807 : Int64)))), .val (.int (1 : Int32)), .unset] []))
    refine own_FinW.go (fun t k => XS.iload X10.here hx rfl (hb hby at_74) rfl k) ?_
    show own_FinW _ _ _ _ _ _ _ (T10.setTop (mkF m 76 #[.val (.long va), .second, .val (.long vb), .second, .val (.long (va &&& (9223372036854775807 : Int64))), .second, .val (.ref b1), .val (.int (own_gt (va &&& (9223372036854775807 : Int64)) (va &&& (9223372036854775807 : Int64)))), .val (.int (own_gt vb (va &&& (9223372036854775807 : Int64)))), .val (.int (1 : Int32)), .unset] [(.int (own_gt vb (va &&& (9223372036854775807 : Int64))))]))
    refine own_FinW.go (fun t k => XS.iload X10.here hx rfl (hb hby at_76) rfl k) ?_
    show own_FinW _ _ _ _ _ _ _ (T10.setTop (mkF m 78 #[.val (.long va), .second, .val (.long vb), .second, .val (.long (va &&& (9223372036854775807 : Int64))), .second, .val (.ref b1), .val (.int (own_gt (va &&& (9223372036854775807 : Int64)) (va &&& (9223372036854775807 : Int64)))), .val (.int (own_gt vb (va &&& (9223372036854775807 : Int64)))), .val (.int (1 : Int32)), .unset] [(.int (1 : Int32)), (.int (own_gt vb (va &&& (9223372036854775807 : Int64))))]))
    have hc78 : (own_gt vb (va &&& (9223372036854775807 : Int64))) = (1 : Int32) := if_pos hc64
    refine own_FinW.go (fun t k => XS.icmpYes X10.here hx rfl (pc0 := 78) (pc' := 83) rfl (hb hby at_78) rfl (Jvm.Free.XT.ii_eq_t hc78) (by decide) (by decide) k) ?_
    show own_FinW _ _ _ _ _ _ _ (T10.setTop (mkF m 83 #[.val (.long va), .second, .val (.long vb), .second, .val (.long (va &&& (9223372036854775807 : Int64))), .second, .val (.ref b1), .val (.int (own_gt (va &&& (9223372036854775807 : Int64)) (va &&& (9223372036854775807 : Int64)))), .val (.int (own_gt vb (va &&& (9223372036854775807 : Int64)))), .val (.int (1 : Int32)), .unset] []))
    refine own_FinW.go (fun t k => XS.lload X10.here hx rfl (hb hby at_83) rfl k) ?_
    show own_FinW _ _ _ _ _ _ _ (T10.setTop (mkF m 85 #[.val (.long va), .second, .val (.long vb), .second, .val (.long (va &&& (9223372036854775807 : Int64))), .second, .val (.ref b1), .val (.int (own_gt (va &&& (9223372036854775807 : Int64)) (va &&& (9223372036854775807 : Int64)))), .val (.int (own_gt vb (va &&& (9223372036854775807 : Int64)))), .val (.int (1 : Int32)), .unset] [(.long (va &&& (9223372036854775807 : Int64)))]))
    refine own_FinW.go (fun t k => X10.ldc2Long hx hown (mvT hZ (hw _ (List.mem_of_getElem? (i := 0) rfl))) (g := (mkF m 85 #[.val (.long va), .second, .val (.long vb), .second, .val (.long (va &&& (9223372036854775807 : Int64))), .second, .val (.ref b1), .val (.int (own_gt (va &&& (9223372036854775807 : Int64)) (va &&& (9223372036854775807 : Int64)))), .val (.int (own_gt vb (va &&& (9223372036854775807 : Int64)))), .val (.int (1 : Int32)), .unset] [(.long (va &&& (9223372036854775807 : Int64)))])) rfl (hb hby at_85) t k) ?_
    show own_FinW _ _ _ _ _ _ _ (T10.setTop (mkF m 88 #[.val (.long va), .second, .val (.long vb), .second, .val (.long (va &&& (9223372036854775807 : Int64))), .second, .val (.ref b1), .val (.int (own_gt (va &&& (9223372036854775807 : Int64)) (va &&& (9223372036854775807 : Int64)))), .val (.int (own_gt vb (va &&& (9223372036854775807 : Int64)))), .val (.int (1 : Int32)), .unset] [(.long (9223372036854775807 : Int64)), (.long (va &&& (9223372036854775807 : Int64)))]))
    refine own_FinW.go (fun t k => XS.lcmp X10.here hx rfl (hb hby at_88) rfl k) ?_
    show own_FinW _ _ _ _ _ _ _ (T10.setTop (mkF m 89 #[.val (.long va), .second, .val (.long vb), .second, .val (.long (va &&& (9223372036854775807 : Int64))), .second, .val (.ref b1), .val (.int (own_gt (va &&& (9223372036854775807 : Int64)) (va &&& (9223372036854775807 : Int64)))), .val (.int (own_gt vb (va &&& (9223372036854775807 : Int64)))), .val (.int (1 : Int32)), .unset] [(.int (lcmpW (va &&& (9223372036854775807 : Int64)) (9223372036854775807 : Int64)))]))
    by_cases hc89 : (va &&& (9223372036854775807 : Int64)) < (9223372036854775807 : Int64)
    · refine own_FinW.go (fun t k => XS.ifNo X10.here hx rfl (hb hby at_89) rfl (Jvm.Free.XT.ll_ge_f hc89) k) ?_
      show own_FinW _ _ _ _ _ _ _ (T10.setTop (mkF m 92 #[.val (.long va), .second, .val (.long vb), .second, .val (.long (va &&& (9223372036854775807 : Int64))), .second, .val (.ref b1), .val (.int (own_gt (va &&& (9223372036854775807 : Int64)) (va &&& (9223372036854775807 : Int64)))), .val (.int (own_gt vb (va &&& (9223372036854775807 : Int64)))), .val (.int (1 : Int32)), .unset] []))
      obtain ⟨T11, h11, X11, e11, E11, A11, D11, -, st11⟩ := newO X10 hx hZ hown (hw _ (List.mem_of_getElem? (i := 75) rfl)) (hw _ (List.mem_of_getElem? (i := 76) rfl)) (hw _ (List.mem_of_getElem? (i := 77) rfl)) e10 (g := (mkF m 92 #[.val (.long va), .second, .val (.long vb), .second, .val (.long (va &&& (9223372036854775807 : Int64))), .second, .val (.ref b1), .val (.int (own_gt (va &&& (9223372036854775807 : Int64)) (va &&& (9223372036854775807 : Int64)))), .val (.int (own_gt vb (va &&& (9223372036854775807 : Int64)))), .val (.int (1 : Int32)), .unset] [])) rfl (hb hby at_92) (by decide) (by decide)
      obtain ⟨b11, g11⟩ : ∃ z, z = T9.heap.size := ⟨_, rfl⟩
      rw [← g11] at A11 D11 st11
      refine own_FinW.go st11 ?_
      have g_b11 : n0 ≤ b11 := Nat.le_trans Z9 (Nat.le_of_eq g11.symm)
      have ne_b1_b11 : b1 ≠ b11 := Nat.ne_of_lt (Nat.lt_of_lt_of_le F_b1_max_9.lt (Nat.le_of_eq g11.symm))
      have ne_b5_b11 : b5 ≠ b11 := Nat.ne_of_lt (Nat.lt_of_lt_of_le F_b5_count_9.lt (Nat.le_of_eq g11.symm))
      have ne_b8_b11 : b8 ≠ b11 := Nat.ne_of_lt (Nat.lt_of_lt_of_le c9_3.lt (Nat.le_of_eq g11.symm))
      have E_b1_11 := Exa.ext E11 E_b1_9
      have F_b1_max_11 := Fld.ext E11 F_b1_max_9
      have E_b5_11 := Exa.ext E11 E_b5_9
      have F_b5_limit_11 := Fld.ext E11 F_b5_limit_9
      have F_b5_count_11 := Fld.ext E11 F_b5_count_9
      have E_b8_11 := Exa.ext E11 c9_1
      have F_b8_limit_11 := Fld.ext E11 c9_2
      have F_b8_count_11 := Fld.ext E11 c9_3
      have Z11 := Nat.le_trans Z9 E11.1
      have hk11 := Nat.le_trans hk9 E11.1
      have F_b11_limit : Fld Z h11 b11 "com/example/inrush/inrush/engine/Limit$Verdict" "limit" "Lcom/example/inrush/inrush/engine/Limit;" .null := D11 (Or.inr (hw _ (List.mem_of_getElem? (i := 83) rfl))) (ty := (.object "com/example/inrush/inrush/engine/Limit")) (by decide)
      have F_b11_count : Fld Z h11 b11 "com/example/inrush/inrush/engine/Limit$Verdict" "count" "J" (.long (0 : Int64)) := D11 (Or.inr (hw _ (List.mem_of_getElem? (i := 85) rfl))) (ty := .long) (by decide)
      show own_FinW _ _ _ _ _ _ _ (T11.setTop (mkF m 95 #[.val (.long va), .second, .val (.long vb), .second, .val (.long (va &&& (9223372036854775807 : Int64))), .second, .val (.ref b1), .val (.int (own_gt (va &&& (9223372036854775807 : Int64)) (va &&& (9223372036854775807 : Int64)))), .val (.int (own_gt vb (va &&& (9223372036854775807 : Int64)))), .val (.int (1 : Int32)), .unset] [(.ref b11)]))
      refine own_FinW.go (fun t k => XS.dup X11.here hx rfl (hb hby at_95) rfl rfl k) ?_
      show own_FinW _ _ _ _ _ _ _ (T11.setTop (mkF m 96 #[.val (.long va), .second, .val (.long vb), .second, .val (.long (va &&& (9223372036854775807 : Int64))), .second, .val (.ref b1), .val (.int (own_gt (va &&& (9223372036854775807 : Int64)) (va &&& (9223372036854775807 : Int64)))), .val (.int (own_gt vb (va &&& (9223372036854775807 : Int64)))), .val (.int (1 : Int32)), .unset] [(.ref b11), (.ref b11)]))
      refine own_FinW.go (fun t k => XS.aload X11.here hx rfl (hb hby at_96) rfl rfl k) ?_
      show own_FinW _ _ _ _ _ _ _ (T11.setTop (mkF m 98 #[.val (.long va), .second, .val (.long vb), .second, .val (.long (va &&& (9223372036854775807 : Int64))), .second, .val (.ref b1), .val (.int (own_gt (va &&& (9223372036854775807 : Int64)) (va &&& (9223372036854775807 : Int64)))), .val (.int (own_gt vb (va &&& (9223372036854775807 : Int64)))), .val (.int (1 : Int32)), .unset] [(.ref b1), (.ref b11), (.ref b11)]))
      refine own_FinW.go (fun t k => XS.lload X11.here hx rfl (hb hby at_98) rfl k) ?_
      show own_FinW _ _ _ _ _ _ _ (T11.setTop (mkF m 100 #[.val (.long va), .second, .val (.long vb), .second, .val (.long (va &&& (9223372036854775807 : Int64))), .second, .val (.ref b1), .val (.int (own_gt (va &&& (9223372036854775807 : Int64)) (va &&& (9223372036854775807 : Int64)))), .val (.int (own_gt vb (va &&& (9223372036854775807 : Int64)))), .val (.int (1 : Int32)), .unset] [(.long (va &&& (9223372036854775807 : Int64))), (.ref b1), (.ref b11), (.ref b11)]))
      refine own_FinW.go (fun t k => XS.lconst X11.here hx rfl (hb hby at_100) k) ?_
      show own_FinW _ _ _ _ _ _ _ (T11.setTop (mkF m 101 #[.val (.long va), .second, .val (.long vb), .second, .val (.long (va &&& (9223372036854775807 : Int64))), .second, .val (.ref b1), .val (.int (own_gt (va &&& (9223372036854775807 : Int64)) (va &&& (9223372036854775807 : Int64)))), .val (.int (own_gt vb (va &&& (9223372036854775807 : Int64)))), .val (.int (1 : Int32)), .unset] [(.long (1 : Int64)), (.long (va &&& (9223372036854775807 : Int64))), (.ref b1), (.ref b11), (.ref b11)]))
      refine own_FinW.go (fun t k => XS.ladd X11.here hx rfl (hb hby at_101) rfl k) ?_
      show own_FinW _ _ _ _ _ _ _ (T11.setTop (mkF m 102 #[.val (.long va), .second, .val (.long vb), .second, .val (.long (va &&& (9223372036854775807 : Int64))), .second, .val (.ref b1), .val (.int (own_gt (va &&& (9223372036854775807 : Int64)) (va &&& (9223372036854775807 : Int64)))), .val (.int (own_gt vb (va &&& (9223372036854775807 : Int64)))), .val (.int (1 : Int32)), .unset] [(.long ((va &&& (9223372036854775807 : Int64)) + (1 : Int64))), (.ref b1), (.ref b11), (.ref b11)]))
      obtain ⟨_, _, ⟨T12, L12, k12, n12⟩, -, X12, ⟨Lc12, hQ12, l12, y12, z12⟩, st12⟩ := X11.specialBack hx (y := (⟨"com/example/inrush/inrush/engine/Limit$Verdict", "<init>", "(Lcom/example/inrush/inrush/engine/Limit;J)V"⟩ : MethodName)) rfl hown (mvT hZ (hw _ (List.mem_of_getElem? (i := 78) rfl))) (mvT hZ (hw _ (List.mem_of_getElem? (i := 79) rfl))) (mvT hZ (hw _ (List.mem_of_getElem? (i := 80) rfl))) (by decide) (backOf (W := 1) (own_rm_ver l Z a0 hw [] b11 b1 ((va &&& (9223372036854775807 : Int64)) + (1 : Int64))  h11 n0 Z11 A11 F_b11_limit F_b11_count g_b11) hZ (hw _ (List.mem_of_getElem? (i := 80) rfl)) (hw _ (List.mem_of_getElem? (i := 77) rfl)) (by decide) (by decide)) (g := (mkF m 102 #[.val (.long va), .second, .val (.long vb), .second, .val (.long (va &&& (9223372036854775807 : Int64))), .second, .val (.ref b1), .val (.int (own_gt (va &&& (9223372036854775807 : Int64)) (va &&& (9223372036854775807 : Int64)))), .val (.int (own_gt vb (va &&& (9223372036854775807 : Int64)))), .val (.int (1 : Int32)), .unset] [(.long ((va &&& (9223372036854775807 : Int64)) + (1 : Int64))), (.ref b1), (.ref b11), (.ref b11)])) rfl (by rw [hml]; rfl) (Steps.refl _) (a := b11) (argsL := [(.ref b1), (.long ((va &&& (9223372036854775807 : Int64)) + (1 : Int64)))]) (rest := [(.ref b11)]) (lenOf own_pd13 rfl) rfl (by show 2 * 0 + _ ≤ _; exact Nat.le_of_eq rfl) (hb hby at_102) (fun _ _ => ⟨rfl, e11, (by decide : 8 + 0 ≤ _), (by decide : 25 + 0 ≤ _)⟩)
      dsimp only [Pt.U, Pt.locs, Pt.cells, Pt.slots] at X12 l12 y12 z12 st12 hQ12
      subst l12 y12 z12
      obtain ⟨rfl, N12q, K12q, c12_1, c12_2, c12_3⟩ := hQ12
      refine own_FinW.go (fun t k => st12.trans k) ?_
      have N12 := Fr.app N10 N12q
      have E_b1_12 := E_b1_11.keep K12q
      have F_b1_max_12 := F_b1_max_11.keep K12q (ninS ne_b1_b11 nin0)
      have E_b5_12 := E_b5_11.keep K12q
      have F_b5_limit_12 := F_b5_limit_11.keep K12q (ninS ne_b5_b11 nin0)
      have F_b5_count_12 := F_b5_count_11.keep K12q (ninS ne_b5_b11 nin0)
      have E_b8_12 := E_b8_11.keep K12q
      have F_b8_limit_12 := F_b8_limit_11.keep K12q (ninS ne_b8_b11 nin0)
      have F_b8_count_12 := F_b8_count_11.keep K12q (ninS ne_b8_b11 nin0)
      have Z12 := Nat.le_trans Z11 K12q.1
      have hk12 := Nat.le_trans hk11 K12q.1
      show own_FinW _ _ _ _ _ _ _ (T12.setTop (mkF m 105 #[.val (.long va), .second, .val (.long vb), .second, .val (.long (va &&& (9223372036854775807 : Int64))), .second, .val (.ref b1), .val (.int (own_gt (va &&& (9223372036854775807 : Int64)) (va &&& (9223372036854775807 : Int64)))), .val (.int (own_gt vb (va &&& (9223372036854775807 : Int64)))), .val (.int (1 : Int32)), .unset] [(.ref b11)]))
      obtain ⟨cq13, kq13, q13a, q13b, q13c⟩ := isOf hZ rfl c12_1
      obtain ⟨_, _, ⟨T13, L13, k13, n13⟩, -, X13, ⟨Lc13, hQ13, l13, y13, z13⟩, st13⟩ := X12.virtualBack hx (y := (⟨"com/example/inrush/inrush/engine/Limit$Verdict", "over", "()Z"⟩ : MethodName)) (z := (⟨"com/example/inrush/inrush/engine/Limit$Verdict", "over", "()Z"⟩ : MethodName)) hown (mvT hZ (hw _ (List.mem_of_getElem? (i := 86) rfl))) (mvT hZ (hw _ (List.mem_of_getElem? (i := 87) rfl))) (notFace_of_selects (args := #[]) (mvT hZ (hw _ (List.mem_of_getElem? (i := 89) rfl)))) (mvT hZ (hw _ (List.mem_of_getElem? (i := 89) rfl))) (mvT hZ (hw _ (List.mem_of_getElem? (i := 88) rfl))) (by decide) (backOf (W := 0) (own_rm_ov l Z a0 hw [] b11 b1 ((va &&& (9223372036854775807 : Int64)) + (1 : Int64)) (va &&& (9223372036854775807 : Int64)) T12.heap n0 Z12 c12_2 c12_3 E_b1_12 F_b1_max_12) hZ (hw _ (List.mem_of_getElem? (i := 90) rfl)) (hw _ (List.mem_of_getElem? (i := 77) rfl)) (by decide) (by decide)) q13a q13c (g := (mkF m 105 #[.val (.long va), .second, .val (.long vb), .second, .val (.long (va &&& (9223372036854775807 : Int64))), .second, .val (.ref b1), .val (.int (own_gt (va &&& (9223372036854775807 : Int64)) (va &&& (9223372036854775807 : Int64)))), .val (.int (own_gt vb (va &&& (9223372036854775807 : Int64)))), .val (.int (1 : Int32)), .unset] [(.ref b11)])) rfl (by rw [hml]; rfl) (Steps.refl _) (argsL := []) (rest := []) (lenOf own_pd3 rfl) rfl (by show 2 * 0 + _ ≤ _; exact Nat.le_of_eq rfl) (hb hby at_105) (fun _ _ => ⟨rfl, rfl, (by decide : 8 + 0 ≤ _), (by decide : 25 + 0 ≤ _)⟩)
      dsimp only [Pt.U, Pt.locs, Pt.cells, Pt.slots] at X13 l13 y13 z13 st13 hQ13
      subst l13 y13 z13
      obtain ⟨rfl, N13q, e13⟩ := hQ13
      refine own_FinW.go (fun t k => st13.trans k) ?_
      have N13 := Fr.app N12 N13q
      show own_FinW _ _ _ _ _ _ _ (T13.setTop (mkF m 108 #[.val (.long va), .second, .val (.long vb), .second, .val (.long (va &&& (9223372036854775807 : Int64))), .second, .val (.ref b1), .val (.int (own_gt (va &&& (9223372036854775807 : Int64)) (va &&& (9223372036854775807 : Int64)))), .val (.int (own_gt vb (va &&& (9223372036854775807 : Int64)))), .val (.int (1 : Int32)), .unset] [(.int (own_gt ((va &&& (9223372036854775807 : Int64)) + (1 : Int64)) (va &&& (9223372036854775807 : Int64))))]))
      refine own_FinW.go (fun t k => XS.istore X13.here hx rfl (hb hby at_108) rfl (l' := #[.val (.long va), .second, .val (.long vb), .second, .val (.long (va &&& (9223372036854775807 : Int64))), .second, .val (.ref b1), .val (.int (own_gt (va &&& (9223372036854775807 : Int64)) (va &&& (9223372036854775807 : Int64)))), .val (.int (own_gt vb (va &&& (9223372036854775807 : Int64)))), .val (.int (1 : Int32)), .val (.int (own_gt ((va &&& (9223372036854775807 : Int64)) + (1 : Int64)) (va &&& (9223372036854775807 : Int64))))]) rfl k) ?_
      show own_FinW _ _ _ _ _ _ _ (T13.setTop (mkF m 110 #[.val (.long va), .second, .val (.long vb), .second, .val (.long (va &&& (9223372036854775807 : Int64))), .second, .val (.ref b1), .val (.int (own_gt (va &&& (9223372036854775807 : Int64)) (va &&& (9223372036854775807 : Int64)))), .val (.int (own_gt vb (va &&& (9223372036854775807 : Int64)))), .val (.int (1 : Int32)), .val (.int (own_gt ((va &&& (9223372036854775807 : Int64)) + (1 : Int64)) (va &&& (9223372036854775807 : Int64))))] []))
      refine own_FinW.go (fun t k => XS.iload X13.here hx rfl (hb hby at_110) rfl k) ?_
      show own_FinW _ _ _ _ _ _ _ (T13.setTop (mkF m 112 #[.val (.long va), .second, .val (.long vb), .second, .val (.long (va &&& (9223372036854775807 : Int64))), .second, .val (.ref b1), .val (.int (own_gt (va &&& (9223372036854775807 : Int64)) (va &&& (9223372036854775807 : Int64)))), .val (.int (own_gt vb (va &&& (9223372036854775807 : Int64)))), .val (.int (1 : Int32)), .val (.int (own_gt ((va &&& (9223372036854775807 : Int64)) + (1 : Int64)) (va &&& (9223372036854775807 : Int64))))] [(.int (own_gt ((va &&& (9223372036854775807 : Int64)) + (1 : Int64)) (va &&& (9223372036854775807 : Int64))))]))
      have hc112 : ¬ ((own_gt ((va &&& (9223372036854775807 : Int64)) + (1 : Int64)) (va &&& (9223372036854775807 : Int64))) = (0 : Int32)) := by rw [own_plus hc89]; decide
      refine own_FinW.go (fun t k => XS.ifYes X13.here hx rfl (pc0 := 112) (pc' := 117) rfl (hb hby at_112) rfl (Jvm.Free.XT.i0_ne_t hc112) (by decide) (by decide) k) ?_
      show own_FinW _ _ _ _ _ _ _ (T13.setTop (mkF m 117 #[.val (.long va), .second, .val (.long vb), .second, .val (.long (va &&& (9223372036854775807 : Int64))), .second, .val (.ref b1), .val (.int (own_gt (va &&& (9223372036854775807 : Int64)) (va &&& (9223372036854775807 : Int64)))), .val (.int (own_gt vb (va &&& (9223372036854775807 : Int64)))), .val (.int (1 : Int32)), .val (.int (own_gt ((va &&& (9223372036854775807 : Int64)) + (1 : Int64)) (va &&& (9223372036854775807 : Int64))))] []))
      refine own_FinW.go (fun t k => XS.iconst X13.here hx rfl (hb hby at_117) k) ?_
      show own_FinW _ _ _ _ _ _ _ (T13.setTop (mkF m 118 #[.val (.long va), .second, .val (.long vb), .second, .val (.long (va &&& (9223372036854775807 : Int64))), .second, .val (.ref b1), .val (.int (own_gt (va &&& (9223372036854775807 : Int64)) (va &&& (9223372036854775807 : Int64)))), .val (.int (own_gt vb (va &&& (9223372036854775807 : Int64)))), .val (.int (1 : Int32)), .val (.int (own_gt ((va &&& (9223372036854775807 : Int64)) + (1 : Int64)) (va &&& (9223372036854775807 : Int64))))] [(.int (1 : Int32))]))
      refine own_retNW X13 hx hS (by rw [e13]; exact hk12) (t := .boolean) (w := (1 : Int32)) Bd.returns (by simp) (hb hby at_118) Bd.notSynchronized rfl (by decide) (by decide) ?_
      rw [e13]
      exact ⟨rfl, N13⟩
    · refine own_FinW.go (fun t k => XS.ifYes X10.here hx rfl (pc0 := 89) (pc' := 117) rfl (hb hby at_89) rfl (Jvm.Free.XT.ll_ge_t hc89) (by decide) (by decide) k) ?_
      show own_FinW _ _ _ _ _ _ _ (T10.setTop (mkF m 117 #[.val (.long va), .second, .val (.long vb), .second, .val (.long (va &&& (9223372036854775807 : Int64))), .second, .val (.ref b1), .val (.int (own_gt (va &&& (9223372036854775807 : Int64)) (va &&& (9223372036854775807 : Int64)))), .val (.int (own_gt vb (va &&& (9223372036854775807 : Int64)))), .val (.int (1 : Int32)), .unset] []))
      refine own_FinW.go (fun t k => XS.iconst X10.here hx rfl (hb hby at_117) k) ?_
      show own_FinW _ _ _ _ _ _ _ (T10.setTop (mkF m 118 #[.val (.long va), .second, .val (.long vb), .second, .val (.long (va &&& (9223372036854775807 : Int64))), .second, .val (.ref b1), .val (.int (own_gt (va &&& (9223372036854775807 : Int64)) (va &&& (9223372036854775807 : Int64)))), .val (.int (own_gt vb (va &&& (9223372036854775807 : Int64)))), .val (.int (1 : Int32)), .unset] [(.int (1 : Int32))]))
      refine own_retNW X10 hx hS (by rw [e10]; exact hk9) (t := .boolean) (w := (1 : Int32)) Bd.returns (by simp) (hb hby at_118) Bd.notSynchronized rfl (by decide) (by decide) ?_
      rw [e10]
      exact ⟨rfl, N10⟩
  · refine own_FinW.go (fun t k => XS.ifYes X10.here hx rfl (pc0 := 64) (pc' := 71) rfl (hb hby at_64) rfl (Jvm.Free.XT.ll_le_t hc64) (by decide) (by decide) k) ?_
    show own_FinW _ _ _ _ _ _ _ (T10.setTop (mkF m 71 #[.val (.long va), .second, .val (.long vb), .second, .val (.long (va &&& (9223372036854775807 : Int64))), .second, .val (.ref b1), .val (.int (own_gt (va &&& (9223372036854775807 : Int64)) (va &&& (9223372036854775807 : Int64)))), .val (.int (own_gt vb (va &&& (9223372036854775807 : Int64)))), .unset, .unset] []))
    refine own_FinW.go (fun t k => XS.iconst X10.here hx rfl (hb hby at_71) k) ?_
    show own_FinW _ _ _ _ _ _ _ (T10.setTop (mkF m 72 #[.val (.long va), .second, .val (.long vb), .second, .val (.long (va &&& (9223372036854775807 : Int64))), .second, .val (.ref b1), .val (.int (own_gt (va &&& (9223372036854775807 : Int64)) (va &&& (9223372036854775807 : Int64)))), .val (.int (own_gt vb (va &&& (9223372036854775807 : Int64)))), .unset, .unset] [(.int (0 : Int32))]))
    refine own_FinW.go (fun t k => XS.istore X10.here hx rfl (hb hby at_72) rfl (l' := #[.val (.long va), .second, .val (.long vb), .second, .val (.long (va &&& (9223372036854775807 : Int64))), .second, .val (.ref b1), .val (.int (own_gt (va &&& (9223372036854775807 : Int64)) (va &&& (9223372036854775807 : Int64)))), .val (.int (own_gt vb (va &&& (9223372036854775807 : Int64)))), .val (.int (0 : Int32)), .unset]) rfl k) ?_
    show own_FinW _ _ _ _ _ _ _ (T10.setTop (mkF m 74 #[.val (.long va), .second, .val (.long vb), .second, .val (.long (va &&& (9223372036854775807 : Int64))), .second, .val (.ref b1), .val (.int (own_gt (va &&& (9223372036854775807 : Int64)) (va &&& (9223372036854775807 : Int64)))), .val (.int (own_gt vb (va &&& (9223372036854775807 : Int64)))), .val (.int (0 : Int32)), .unset] []))
    refine own_FinW.go (fun t k => XS.iload X10.here hx rfl (hb hby at_74) rfl k) ?_
    show own_FinW _ _ _ _ _ _ _ (T10.setTop (mkF m 76 #[.val (.long va), .second, .val (.long vb), .second, .val (.long (va &&& (9223372036854775807 : Int64))), .second, .val (.ref b1), .val (.int (own_gt (va &&& (9223372036854775807 : Int64)) (va &&& (9223372036854775807 : Int64)))), .val (.int (own_gt vb (va &&& (9223372036854775807 : Int64)))), .val (.int (0 : Int32)), .unset] [(.int (own_gt vb (va &&& (9223372036854775807 : Int64))))]))
    refine own_FinW.go (fun t k => XS.iload X10.here hx rfl (hb hby at_76) rfl k) ?_
    show own_FinW _ _ _ _ _ _ _ (T10.setTop (mkF m 78 #[.val (.long va), .second, .val (.long vb), .second, .val (.long (va &&& (9223372036854775807 : Int64))), .second, .val (.ref b1), .val (.int (own_gt (va &&& (9223372036854775807 : Int64)) (va &&& (9223372036854775807 : Int64)))), .val (.int (own_gt vb (va &&& (9223372036854775807 : Int64)))), .val (.int (0 : Int32)), .unset] [(.int (0 : Int32)), (.int (own_gt vb (va &&& (9223372036854775807 : Int64))))]))
    have hc78 : (own_gt vb (va &&& (9223372036854775807 : Int64))) = (0 : Int32) := if_neg hc64
    refine own_FinW.go (fun t k => XS.icmpYes X10.here hx rfl (pc0 := 78) (pc' := 83) rfl (hb hby at_78) rfl (Jvm.Free.XT.ii_eq_t hc78) (by decide) (by decide) k) ?_
    show own_FinW _ _ _ _ _ _ _ (T10.setTop (mkF m 83 #[.val (.long va), .second, .val (.long vb), .second, .val (.long (va &&& (9223372036854775807 : Int64))), .second, .val (.ref b1), .val (.int (own_gt (va &&& (9223372036854775807 : Int64)) (va &&& (9223372036854775807 : Int64)))), .val (.int (own_gt vb (va &&& (9223372036854775807 : Int64)))), .val (.int (0 : Int32)), .unset] []))
    refine own_FinW.go (fun t k => XS.lload X10.here hx rfl (hb hby at_83) rfl k) ?_
    show own_FinW _ _ _ _ _ _ _ (T10.setTop (mkF m 85 #[.val (.long va), .second, .val (.long vb), .second, .val (.long (va &&& (9223372036854775807 : Int64))), .second, .val (.ref b1), .val (.int (own_gt (va &&& (9223372036854775807 : Int64)) (va &&& (9223372036854775807 : Int64)))), .val (.int (own_gt vb (va &&& (9223372036854775807 : Int64)))), .val (.int (0 : Int32)), .unset] [(.long (va &&& (9223372036854775807 : Int64)))]))
    refine own_FinW.go (fun t k => X10.ldc2Long hx hown (mvT hZ (hw _ (List.mem_of_getElem? (i := 0) rfl))) (g := (mkF m 85 #[.val (.long va), .second, .val (.long vb), .second, .val (.long (va &&& (9223372036854775807 : Int64))), .second, .val (.ref b1), .val (.int (own_gt (va &&& (9223372036854775807 : Int64)) (va &&& (9223372036854775807 : Int64)))), .val (.int (own_gt vb (va &&& (9223372036854775807 : Int64)))), .val (.int (0 : Int32)), .unset] [(.long (va &&& (9223372036854775807 : Int64)))])) rfl (hb hby at_85) t k) ?_
    show own_FinW _ _ _ _ _ _ _ (T10.setTop (mkF m 88 #[.val (.long va), .second, .val (.long vb), .second, .val (.long (va &&& (9223372036854775807 : Int64))), .second, .val (.ref b1), .val (.int (own_gt (va &&& (9223372036854775807 : Int64)) (va &&& (9223372036854775807 : Int64)))), .val (.int (own_gt vb (va &&& (9223372036854775807 : Int64)))), .val (.int (0 : Int32)), .unset] [(.long (9223372036854775807 : Int64)), (.long (va &&& (9223372036854775807 : Int64)))]))
    refine own_FinW.go (fun t k => XS.lcmp X10.here hx rfl (hb hby at_88) rfl k) ?_
    show own_FinW _ _ _ _ _ _ _ (T10.setTop (mkF m 89 #[.val (.long va), .second, .val (.long vb), .second, .val (.long (va &&& (9223372036854775807 : Int64))), .second, .val (.ref b1), .val (.int (own_gt (va &&& (9223372036854775807 : Int64)) (va &&& (9223372036854775807 : Int64)))), .val (.int (own_gt vb (va &&& (9223372036854775807 : Int64)))), .val (.int (0 : Int32)), .unset] [(.int (lcmpW (va &&& (9223372036854775807 : Int64)) (9223372036854775807 : Int64)))]))
    by_cases hc89 : (va &&& (9223372036854775807 : Int64)) < (9223372036854775807 : Int64)
    · refine own_FinW.go (fun t k => XS.ifNo X10.here hx rfl (hb hby at_89) rfl (Jvm.Free.XT.ll_ge_f hc89) k) ?_
      show own_FinW _ _ _ _ _ _ _ (T10.setTop (mkF m 92 #[.val (.long va), .second, .val (.long vb), .second, .val (.long (va &&& (9223372036854775807 : Int64))), .second, .val (.ref b1), .val (.int (own_gt (va &&& (9223372036854775807 : Int64)) (va &&& (9223372036854775807 : Int64)))), .val (.int (own_gt vb (va &&& (9223372036854775807 : Int64)))), .val (.int (0 : Int32)), .unset] []))
      obtain ⟨T14, h14, X14, e14, E14, A14, D14, -, st14⟩ := newO X10 hx hZ hown (hw _ (List.mem_of_getElem? (i := 75) rfl)) (hw _ (List.mem_of_getElem? (i := 76) rfl)) (hw _ (List.mem_of_getElem? (i := 77) rfl)) e10 (g := (mkF m 92 #[.val (.long va), .second, .val (.long vb), .second, .val (.long (va &&& (9223372036854775807 : Int64))), .second, .val (.ref b1), .val (.int (own_gt (va &&& (9223372036854775807 : Int64)) (va &&& (9223372036854775807 : Int64)))), .val (.int (own_gt vb (va &&& (9223372036854775807 : Int64)))), .val (.int (0 : Int32)), .unset] [])) rfl (hb hby at_92) (by decide) (by decide)
      obtain ⟨b14, g14⟩ : ∃ z, z = T9.heap.size := ⟨_, rfl⟩
      rw [← g14] at A14 D14 st14
      refine own_FinW.go st14 ?_
      have g_b14 : n0 ≤ b14 := Nat.le_trans Z9 (Nat.le_of_eq g14.symm)
      have ne_b1_b14 : b1 ≠ b14 := Nat.ne_of_lt (Nat.lt_of_lt_of_le F_b1_max_9.lt (Nat.le_of_eq g14.symm))
      have ne_b5_b14 : b5 ≠ b14 := Nat.ne_of_lt (Nat.lt_of_lt_of_le F_b5_count_9.lt (Nat.le_of_eq g14.symm))
      have ne_b8_b14 : b8 ≠ b14 := Nat.ne_of_lt (Nat.lt_of_lt_of_le c9_3.lt (Nat.le_of_eq g14.symm))
      have E_b1_14 := Exa.ext E14 E_b1_9
      have F_b1_max_14 := Fld.ext E14 F_b1_max_9
      have E_b5_14 := Exa.ext E14 E_b5_9
      have F_b5_limit_14 := Fld.ext E14 F_b5_limit_9
      have F_b5_count_14 := Fld.ext E14 F_b5_count_9
      have E_b8_14 := Exa.ext E14 c9_1
      have F_b8_limit_14 := Fld.ext E14 c9_2
      have F_b8_count_14 := Fld.ext E14 c9_3
      have Z14 := Nat.le_trans Z9 E14.1
      have hk14 := Nat.le_trans hk9 E14.1
      have F_b14_limit : Fld Z h14 b14 "com/example/inrush/inrush/engine/Limit$Verdict" "limit" "Lcom/example/inrush/inrush/engine/Limit;" .null := D14 (Or.inr (hw _ (List.mem_of_getElem? (i := 83) rfl))) (ty := (.object "com/example/inrush/inrush/engine/Limit")) (by decide)
      have F_b14_count : Fld Z h14 b14 "com/example/inrush/inrush/engine/Limit$Verdict" "count" "J" (.long (0 : Int64)) := D14 (Or.inr (hw _ (List.mem_of_getElem? (i := 85) rfl))) (ty := .long) (by decide)
      show own_FinW _ _ _ _ _ _ _ (T14.setTop (mkF m 95 #[.val (.long va), .second, .val (.long vb), .second, .val (.long (va &&& (9223372036854775807 : Int64))), .second, .val (.ref b1), .val (.int (own_gt (va &&& (9223372036854775807 : Int64)) (va &&& (9223372036854775807 : Int64)))), .val (.int (own_gt vb (va &&& (9223372036854775807 : Int64)))), .val (.int (0 : Int32)), .unset] [(.ref b14)]))
      refine own_FinW.go (fun t k => XS.dup X14.here hx rfl (hb hby at_95) rfl rfl k) ?_
      show own_FinW _ _ _ _ _ _ _ (T14.setTop (mkF m 96 #[.val (.long va), .second, .val (.long vb), .second, .val (.long (va &&& (9223372036854775807 : Int64))), .second, .val (.ref b1), .val (.int (own_gt (va &&& (9223372036854775807 : Int64)) (va &&& (9223372036854775807 : Int64)))), .val (.int (own_gt vb (va &&& (9223372036854775807 : Int64)))), .val (.int (0 : Int32)), .unset] [(.ref b14), (.ref b14)]))
      refine own_FinW.go (fun t k => XS.aload X14.here hx rfl (hb hby at_96) rfl rfl k) ?_
      show own_FinW _ _ _ _ _ _ _ (T14.setTop (mkF m 98 #[.val (.long va), .second, .val (.long vb), .second, .val (.long (va &&& (9223372036854775807 : Int64))), .second, .val (.ref b1), .val (.int (own_gt (va &&& (9223372036854775807 : Int64)) (va &&& (9223372036854775807 : Int64)))), .val (.int (own_gt vb (va &&& (9223372036854775807 : Int64)))), .val (.int (0 : Int32)), .unset] [(.ref b1), (.ref b14), (.ref b14)]))
      refine own_FinW.go (fun t k => XS.lload X14.here hx rfl (hb hby at_98) rfl k) ?_
      show own_FinW _ _ _ _ _ _ _ (T14.setTop (mkF m 100 #[.val (.long va), .second, .val (.long vb), .second, .val (.long (va &&& (9223372036854775807 : Int64))), .second, .val (.ref b1), .val (.int (own_gt (va &&& (9223372036854775807 : Int64)) (va &&& (9223372036854775807 : Int64)))), .val (.int (own_gt vb (va &&& (9223372036854775807 : Int64)))), .val (.int (0 : Int32)), .unset] [(.long (va &&& (9223372036854775807 : Int64))), (.ref b1), (.ref b14), (.ref b14)]))
      refine own_FinW.go (fun t k => XS.lconst X14.here hx rfl (hb hby at_100) k) ?_
      show own_FinW _ _ _ _ _ _ _ (T14.setTop (mkF m 101 #[.val (.long va), .second, .val (.long vb), .second, .val (.long (va &&& (9223372036854775807 : Int64))), .second, .val (.ref b1), .val (.int (own_gt (va &&& (9223372036854775807 : Int64)) (va &&& (9223372036854775807 : Int64)))), .val (.int (own_gt vb (va &&& (9223372036854775807 : Int64)))), .val (.int (0 : Int32)), .unset] [(.long (1 : Int64)), (.long (va &&& (9223372036854775807 : Int64))), (.ref b1), (.ref b14), (.ref b14)]))
      refine own_FinW.go (fun t k => XS.ladd X14.here hx rfl (hb hby at_101) rfl k) ?_
      show own_FinW _ _ _ _ _ _ _ (T14.setTop (mkF m 102 #[.val (.long va), .second, .val (.long vb), .second, .val (.long (va &&& (9223372036854775807 : Int64))), .second, .val (.ref b1), .val (.int (own_gt (va &&& (9223372036854775807 : Int64)) (va &&& (9223372036854775807 : Int64)))), .val (.int (own_gt vb (va &&& (9223372036854775807 : Int64)))), .val (.int (0 : Int32)), .unset] [(.long ((va &&& (9223372036854775807 : Int64)) + (1 : Int64))), (.ref b1), (.ref b14), (.ref b14)]))
      obtain ⟨_, _, ⟨T15, L15, k15, n15⟩, -, X15, ⟨Lc15, hQ15, l15, y15, z15⟩, st15⟩ := X14.specialBack hx (y := (⟨"com/example/inrush/inrush/engine/Limit$Verdict", "<init>", "(Lcom/example/inrush/inrush/engine/Limit;J)V"⟩ : MethodName)) rfl hown (mvT hZ (hw _ (List.mem_of_getElem? (i := 78) rfl))) (mvT hZ (hw _ (List.mem_of_getElem? (i := 79) rfl))) (mvT hZ (hw _ (List.mem_of_getElem? (i := 80) rfl))) (by decide) (backOf (W := 1) (own_rm_ver l Z a0 hw [] b14 b1 ((va &&& (9223372036854775807 : Int64)) + (1 : Int64))  h14 n0 Z14 A14 F_b14_limit F_b14_count g_b14) hZ (hw _ (List.mem_of_getElem? (i := 80) rfl)) (hw _ (List.mem_of_getElem? (i := 77) rfl)) (by decide) (by decide)) (g := (mkF m 102 #[.val (.long va), .second, .val (.long vb), .second, .val (.long (va &&& (9223372036854775807 : Int64))), .second, .val (.ref b1), .val (.int (own_gt (va &&& (9223372036854775807 : Int64)) (va &&& (9223372036854775807 : Int64)))), .val (.int (own_gt vb (va &&& (9223372036854775807 : Int64)))), .val (.int (0 : Int32)), .unset] [(.long ((va &&& (9223372036854775807 : Int64)) + (1 : Int64))), (.ref b1), (.ref b14), (.ref b14)])) rfl (by rw [hml]; rfl) (Steps.refl _) (a := b14) (argsL := [(.ref b1), (.long ((va &&& (9223372036854775807 : Int64)) + (1 : Int64)))]) (rest := [(.ref b14)]) (lenOf own_pd13 rfl) rfl (by show 2 * 0 + _ ≤ _; exact Nat.le_of_eq rfl) (hb hby at_102) (fun _ _ => ⟨rfl, e14, (by decide : 8 + 0 ≤ _), (by decide : 25 + 0 ≤ _)⟩)
      dsimp only [Pt.U, Pt.locs, Pt.cells, Pt.slots] at X15 l15 y15 z15 st15 hQ15
      subst l15 y15 z15
      obtain ⟨rfl, N15q, K15q, c15_1, c15_2, c15_3⟩ := hQ15
      refine own_FinW.go (fun t k => st15.trans k) ?_
      have N15 := Fr.app N10 N15q
      have E_b1_15 := E_b1_14.keep K15q
      have F_b1_max_15 := F_b1_max_14.keep K15q (ninS ne_b1_b14 nin0)
      have E_b5_15 := E_b5_14.keep K15q
      have F_b5_limit_15 := F_b5_limit_14.keep K15q (ninS ne_b5_b14 nin0)
      have F_b5_count_15 := F_b5_count_14.keep K15q (ninS ne_b5_b14 nin0)
      have E_b8_15 := E_b8_14.keep K15q
      have F_b8_limit_15 := F_b8_limit_14.keep K15q (ninS ne_b8_b14 nin0)
      have F_b8_count_15 := F_b8_count_14.keep K15q (ninS ne_b8_b14 nin0)
      have Z15 := Nat.le_trans Z14 K15q.1
      have hk15 := Nat.le_trans hk14 K15q.1
      show own_FinW _ _ _ _ _ _ _ (T15.setTop (mkF m 105 #[.val (.long va), .second, .val (.long vb), .second, .val (.long (va &&& (9223372036854775807 : Int64))), .second, .val (.ref b1), .val (.int (own_gt (va &&& (9223372036854775807 : Int64)) (va &&& (9223372036854775807 : Int64)))), .val (.int (own_gt vb (va &&& (9223372036854775807 : Int64)))), .val (.int (0 : Int32)), .unset] [(.ref b14)]))
      obtain ⟨cq16, kq16, q16a, q16b, q16c⟩ := isOf hZ rfl c15_1
      obtain ⟨_, _, ⟨T16, L16, k16, n16⟩, -, X16, ⟨Lc16, hQ16, l16, y16, z16⟩, st16⟩ := X15.virtualBack hx (y := (⟨"com/example/inrush/inrush/engine/Limit$Verdict", "over", "()Z"⟩ : MethodName)) (z := (⟨"com/example/inrush/inrush/engine/Limit$Verdict", "over", "()Z"⟩ : MethodName)) hown (mvT hZ (hw _ (List.mem_of_getElem? (i := 86) rfl))) (mvT hZ (hw _ (List.mem_of_getElem? (i := 87) rfl))) (notFace_of_selects (args := #[]) (mvT hZ (hw _ (List.mem_of_getElem? (i := 89) rfl)))) (mvT hZ (hw _ (List.mem_of_getElem? (i := 89) rfl))) (mvT hZ (hw _ (List.mem_of_getElem? (i := 88) rfl))) (by decide) (backOf (W := 0) (own_rm_ov l Z a0 hw [] b14 b1 ((va &&& (9223372036854775807 : Int64)) + (1 : Int64)) (va &&& (9223372036854775807 : Int64)) T15.heap n0 Z15 c15_2 c15_3 E_b1_15 F_b1_max_15) hZ (hw _ (List.mem_of_getElem? (i := 90) rfl)) (hw _ (List.mem_of_getElem? (i := 77) rfl)) (by decide) (by decide)) q16a q16c (g := (mkF m 105 #[.val (.long va), .second, .val (.long vb), .second, .val (.long (va &&& (9223372036854775807 : Int64))), .second, .val (.ref b1), .val (.int (own_gt (va &&& (9223372036854775807 : Int64)) (va &&& (9223372036854775807 : Int64)))), .val (.int (own_gt vb (va &&& (9223372036854775807 : Int64)))), .val (.int (0 : Int32)), .unset] [(.ref b14)])) rfl (by rw [hml]; rfl) (Steps.refl _) (argsL := []) (rest := []) (lenOf own_pd3 rfl) rfl (by show 2 * 0 + _ ≤ _; exact Nat.le_of_eq rfl) (hb hby at_105) (fun _ _ => ⟨rfl, rfl, (by decide : 8 + 0 ≤ _), (by decide : 25 + 0 ≤ _)⟩)
      dsimp only [Pt.U, Pt.locs, Pt.cells, Pt.slots] at X16 l16 y16 z16 st16 hQ16
      subst l16 y16 z16
      obtain ⟨rfl, N16q, e16⟩ := hQ16
      refine own_FinW.go (fun t k => st16.trans k) ?_
      have N16 := Fr.app N15 N16q
      show own_FinW _ _ _ _ _ _ _ (T16.setTop (mkF m 108 #[.val (.long va), .second, .val (.long vb), .second, .val (.long (va &&& (9223372036854775807 : Int64))), .second, .val (.ref b1), .val (.int (own_gt (va &&& (9223372036854775807 : Int64)) (va &&& (9223372036854775807 : Int64)))), .val (.int (own_gt vb (va &&& (9223372036854775807 : Int64)))), .val (.int (0 : Int32)), .unset] [(.int (own_gt ((va &&& (9223372036854775807 : Int64)) + (1 : Int64)) (va &&& (9223372036854775807 : Int64))))]))
      refine own_FinW.go (fun t k => XS.istore X16.here hx rfl (hb hby at_108) rfl (l' := #[.val (.long va), .second, .val (.long vb), .second, .val (.long (va &&& (9223372036854775807 : Int64))), .second, .val (.ref b1), .val (.int (own_gt (va &&& (9223372036854775807 : Int64)) (va &&& (9223372036854775807 : Int64)))), .val (.int (own_gt vb (va &&& (9223372036854775807 : Int64)))), .val (.int (0 : Int32)), .val (.int (own_gt ((va &&& (9223372036854775807 : Int64)) + (1 : Int64)) (va &&& (9223372036854775807 : Int64))))]) rfl k) ?_
      show own_FinW _ _ _ _ _ _ _ (T16.setTop (mkF m 110 #[.val (.long va), .second, .val (.long vb), .second, .val (.long (va &&& (9223372036854775807 : Int64))), .second, .val (.ref b1), .val (.int (own_gt (va &&& (9223372036854775807 : Int64)) (va &&& (9223372036854775807 : Int64)))), .val (.int (own_gt vb (va &&& (9223372036854775807 : Int64)))), .val (.int (0 : Int32)), .val (.int (own_gt ((va &&& (9223372036854775807 : Int64)) + (1 : Int64)) (va &&& (9223372036854775807 : Int64))))] []))
      refine own_FinW.go (fun t k => XS.iload X16.here hx rfl (hb hby at_110) rfl k) ?_
      show own_FinW _ _ _ _ _ _ _ (T16.setTop (mkF m 112 #[.val (.long va), .second, .val (.long vb), .second, .val (.long (va &&& (9223372036854775807 : Int64))), .second, .val (.ref b1), .val (.int (own_gt (va &&& (9223372036854775807 : Int64)) (va &&& (9223372036854775807 : Int64)))), .val (.int (own_gt vb (va &&& (9223372036854775807 : Int64)))), .val (.int (0 : Int32)), .val (.int (own_gt ((va &&& (9223372036854775807 : Int64)) + (1 : Int64)) (va &&& (9223372036854775807 : Int64))))] [(.int (own_gt ((va &&& (9223372036854775807 : Int64)) + (1 : Int64)) (va &&& (9223372036854775807 : Int64))))]))
      have hc112 : ¬ ((own_gt ((va &&& (9223372036854775807 : Int64)) + (1 : Int64)) (va &&& (9223372036854775807 : Int64))) = (0 : Int32)) := by rw [own_plus hc89]; decide
      refine own_FinW.go (fun t k => XS.ifYes X16.here hx rfl (pc0 := 112) (pc' := 117) rfl (hb hby at_112) rfl (Jvm.Free.XT.i0_ne_t hc112) (by decide) (by decide) k) ?_
      show own_FinW _ _ _ _ _ _ _ (T16.setTop (mkF m 117 #[.val (.long va), .second, .val (.long vb), .second, .val (.long (va &&& (9223372036854775807 : Int64))), .second, .val (.ref b1), .val (.int (own_gt (va &&& (9223372036854775807 : Int64)) (va &&& (9223372036854775807 : Int64)))), .val (.int (own_gt vb (va &&& (9223372036854775807 : Int64)))), .val (.int (0 : Int32)), .val (.int (own_gt ((va &&& (9223372036854775807 : Int64)) + (1 : Int64)) (va &&& (9223372036854775807 : Int64))))] []))
      refine own_FinW.go (fun t k => XS.iconst X16.here hx rfl (hb hby at_117) k) ?_
      show own_FinW _ _ _ _ _ _ _ (T16.setTop (mkF m 118 #[.val (.long va), .second, .val (.long vb), .second, .val (.long (va &&& (9223372036854775807 : Int64))), .second, .val (.ref b1), .val (.int (own_gt (va &&& (9223372036854775807 : Int64)) (va &&& (9223372036854775807 : Int64)))), .val (.int (own_gt vb (va &&& (9223372036854775807 : Int64)))), .val (.int (0 : Int32)), .val (.int (own_gt ((va &&& (9223372036854775807 : Int64)) + (1 : Int64)) (va &&& (9223372036854775807 : Int64))))] [(.int (1 : Int32))]))
      refine own_retNW X16 hx hS (by rw [e16]; exact hk15) (t := .boolean) (w := (1 : Int32)) Bd.returns (by simp) (hb hby at_118) Bd.notSynchronized rfl (by decide) (by decide) ?_
      rw [e16]
      exact ⟨rfl, N16⟩
    · refine own_FinW.go (fun t k => XS.ifYes X10.here hx rfl (pc0 := 89) (pc' := 117) rfl (hb hby at_89) rfl (Jvm.Free.XT.ll_ge_t hc89) (by decide) (by decide) k) ?_
      show own_FinW _ _ _ _ _ _ _ (T10.setTop (mkF m 117 #[.val (.long va), .second, .val (.long vb), .second, .val (.long (va &&& (9223372036854775807 : Int64))), .second, .val (.ref b1), .val (.int (own_gt (va &&& (9223372036854775807 : Int64)) (va &&& (9223372036854775807 : Int64)))), .val (.int (own_gt vb (va &&& (9223372036854775807 : Int64)))), .val (.int (0 : Int32)), .unset] []))
      refine own_FinW.go (fun t k => XS.iconst X10.here hx rfl (hb hby at_117) k) ?_
      show own_FinW _ _ _ _ _ _ _ (T10.setTop (mkF m 118 #[.val (.long va), .second, .val (.long vb), .second, .val (.long (va &&& (9223372036854775807 : Int64))), .second, .val (.ref b1), .val (.int (own_gt (va &&& (9223372036854775807 : Int64)) (va &&& (9223372036854775807 : Int64)))), .val (.int (own_gt vb (va &&& (9223372036854775807 : Int64)))), .val (.int (0 : Int32)), .unset] [(.int (1 : Int32))]))
      refine own_retNW X10 hx hS (by rw [e10]; exact hk9) (t := .boolean) (w := (1 : Int32)) Bd.returns (by simp) (hb hby at_118) Bd.notSynchronized rfl (by decide) (by decide) ?_
      rw [e10]
      exact ⟨rfl, N10⟩
set_option maxRecDepth 65536 in
set_option maxHeartbeats 40000000 in
theorem comes_1 {Post : Tables → Env → Array Value → State → Outcome → State → Prop} (hpost : ∀ tb e args s v u, (limb_1_1.after args s (.returned v) u = true ∧ limb_1_2.after args s (.returned v) u = true ∧ True) → FramedW s (.returned v) u (Jvm.fieldLocs frame_1_writes args s ++ Jvm.arrayLocs frame_1_arrays args s ++ Jvm.staticLocs frame_1_statics s) 24 2176 → Post tb e args s (.returned v) u) :
    ArmFor flags0 classFile x code maxLocals ret World_1 tables_1 room_1 Calls_1 rest_1 Pre_1 Post := by
  intro l hfl _ _ p e ha hc hk s m args below hf hA hF happ hP
  obtain ⟨hcalls, hrest, hpre⟩ := hP
  obtain ⟨-, -, -, hnamed, -, -, -, hat⟩ := (Spec.applies_iff hf).mp happ
  obtain ⟨hg, hn⟩ := and_e (Cond.before_iff.mp (show (Jvm.Cond.and given_1 narrow_1).before args s = true from hpre))
  obtain ⟨hg0, hr0⟩ := and_e hg
  obtain ⟨hg1, hr1⟩ := and_e hr0
  obtain ⟨w0, w1, rfl⟩ : ∃ w0 w1 : Value, args = #[w0, w1] := by
    have hs : args.size = 2 := by simpa [Cond.value, given_1] using hg0
    obtain ⟨L⟩ := args
    match L, hs with
    | [w0, w1], _ => exact ⟨w0, w1, rfl⟩
  have hw := fun d (hd : d ∈ tables_1) => atoms_spec (ws := Jvm.Cond.code x code maxLocals ret :: tables_1) hat d (List.mem_cons_of_mem _ hd)
  have hfit : Fit s := fun {y c} hc i hi => by
    obtain ⟨ha, rfl⟩ := Array.getElem?_eq_some_iff.mp hc
    have q := List.all_eq_true.mp ((Array.all_eq_true_iff_forall_mem.mp hF) _ (Array.getElem_mem ha)) i (List.mem_range.mpr hi)
    simpa [Array.getElem?_eq_getElem hi] using q
  obtain ⟨i0, ei0⟩ := isL_v hg1
  obtain rfl : w0 = (.long i0) := Option.some.inj ei0
  obtain ⟨i1, ei1⟩ := isL_v hr1
  obtain rfl : w1 = (.long i1) := Option.some.inj ei1
  obtain ⟨hsets, hown0⟩ := atoms_of _ (rest_1_c_eq ▸ (show rest_1_c.before _ s = true from hrest))
  have hset := fun (i : Nat) (c : Jvm.Cond) (h : jdkStatics_1[i]? = some c) => hsets c (List.mem_of_getElem? h)
  obtain ⟨vcs, evc⟩ := is_v (Cond.before_iff.mp (hset 1 _ rfl))
  have S_CS := Sta.start evc (Or.inl (hset 0 _ rfl))
  have hcs : ¬ vcs = 0 := fun q => by
    have h2 := not_v (Cond.before_iff.mp (hset 2 _ rfl))
    exact gotF (Cond.eq_ints evc (Term.int_eval (0 : Int32))) h2 q
  obtain ⟨vf, evf, hvf⟩ := isR_v (Cond.before_iff.mp (hset 8 _ rfl))
  have S_SF := Sta.start evf (Or.inl (hset 7 _ rfl))
  have hc13 : Jvm.Lit.constHeld s "com/example/inrush/inrush/engine/VerdictOverPinLaw" 13 := hcalls.1 ("com/example/inrush/inrush/engine/VerdictOverPinLaw", 13) (by simp [consts_1])
  obtain ⟨n, o, h1, h2, h3, _, L, rfl, ⟨rfl, N⟩, hq⟩ := own_rm_law l s _ hw tables_1 i0 i1 vcs vf s.heap s.heap.size (Nat.le_refl _) S_CS hcs S_SF hvf hc13 (hset 2 _ rfl) p e ha hc hk s m _ below hf ((Spec.applies_iff_loose hf).mp happ).1 ⟨rfl, State.Warmed39.refl s, rfl, rfl, rfl, rfl⟩ trivial
  refine ⟨n, _, h1, h2, h3, hpost _ _ _ _ _ _ ⟨Cond.after_iff.mpr rfl, Cond.after_iff.mpr (eq_i res_at (Term.int_eval (1)) rfl), trivial⟩ ⟨hq.1, hq.2.1, hq.2.2.1, (hq.2.2.2.sift fun y hy => Or.inr (N y hy)).mono (by decide) (by decide)⟩⟩
theorem main_1_1 : Claimed_1_1 := comes_1 fun _ _ _ _ _ _ h hF => ⟨h.1, hF⟩
theorem main_1_2 : Claimed_1_2 := comes_1 fun _ _ _ _ _ _ h hF => ⟨h.2.1, hF⟩
end Jvm.Pilot.@@N@@
namespace Jvm.Pilot.@@N@@
open Jvm Jvm.ClassFile Sem Op Lib Jvm.Free Jvm.Stand Jvm.Pilot.@@N@@.Jvm.D
/-! MADE BY PROGRAM (witnessworld.py) out of the Statement's table words and the real class files: 20 classes; the members and pool entries that the words name. The judged class is class 1, her method 1. -/
namespace start1
open Jvm.ClassFile
def u (s : String) : CpInfo := .utf8 (stringToUtf16 s)
/-- a pool by its gaps: so many unusable entries, then the entry; so many at the end -/
def gap : Nat → List CpInfo → List CpInfo
  | 0, r => r
  | n + 1, r => .unusable :: gap n r
def poolList (es : List (Nat × CpInfo)) (last : Nat) : List CpInfo := es.foldr (fun e r => gap e.1 (e.2 :: r)) (gap last [])
def pool (es : List (Nat × CpInfo)) (last : Nat) : Array CpInfo := ⟨poolList es last⟩
def fileOf (pool : Array CpInfo) (this : Nat) (attrs : Array Attribute := #[]) (ms : Array MethodInfo := #[]) (fl : Nat := 33) (sup : Nat := 0) (ifs : Array Nat := #[]) (fds : Array FieldInfo := #[]) : ClassFile where
  minorVersion := 0
  majorVersion := 65
  constantPool := pool
  accessFlags := fl
  thisClass := this
  superClass := sup
  interfaces := ifs
  fields := fds
  methods := ms
  attributes := attrs
def plain (name : String) (sup : Option ClassId) : Class where
  name := name
  kind := .ordinary
  loader := none
  accessFlags := 33
  super := sup
  interfaces := #[]
  cf := none
  fields := #[]
  methods := #[]
  instanceTypes := #[]
  staticTypes := #[]
  resolved := #[]
  callSites := []
  init := .initialized
  statics := none
  mirror := none

def pool0 : Array CpInfo := pool [(5, u "<init>"), (0, u "()V"), (1, .class_ 10), (1, u "java/lang/Object")] 113

def k0c0 : Code := { maxStack := 0, maxLocals := 1, code := object_method_1_code, exceptionTable := #[], attributes := #[] }
def k0m0 : Method := { name := "<init>", desc := "()V", sig := { parameters := [], returnType := none }, accessFlags := 1, code := some k0c0 }
/-- java/lang/Object -/
def k0 : Class := { plain "java/lang/Object" none with
  accessFlags := 33
  interfaces := #[]
  cf := some (fileOf pool0 8 #[] #[{ accessFlags := 1, nameIndex := 5, descriptorIndex := 6, attributes := #[] }] 33 0 #[] #[])
  fields := #[]
  methods := #[k0m0]
  instanceTypes := #[]
  staticTypes := #[]
  resolved := Array.replicate 124 none
  statics := none }

def pool1 : Array CpInfo := pool [(2, .class_ 4), (1, u "java/lang/Object"), (0, u "<init>"), (0, u "()V"), (2, .long 9223372036854775807), (1, .class_ 12), (0, u "com/example/inrush/inrush/engine/Limit"), (0, .string 14), (0, u "c"), (0, .string 16), (0, u "w"), (0, .methodref 11 18), (0, .nameAndType 5 19), (0, u "(Ljava/lang/String;Ljava/lang/String;J)V"), (0, .class_ 21), (0, u "com/example/inrush/inrush/engine/Limit$Verdict"), (0, .methodref 20 23), (0, .nameAndType 5 24), (0, u "(Lcom/example/inrush/inrush/engine/Limit;J)V"), (0, .methodref 20 26), (0, .nameAndType 27 28), (0, u "over"), (0, u "()Z"), (0, .class_ 30), (0, u "com/example/inrush/inrush/engine/VerdictOverPinLaw"), (2, u "law"), (0, u "(JJ)Z")] 5

def k1m0 : Method := { name := "<init>", desc := "()V", sig := { parameters := [], returnType := none }, accessFlags := 1, code := none }
def k1c1 : Code := { maxStack := 7, maxLocals := 11, code := code, exceptionTable := #[], attributes := #[] }
def k1m1 : Method := { name := "law", desc := "(JJ)Z", sig := { parameters := [.long, .long], returnType := some .boolean }, accessFlags := 9, code := some k1c1 }
/-- com/example/inrush/inrush/engine/VerdictOverPinLaw -/
def k1 : Class := { plain "com/example/inrush/inrush/engine/VerdictOverPinLaw" (some 0) with
  accessFlags := 49
  interfaces := #[]
  cf := some (fileOf pool1 29 #[] #[{ accessFlags := 1, nameIndex := 5, descriptorIndex := 6, attributes := #[] }, { accessFlags := 9, nameIndex := 33, descriptorIndex := 34, attributes := #[] }] 49 2 #[] #[])
  fields := #[]
  methods := #[k1m0, k1m1]
  instanceTypes := #[]
  staticTypes := #[]
  resolved := Array.replicate 40 none
  statics := none }

def pool2 : Array CpInfo := pool [(1, .methodref 2 3), (0, .class_ 4), (0, .nameAndType 5 6), (0, u "java/lang/Object"), (0, u "<init>"), (0, u "()V"), (0, .class_ 8), (0, u "java/lang/Record")] 13

def k2c0 : Code := { maxStack := 1, maxLocals := 1, code := jdk_30_method_1_code, exceptionTable := #[], attributes := #[] }
def k2m0 : Method := { name := "<init>", desc := "()V", sig := { parameters := [], returnType := none }, accessFlags := 4, code := some k2c0 }
/-- java/lang/Record -/
def k2 : Class := { plain "java/lang/Record" (some 0) with
  accessFlags := 1057
  interfaces := #[]
  cf := some (fileOf pool2 7 #[] #[{ accessFlags := 4, nameIndex := 5, descriptorIndex := 6, attributes := #[] }] 1057 2 #[] #[])
  fields := #[]
  methods := #[k2m0]
  instanceTypes := #[]
  staticTypes := #[]
  resolved := Array.replicate 22 none
  statics := none }

def pool3 : Array CpInfo := pool [(3, .methodref 4 5), (0, .class_ 6), (0, .nameAndType 7 8), (0, u "java/lang/Record"), (0, u "<init>"), (0, u "()V"), (0, .methodref 10 11), (0, .class_ 12), (0, .nameAndType 13 14), (0, u "com/example/inrush/inrush/engine/Names"), (0, u "checkCounter"), (0, u "(Ljava/lang/String;)Ljava/lang/String;"), (2, .class_ 18), (0, u "com/example/inrush/inrush/engine/Limit"), (5, .fieldref 17 25), (0, .nameAndType 26 27), (0, u "counter"), (0, u "Ljava/lang/String;"), (0, .fieldref 17 29), (0, .nameAndType 30 27), (0, u "window"), (0, .fieldref 17 32), (0, .nameAndType 33 34), (0, u "max"), (0, u "J"), (12, u "MAX_RULE"), (1, u "(Ljava/lang/String;Ljava/lang/String;J)V"), (9, u "()J"), (3, .class_ 64), (0, u "com/example/inrush/inrush/engine/Limit$Verdict")] 21

def k3c0 : Code := { maxStack := 4, maxLocals := 5, code := prog_21_method_1_code, exceptionTable := #[], attributes := #[] }
def k3m0 : Method := { name := "<init>", desc := "(Ljava/lang/String;Ljava/lang/String;J)V", sig := { parameters := [(.object "java/lang/String"), (.object "java/lang/String"), .long], returnType := none }, accessFlags := 1, code := some k3c0 }
def k3c1 : Code := { maxStack := 2, maxLocals := 1, code := prog_21_method_7_code, exceptionTable := #[], attributes := #[] }
def k3m1 : Method := { name := "max", desc := "()J", sig := { parameters := [], returnType := some .long }, accessFlags := 1, code := some k3c1 }
/-- com/example/inrush/inrush/engine/Limit -/
def k3 : Class := { plain "com/example/inrush/inrush/engine/Limit" (some 2) with
  accessFlags := 49
  interfaces := #[]
  cf := some (fileOf pool3 17 #[.nestMembers #[63]] #[{ accessFlags := 1, nameIndex := 7, descriptorIndex := 49, attributes := #[] }, { accessFlags := 1, nameIndex := 33, descriptorIndex := 59, attributes := #[] }] 49 4 #[] #[{ accessFlags := 18, nameIndex := 26, descriptorIndex := 27, attributes := #[] }, { accessFlags := 18, nameIndex := 30, descriptorIndex := 27, attributes := #[] }, { accessFlags := 18, nameIndex := 33, descriptorIndex := 34, attributes := #[] }, { accessFlags := 25, nameIndex := 47, descriptorIndex := 27, attributes := #[] }])
  fields := #[{ name := "counter", type := (.object "java/lang/String"), accessFlags := 18, slot := 0, constantValue := 0 }, { name := "window", type := (.object "java/lang/String"), accessFlags := 18, slot := 1, constantValue := 0 }, { name := "max", type := .long, accessFlags := 18, slot := 2, constantValue := 0 }, { name := "MAX_RULE", type := (.object "java/lang/String"), accessFlags := 25, slot := 0, constantValue := 0 }]
  methods := #[k3m0, k3m1]
  instanceTypes := #[(.object "java/lang/String"), (.object "java/lang/String"), .long]
  staticTypes := #[(.object "java/lang/String")]
  resolved := Array.replicate 86 none
  statics := none }

def pool4 : Array CpInfo := pool [(1, .class_ 2), (0, u "java/io/Serializable"), (0, .class_ 4), (0, u "java/lang/Object")] 2

/-- java/io/Serializable -/
def k4 : Class := { plain "java/io/Serializable" (some 0) with
  accessFlags := 1537
  interfaces := #[]
  cf := some (fileOf pool4 1 #[] #[] 1537 3 #[] #[])
  fields := #[]
  methods := #[]
  instanceTypes := #[]
  staticTypes := #[]
  resolved := Array.replicate 7 none
  statics := none }

def pool5 : Array CpInfo := pool [(1, .class_ 2), (0, u "java/lang/Comparable"), (0, .class_ 4), (0, u "java/lang/Object")] 7

/-- java/lang/Comparable -/
def k5 : Class := { plain "java/lang/Comparable" (some 0) with
  accessFlags := 1537
  interfaces := #[]
  cf := some (fileOf pool5 1 #[] #[] 1537 3 #[] #[])
  fields := #[]
  methods := #[]
  instanceTypes := #[]
  staticTypes := #[]
  resolved := Array.replicate 12 none
  statics := none }

def pool6 : Array CpInfo := pool [(2, .class_ 4), (1, u "java/lang/CharSequence"), (42, .class_ 48), (0, u "java/lang/CharSequence$1CodePointIterator"), (10, .class_ 60), (0, u "java/lang/CharSequence$1CharIterator"), (5, .class_ 67), (0, u "java/lang/Object")] 63

/-- java/lang/CharSequence -/
def k6 : Class := { plain "java/lang/CharSequence" (some 0) with
  accessFlags := 1537
  interfaces := #[]
  cf := some (fileOf pool6 2 #[.nestMembers #[47, 59]] #[] 1537 66 #[] #[])
  fields := #[]
  methods := #[]
  instanceTypes := #[]
  staticTypes := #[]
  resolved := Array.replicate 131 none
  statics := none }

def pool7 : Array CpInfo := pool [(1, .class_ 2), (0, u "java/lang/constant/Constable"), (0, .class_ 4), (0, u "java/lang/Object")] 6

/-- java/lang/constant/Constable -/
def k7 : Class := { plain "java/lang/constant/Constable" (some 0) with
  accessFlags := 1537
  interfaces := #[]
  cf := some (fileOf pool7 1 #[] #[] 1537 3 #[] #[])
  fields := #[]
  methods := #[]
  instanceTypes := #[]
  staticTypes := #[]
  resolved := Array.replicate 11 none
  statics := none }

def pool8 : Array CpInfo := pool [(1, .class_ 2), (0, u "java/lang/constant/ConstantDesc"), (0, .class_ 4), (0, u "java/lang/Object")] 32

/-- java/lang/constant/ConstantDesc -/
def k8 : Class := { plain "java/lang/constant/ConstantDesc" (some 0) with
  accessFlags := 1537
  interfaces := #[]
  cf := some (fileOf pool8 1 #[] #[] 1537 3 #[] #[])
  fields := #[]
  methods := #[]
  instanceTypes := #[]
  staticTypes := #[]
  resolved := Array.replicate 37 none
  statics := none }

def pool9 : Array CpInfo := pool [(2, .class_ 4), (1, u "java/lang/Object"), (0, u "<init>"), (0, u "()V"), (2, .fieldref 10 11), (0, .class_ 12), (0, .nameAndType 13 14), (0, u "java/lang/String"), (0, u "value"), (0, u "[B"), (0, .fieldref 10 16), (0, .nameAndType 17 18), (0, u "coder"), (0, u "B"), (2, u "hash"), (0, u "I"), (2, u "hashIsZero"), (0, u "Z"), (11, .fieldref 10 39), (0, .nameAndType 40 26), (0, u "COMPACT_STRINGS"), (66, .class_ 109), (1, u "java/lang/StringLatin1"), (32, u "()Z"), (191, u "()I"), (0, .methodref 10 336), (0, .nameAndType 17 337), (0, u "()B"), (25, u "([BI)C"), (27, u "(II)V"), (35, u "(I)C"), (64, .methodref 10 493), (0, .nameAndType 494 142), (0, u "isLatin1"), (0, .methodref 107 496), (0, .nameAndType 497 363), (0, u "charAt"), (3, u "checkIndex"), (5, u "length"), (67, .class_ 576), (0, u "java/lang/CharSequence"), (22, u "CASE_INSENSITIVE_ORDER"), (0, u "Ljava/util/Comparator;"), (452, .fieldref 1054 1055), (0, .class_ 1056), (0, .nameAndType 1057 1058), (0, u "jdk/internal/util/Preconditions"), (0, u "SIOOBE_FORMATTER"), (0, u "Ljava/util/function/BiFunction;"), (0, .methodref 1054 1060), (0, .nameAndType 501 1061), (0, u "(IILjava/util/function/BiFunction;)I"), (39, u "serialPersistentFields"), (0, u "[Ljava/io/ObjectStreamField;"), (0, .class_ 1104), (0, u "java/lang/String$CaseInsensitiveComparator"), (1, .class_ 1107), (0, u "java/io/Serializable"), (0, .class_ 1109), (0, u "java/lang/Comparable"), (0, .class_ 1111), (0, u "java/lang/constant/Constable"), (0, .class_ 1113), (0, u "java/lang/constant/ConstantDesc"), (2, u "serialVersionUID"), (0, u "J"), (3, u "REPL"), (0, u "C"), (2, u "LATIN1"), (1, u "UTF16")] 323

def k9m0 : Method := { name := "<init>", desc := "()V", sig := { parameters := [], returnType := none }, accessFlags := 1, code := none }
def k9c1 : Code := { maxStack := 2, maxLocals := 1, code := jdk_42_method_54_code, exceptionTable := #[], attributes := #[] }
def k9m1 : Method := { name := "length", desc := "()I", sig := { parameters := [], returnType := some .int }, accessFlags := 1, code := some k9c1 }
def k9c2 : Code := { maxStack := 2, maxLocals := 2, code := jdk_42_method_56_code, exceptionTable := #[], attributes := #[] }
def k9m2 : Method := { name := "charAt", desc := "(I)C", sig := { parameters := [.int], returnType := some .char }, accessFlags := 1, code := some k9c2 }
def k9c3 : Code := { maxStack := 1, maxLocals := 1, code := jdk_42_method_152_code, exceptionTable := #[], attributes := #[] }
def k9m3 : Method := { name := "coder", desc := "()B", sig := { parameters := [], returnType := some .byte }, accessFlags := 0, code := some k9c3 }
def k9c4 : Code := { maxStack := 1, maxLocals := 1, code := jdk_42_method_154_code, exceptionTable := #[], attributes := #[] }
def k9m4 : Method := { name := "isLatin1", desc := "()Z", sig := { parameters := [], returnType := some .boolean }, accessFlags := 0, code := some k9c4 }
def k9c5 : Code := { maxStack := 3, maxLocals := 2, code := jdk_42_method_155_code, exceptionTable := #[], attributes := #[] }
def k9m5 : Method := { name := "checkIndex", desc := "(II)V", sig := { parameters := [.int, .int], returnType := none }, accessFlags := 8, code := some k9c5 }
/-- java/lang/String -/
def k9 : Class := { plain "java/lang/String" (some 0) with
  accessFlags := 49
  interfaces := #[4, 5, 6, 7, 8]
  cf := some (fileOf pool9 10 #[.nestMembers #[1103]] #[{ accessFlags := 1, nameIndex := 5, descriptorIndex := 6, attributes := #[] }, { accessFlags := 1, nameIndex := 507, descriptorIndex := 334, attributes := #[] }, { accessFlags := 1, nameIndex := 497, descriptorIndex := 427, attributes := #[] }, { accessFlags := 0, nameIndex := 17, descriptorIndex := 337, attributes := #[] }, { accessFlags := 0, nameIndex := 494, descriptorIndex := 142, attributes := #[] }, { accessFlags := 8, nameIndex := 501, descriptorIndex := 391, attributes := #[] }] 49 2 #[1106, 1108, 575, 1110, 1112] #[{ accessFlags := 18, nameIndex := 13, descriptorIndex := 14, attributes := #[] }, { accessFlags := 18, nameIndex := 17, descriptorIndex := 18, attributes := #[] }, { accessFlags := 2, nameIndex := 21, descriptorIndex := 22, attributes := #[] }, { accessFlags := 2, nameIndex := 25, descriptorIndex := 26, attributes := #[] }, { accessFlags := 26, nameIndex := 1116, descriptorIndex := 1117, attributes := #[] }, { accessFlags := 24, nameIndex := 40, descriptorIndex := 26, attributes := #[] }, { accessFlags := 26, nameIndex := 1101, descriptorIndex := 1102, attributes := #[] }, { accessFlags := 26, nameIndex := 1121, descriptorIndex := 1122, attributes := #[] }, { accessFlags := 25, nameIndex := 599, descriptorIndex := 600, attributes := #[] }, { accessFlags := 24, nameIndex := 1125, descriptorIndex := 18, attributes := #[] }, { accessFlags := 24, nameIndex := 1127, descriptorIndex := 18, attributes := #[] }])
  fields := #[{ name := "value", type := (.array .byte), accessFlags := 18, slot := 0, constantValue := 0 }, { name := "coder", type := .byte, accessFlags := 18, slot := 1, constantValue := 0 }, { name := "hash", type := .int, accessFlags := 2, slot := 2, constantValue := 0 }, { name := "hashIsZero", type := .boolean, accessFlags := 2, slot := 3, constantValue := 0 }, { name := "serialVersionUID", type := .long, accessFlags := 26, slot := 0, constantValue := 0 }, { name := "COMPACT_STRINGS", type := .boolean, accessFlags := 24, slot := 1, constantValue := 0 }, { name := "serialPersistentFields", type := (.array (.object "java/io/ObjectStreamField")), accessFlags := 26, slot := 2, constantValue := 0 }, { name := "REPL", type := .char, accessFlags := 26, slot := 3, constantValue := 0 }, { name := "CASE_INSENSITIVE_ORDER", type := (.object "java/util/Comparator"), accessFlags := 25, slot := 4, constantValue := 0 }, { name := "LATIN1", type := .byte, accessFlags := 24, slot := 5, constantValue := 0 }, { name := "UTF16", type := .byte, accessFlags := 24, slot := 6, constantValue := 0 }]
  methods := #[k9m0, k9m1, k9m2, k9m3, k9m4, k9m5]
  instanceTypes := #[(.array .byte), .byte, .int, .boolean]
  staticTypes := #[.long, .boolean, (.array (.object "java/io/ObjectStreamField")), .char, (.object "java/util/Comparator"), .byte, .byte]
  resolved := Array.replicate 1451 none
  statics := some 0 }

def pool10 : Array CpInfo := pool [(2, .class_ 4), (1, u "java/lang/Object"), (0, u "<init>"), (0, u "()V"), (0, .class_ 8), (0, u "com/example/inrush/inrush/engine/Names"), (0, .methodref 7 10), (0, .nameAndType 11 12), (0, u "isName"), (0, u "(Ljava/lang/String;IZ)Z"), (7, .methodref 21 22), (0, .class_ 23), (0, .nameAndType 24 25), (0, u "java/lang/String"), (0, u "charAt"), (0, u "(I)C"), (0, .methodref 7 27), (0, .nameAndType 28 29), (0, u "isLetter"), (0, u "(C)Z"), (10, .methodref 21 41), (0, .nameAndType 42 43), (0, u "length"), (0, u "()I"), (0, u "NAMESPACE_LENGTH"), (0, u "I"), (2, u "COUNTER_LENGTH"), (1, u "LAYOUT_NAME_LENGTH"), (4, u "(Ljava/lang/String;)Ljava/lang/String;"), (1, u "checkCounter")] 4

def k10m0 : Method := { name := "<init>", desc := "()V", sig := { parameters := [], returnType := none }, accessFlags := 2, code := none }
def k10c1 : Code := { maxStack := 3, maxLocals := 1, code := prog_24_method_3_code, exceptionTable := #[], attributes := #[] }
def k10m1 : Method := { name := "checkCounter", desc := "(Ljava/lang/String;)Ljava/lang/String;", sig := { parameters := [(.object "java/lang/String")], returnType := some (.object "java/lang/String") }, accessFlags := 9, code := some k10c1 }
def k10c2 : Code := { maxStack := 2, maxLocals := 6, code := prog_24_method_6_code, exceptionTable := #[], attributes := #[] }
def k10m2 : Method := { name := "isName", desc := "(Ljava/lang/String;IZ)Z", sig := { parameters := [(.object "java/lang/String"), .int, .boolean], returnType := some .boolean }, accessFlags := 10, code := some k10c2 }
def k10c3 : Code := { maxStack := 2, maxLocals := 1, code := prog_24_method_7_code, exceptionTable := #[], attributes := #[] }
def k10m3 : Method := { name := "isLetter", desc := "(C)Z", sig := { parameters := [.char], returnType := some .boolean }, accessFlags := 10, code := some k10c3 }
/-- com/example/inrush/inrush/engine/Names -/
def k10 : Class := { plain "com/example/inrush/inrush/engine/Names" (some 0) with
  accessFlags := 49
  interfaces := #[]
  cf := some (fileOf pool10 7 #[] #[{ accessFlags := 2, nameIndex := 5, descriptorIndex := 6, attributes := #[] }, { accessFlags := 9, nameIndex := 57, descriptorIndex := 55, attributes := #[] }, { accessFlags := 10, nameIndex := 11, descriptorIndex := 12, attributes := #[] }, { accessFlags := 10, nameIndex := 28, descriptorIndex := 29, attributes := #[] }] 49 2 #[] #[{ accessFlags := 26, nameIndex := 44, descriptorIndex := 45, attributes := #[] }, { accessFlags := 26, nameIndex := 48, descriptorIndex := 45, attributes := #[] }, { accessFlags := 26, nameIndex := 50, descriptorIndex := 45, attributes := #[] }])
  fields := #[{ name := "NAMESPACE_LENGTH", type := .int, accessFlags := 26, slot := 0, constantValue := 0 }, { name := "COUNTER_LENGTH", type := .int, accessFlags := 26, slot := 1, constantValue := 0 }, { name := "LAYOUT_NAME_LENGTH", type := .int, accessFlags := 26, slot := 2, constantValue := 0 }]
  methods := #[k10m0, k10m1, k10m2, k10m3]
  instanceTypes := #[]
  staticTypes := #[.int, .int, .int]
  resolved := Array.replicate 62 none
  statics := none }

def pool11 : Array CpInfo := pool [(1, .class_ 2), (0, u "java/lang/String"), (1, .class_ 6), (1, u "java/lang/Object"), (0, u "<init>"), (0, u "()V"), (0, .methodref 1 10), (0, .nameAndType 11 12), (0, u "checkIndex"), (0, u "(II)V"), (1, .class_ 16), (1, u "java/lang/StringLatin1"), (36, u "([BI)C"), (67, u "$assertionsDisabled"), (0, u "Z"), (98, .class_ 223), (1, u "java/lang/StringLatin1$LinesSpliterator"), (28, u "charAt"), (137, .class_ 391), (0, u "java/lang/StringLatin1$CharsSpliterator")] 3

def k11m0 : Method := { name := "<init>", desc := "()V", sig := { parameters := [], returnType := none }, accessFlags := 0, code := none }
def k11c1 : Code := { maxStack := 2, maxLocals := 2, code := jdk_43_method_2_code, exceptionTable := #[], attributes := #[] }
def k11m1 : Method := { name := "charAt", desc := "([BI)C", sig := { parameters := [(.array .byte), .int], returnType := some .char }, accessFlags := 9, code := some k11c1 }
/-- java/lang/StringLatin1 -/
def k11 : Class := { plain "java/lang/StringLatin1" (some 0) with
  accessFlags := 48
  interfaces := #[]
  cf := some (fileOf pool11 14 #[.nestMembers #[390, 221]] #[{ accessFlags := 0, nameIndex := 7, descriptorIndex := 8, attributes := #[] }, { accessFlags := 9, nameIndex := 252, descriptorIndex := 53, attributes := #[] }] 48 4 #[] #[{ accessFlags := 4120, nameIndex := 121, descriptorIndex := 122, attributes := #[] }])
  fields := #[{ name := "$assertionsDisabled", type := .boolean, accessFlags := 4120, slot := 0, constantValue := 0 }]
  methods := #[k11m0, k11m1]
  instanceTypes := #[]
  staticTypes := #[.boolean]
  resolved := Array.replicate 395 none
  statics := none }

def pool12 : Array CpInfo := pool [(2, .class_ 4), (1, u "java/lang/Object"), (0, u "<init>"), (0, u "()V"), (17, .class_ 26), (1, u "jdk/internal/util/Preconditions"), (6, u "checkIndex"), (21, .class_ 56), (0, u "jdk/internal/util/Preconditions$4"), (57, .class_ 115), (0, u "jdk/internal/util/Preconditions$1"), (7, u "SIOOBE_FORMATTER"), (0, u "Ljava/util/function/BiFunction;"), (0, .class_ 126), (0, u "jdk/internal/util/Preconditions$2"), (3, u "AIOOBE_FORMATTER"), (0, .class_ 132), (0, u "jdk/internal/util/Preconditions$3"), (3, u "IOOBE_FORMATTER"), (41, u "(IILjava/util/function/BiFunction;)I")] 15

def k12m0 : Method := { name := "<init>", desc := "()V", sig := { parameters := [], returnType := none }, accessFlags := 1, code := none }
def k12c1 : Code := { maxStack := 3, maxLocals := 3, code := jdk_41_method_11_code, exceptionTable := #[], attributes := #[] }
def k12m1 : Method := { name := "checkIndex", desc := "(IILjava/util/function/BiFunction;)I", sig := { parameters := [.int, .int, (.object "java/util/function/BiFunction")], returnType := some .int }, accessFlags := 9, code := some k12c1 }
/-- jdk/internal/util/Preconditions -/
def k12 : Class := { plain "jdk/internal/util/Preconditions" (some 0) with
  accessFlags := 33
  interfaces := #[]
  cf := some (fileOf pool12 24 #[.nestMembers #[55, 131, 125, 114]] #[{ accessFlags := 1, nameIndex := 5, descriptorIndex := 6, attributes := #[] }, { accessFlags := 9, nameIndex := 33, descriptorIndex := 178, attributes := #[] }] 33 2 #[] #[{ accessFlags := 25, nameIndex := 123, descriptorIndex := 124, attributes := #[] }, { accessFlags := 25, nameIndex := 130, descriptorIndex := 124, attributes := #[] }, { accessFlags := 25, nameIndex := 136, descriptorIndex := 124, attributes := #[] }])
  fields := #[{ name := "SIOOBE_FORMATTER", type := (.object "java/util/function/BiFunction"), accessFlags := 25, slot := 0, constantValue := 0 }, { name := "AIOOBE_FORMATTER", type := (.object "java/util/function/BiFunction"), accessFlags := 25, slot := 1, constantValue := 0 }, { name := "IOOBE_FORMATTER", type := (.object "java/util/function/BiFunction"), accessFlags := 25, slot := 2, constantValue := 0 }]
  methods := #[k12m0, k12m1]
  instanceTypes := #[]
  staticTypes := #[(.object "java/util/function/BiFunction"), (.object "java/util/function/BiFunction"), (.object "java/util/function/BiFunction")]
  resolved := Array.replicate 194 none
  statics := some 1 }

def pool13 : Array CpInfo := pool [(1, .methodref 2 3), (0, .class_ 4), (0, .nameAndType 5 6), (0, u "java/lang/Record"), (0, u "<init>"), (0, u "()V"), (0, .fieldref 8 9), (0, .class_ 10), (0, .nameAndType 11 12), (0, u "com/example/inrush/inrush/engine/Limit$Verdict"), (0, u "limit"), (0, u "Lcom/example/inrush/inrush/engine/Limit;"), (0, .fieldref 8 14), (0, .nameAndType 15 16), (0, u "count"), (0, u "J"), (0, .methodref 18 19), (0, .class_ 20), (0, .nameAndType 21 22), (0, u "com/example/inrush/inrush/engine/Limit"), (0, u "max"), (0, u "()J"), (12, u "(Lcom/example/inrush/inrush/engine/Limit;J)V"), (3, u "over"), (0, u "()Z")] 28

def k13c0 : Code := { maxStack := 3, maxLocals := 4, code := prog_22_method_1_code, exceptionTable := #[], attributes := #[] }
def k13m0 : Method := { name := "<init>", desc := "(Lcom/example/inrush/inrush/engine/Limit;J)V", sig := { parameters := [(.object "com/example/inrush/inrush/engine/Limit"), .long], returnType := none }, accessFlags := 1, code := some k13c0 }
def k13c1 : Code := { maxStack := 4, maxLocals := 1, code := prog_22_method_2_code, exceptionTable := #[], attributes := #[] }
def k13m1 : Method := { name := "over", desc := "()Z", sig := { parameters := [], returnType := some .boolean }, accessFlags := 1, code := some k13c1 }
/-- com/example/inrush/inrush/engine/Limit$Verdict -/
def k13 : Class := { plain "com/example/inrush/inrush/engine/Limit$Verdict" (some 2) with
  accessFlags := 49
  interfaces := #[]
  cf := some (fileOf pool13 8 #[.nestHost 18] #[{ accessFlags := 1, nameIndex := 5, descriptorIndex := 35, attributes := #[] }, { accessFlags := 1, nameIndex := 39, descriptorIndex := 40, attributes := #[] }] 49 2 #[] #[{ accessFlags := 18, nameIndex := 11, descriptorIndex := 12, attributes := #[] }, { accessFlags := 18, nameIndex := 15, descriptorIndex := 16, attributes := #[] }])
  fields := #[{ name := "limit", type := (.object "com/example/inrush/inrush/engine/Limit"), accessFlags := 18, slot := 0, constantValue := 0 }, { name := "count", type := .long, accessFlags := 18, slot := 1, constantValue := 0 }]
  methods := #[k13m0, k13m1]
  instanceTypes := #[(.object "com/example/inrush/inrush/engine/Limit"), .long]
  staticTypes := #[]
  resolved := Array.replicate 69 none
  statics := none }

def pool14 : Array CpInfo := pool [(9, u "<init>"), (6, .class_ 18), (1, u "java/lang/Object"), (0, u "()V"), (1, .class_ 23), (1, u "jdk/internal/util/ArraysSupport"), (0, u "LOG2_ARRAY_LONG_INDEX_SCALE"), (0, u "I"), (2, u "U"), (0, u "Ljdk/internal/misc/Unsafe;"), (8, u "BIG_ENDIAN"), (0, u "Z"), (8, u "LOG2_BYTE_BIT_SIZE"), (4, u "LOG2_ARRAY_INT_INDEX_SCALE"), (54, u "JLA"), (0, u "Ljdk/internal/access/JavaLangAccess;"), (11, u "LOG2_ARRAY_BOOLEAN_INDEX_SCALE"), (9, u "LOG2_ARRAY_BYTE_INDEX_SCALE"), (5, u "LOG2_ARRAY_CHAR_INDEX_SCALE"), (5, u "LOG2_ARRAY_SHORT_INDEX_SCALE"), (18, u "LOG2_ARRAY_FLOAT_INDEX_SCALE"), (24, u "LOG2_ARRAY_DOUBLE_INDEX_SCALE"), (89, u "T_BOOLEAN"), (2, u "T_CHAR"), (1, u "T_FLOAT"), (1, u "T_DOUBLE"), (1, u "T_BYTE"), (1, u "T_SHORT"), (1, u "T_INT"), (1, u "T_LONG"), (1, u "SOFT_MAX_ARRAY_LENGTH")] 83

def k14m0 : Method := { name := "<init>", desc := "()V", sig := { parameters := [], returnType := none }, accessFlags := 2, code := none }
/-- jdk/internal/util/ArraysSupport -/
def k14 : Class := { plain "jdk/internal/util/ArraysSupport" (some 0) with
  accessFlags := 33
  interfaces := #[]
  cf := some (fileOf pool14 21 #[] #[{ accessFlags := 2, nameIndex := 9, descriptorIndex := 19, attributes := #[] }] 33 16 #[] #[{ accessFlags := 24, nameIndex := 28, descriptorIndex := 29, attributes := #[] }, { accessFlags := 26, nameIndex := 38, descriptorIndex := 39, attributes := #[] }, { accessFlags := 25, nameIndex := 121, descriptorIndex := 25, attributes := #[] }, { accessFlags := 25, nameIndex := 131, descriptorIndex := 25, attributes := #[] }, { accessFlags := 25, nameIndex := 137, descriptorIndex := 25, attributes := #[] }, { accessFlags := 25, nameIndex := 143, descriptorIndex := 25, attributes := #[] }, { accessFlags := 25, nameIndex := 53, descriptorIndex := 25, attributes := #[] }, { accessFlags := 25, nameIndex := 24, descriptorIndex := 25, attributes := #[] }, { accessFlags := 25, nameIndex := 162, descriptorIndex := 25, attributes := #[] }, { accessFlags := 25, nameIndex := 187, descriptorIndex := 25, attributes := #[] }, { accessFlags := 26, nameIndex := 48, descriptorIndex := 25, attributes := #[] }, { accessFlags := 25, nameIndex := 277, descriptorIndex := 25, attributes := #[] }, { accessFlags := 25, nameIndex := 280, descriptorIndex := 25, attributes := #[] }, { accessFlags := 25, nameIndex := 282, descriptorIndex := 25, attributes := #[] }, { accessFlags := 25, nameIndex := 284, descriptorIndex := 25, attributes := #[] }, { accessFlags := 25, nameIndex := 286, descriptorIndex := 25, attributes := #[] }, { accessFlags := 25, nameIndex := 288, descriptorIndex := 25, attributes := #[] }, { accessFlags := 25, nameIndex := 290, descriptorIndex := 25, attributes := #[] }, { accessFlags := 25, nameIndex := 292, descriptorIndex := 25, attributes := #[] }, { accessFlags := 26, nameIndex := 108, descriptorIndex := 109, attributes := #[] }, { accessFlags := 25, nameIndex := 294, descriptorIndex := 25, attributes := #[] }])
  fields := #[{ name := "U", type := (.object "jdk/internal/misc/Unsafe"), accessFlags := 24, slot := 0, constantValue := 0 }, { name := "BIG_ENDIAN", type := .boolean, accessFlags := 26, slot := 1, constantValue := 0 }, { name := "LOG2_ARRAY_BOOLEAN_INDEX_SCALE", type := .int, accessFlags := 25, slot := 2, constantValue := 0 }, { name := "LOG2_ARRAY_BYTE_INDEX_SCALE", type := .int, accessFlags := 25, slot := 3, constantValue := 0 }, { name := "LOG2_ARRAY_CHAR_INDEX_SCALE", type := .int, accessFlags := 25, slot := 4, constantValue := 0 }, { name := "LOG2_ARRAY_SHORT_INDEX_SCALE", type := .int, accessFlags := 25, slot := 5, constantValue := 0 }, { name := "LOG2_ARRAY_INT_INDEX_SCALE", type := .int, accessFlags := 25, slot := 6, constantValue := 0 }, { name := "LOG2_ARRAY_LONG_INDEX_SCALE", type := .int, accessFlags := 25, slot := 7, constantValue := 0 }, { name := "LOG2_ARRAY_FLOAT_INDEX_SCALE", type := .int, accessFlags := 25, slot := 8, constantValue := 0 }, { name := "LOG2_ARRAY_DOUBLE_INDEX_SCALE", type := .int, accessFlags := 25, slot := 9, constantValue := 0 }, { name := "LOG2_BYTE_BIT_SIZE", type := .int, accessFlags := 26, slot := 10, constantValue := 0 }, { name := "T_BOOLEAN", type := .int, accessFlags := 25, slot := 11, constantValue := 0 }, { name := "T_CHAR", type := .int, accessFlags := 25, slot := 12, constantValue := 0 }, { name := "T_FLOAT", type := .int, accessFlags := 25, slot := 13, constantValue := 0 }, { name := "T_DOUBLE", type := .int, accessFlags := 25, slot := 14, constantValue := 0 }, { name := "T_BYTE", type := .int, accessFlags := 25, slot := 15, constantValue := 0 }, { name := "T_SHORT", type := .int, accessFlags := 25, slot := 16, constantValue := 0 }, { name := "T_INT", type := .int, accessFlags := 25, slot := 17, constantValue := 0 }, { name := "T_LONG", type := .int, accessFlags := 25, slot := 18, constantValue := 0 }, { name := "JLA", type := (.object "jdk/internal/access/JavaLangAccess"), accessFlags := 26, slot := 19, constantValue := 0 }, { name := "SOFT_MAX_ARRAY_LENGTH", type := .int, accessFlags := 25, slot := 20, constantValue := 0 }]
  methods := #[k14m0]
  instanceTypes := #[]
  staticTypes := #[(.object "jdk/internal/misc/Unsafe"), .boolean, .int, .int, .int, .int, .int, .int, .int, .int, .int, .int, .int, .int, .int, .int, .int, .int, .int, (.object "jdk/internal/access/JavaLangAccess"), .int]
  resolved := Array.replicate 378 none
  statics := none }

def pool15 : Array CpInfo := pool [(1, u "java/lang/Cloneable"), (0, .class_ 1), (0, u "java/lang/Object"), (0, .class_ 3)] 3

/-- java/lang/Cloneable -/
def k15 : Class := { plain "java/lang/Cloneable" (some 0) with
  accessFlags := 1537
  interfaces := #[]
  cf := some (fileOf pool15 2 #[] #[] 1537 4 #[] #[])
  fields := #[]
  methods := #[]
  instanceTypes := #[]
  staticTypes := #[]
  resolved := Array.replicate 8 none
  statics := none }

/-- the primitive byte -/
def k16 : Class := { plain "byte" none with kind := .primitive 'B', accessFlags := 0x411 }
/-- [B -/
def k17 : Class := { plain "[B" (some 0) with kind := .array 16 .byte, interfaces := #[15, 4], accessFlags := 1041 }

/-- the primitive int -/
def k18 : Class := { plain "int" none with kind := .primitive 'I', accessFlags := 0x411 }
/-- [I -/
def k19 : Class := { plain "[I" (some 0) with kind := .array 18 .int, interfaces := #[15, 4], accessFlags := 1041 }

def heap : Heap := #[{ cls := 9, slots := #[.long 0, .int 1, .null, .int 0, .null, .int 0, .int 0], vm := .statics 9 },
  { cls := 12, slots := #[.null, .null, .null], vm := .statics 12 }]
def classes : Array Class := #[k0, k1, k2, k3, k4, k5, k6, k7, k8, k9, k10, k11, k12, k13, k14, k15, k16, k17, k18, k19]
def interned : List (Array UInt16 × Addr) := []
def slotsUsed : Nat := 10
def theMethod : MethodId := ⟨1, 1⟩
def args0 : Array Value := #[.long 5, .long 7]
def aboutOver (below : List Frame) : State where
  vm := { classes := classes, interned := interned.toArray }
  heap := heap
  slotsUsed := slotsUsed
  threads := #[{ frames := .invoking theMethod args0 :: below }]
def below0 : List Frame := [.native { method := ⟨0, 0⟩, args := #[] }]
def about1 : State := aboutOver below0
def p0 : Program := .bare "" "" ""
def e0 : Env := launch0.env 0 0 0
theorem w_frames : about1.frames = Frame.invoking theMethod args0 :: below0 := rfl
set_option maxRecDepth 65536 in
theorem w_args : argsFit about1.vm theMethod args0 = true := by decide +kernel
set_option maxRecDepth 65536 in
theorem w_heap : heapFits about1 = true := by decide +kernel
set_option maxRecDepth 65536 in
theorem w_runnable : about1.curStatus? = some .runnable := by decide +kernel
set_option maxRecDepth 65536 in
theorem w_alone : about1.alone = true := by decide +kernel
set_option maxRecDepth 65536 in
theorem w_named : about1.methodNamed? x = some theMethod := by decide +kernel
set_option maxRecDepth 65536 in
theorem w_hears : about1.hears theMethod below0 = true := by decide +kernel
set_option maxRecDepth 65536 in
theorem w_ripe : about1.ripe theMethod args0 below0 = true := by decide +kernel
theorem w_running : about1.status = .running := rfl
set_option maxRecDepth 65536 in
theorem w_room : about1.hasRoom e0.platform room_1 = true :=
  launch0.hasRoom_least _ room_1 (by decide +kernel) (by decide +kernel) (by decide +kernel) (by decide +kernel) (by decide +kernel) (by decide +kernel)
theorem allAtoms_all (ts : List Jvm.Cond) (a : Array Jvm.Value) (st : Jvm.State) : (allAtoms ts).before a st = ts.all (fun c => c.before a st) := by
  induction ts with
  | nil => rfl
  | cons c t ih =>
    show (Jvm.Cond.and c (allAtoms t)).before a st = _
    rw [Jvm.Cond.before_and, ih, List.all_cons]
def words1 : List Jvm.Cond := Jvm.Cond.code x code maxLocals ret :: tables_1
/-- a 'code' word, met by the world's own term for the bytes: nothing is compared byte by byte -/
theorem code_word {y : MethodName} {bytes : ByteArray} {mx : Nat} {rt : Option FieldType} {a : Array Value} {s : State} {m : MethodId} {meth : Method} {c : Code} (h1 : s.methodNamed? y = some m) (h2 : s.vm.method? m = some meth) (h3 : meth.code = some c) (h4 : c.code = bytes)
    (h5 : (c.maxLocals == mx && c.exceptionTable.isEmpty && decide (c.maxStack ≤ mostOperands) && decide (meth.sig.returnType = rt) && !meth.locks && decide (parseMethodDescriptor y.desc = some meth.sig)) = true) : (Jvm.Cond.code y bytes mx rt).before a s = true := by
  simp only [Bool.and_eq_true, beq_iff_eq, Bool.not_eq_true', decide_eq_true_eq] at h5
  obtain ⟨⟨⟨⟨⟨g1, g2⟩, g3⟩, g4⟩, g5⟩, g6⟩ := h5
  simp [Cond.before, Cond.holds, Cond.value, h1, h2, h3, h4, g1, g2, g3, g4, g5, g6]
def isCode : Jvm.Cond → Bool
  | .code _ _ _ _ => true
  | _ => false
theorem all_split {L : List Jvm.Cond} {P : Jvm.Cond → Bool} (h1 : L.all (fun c => isCode c || P c) = true) (h2 : ∀ c ∈ L.filter isCode, P c = true) : L.all P = true := by
  refine List.all_eq_true.mpr fun c hc => ?_
  have h := List.all_eq_true.mp h1 c hc
  rcases Bool.eq_false_or_eq_true (isCode c) with hi | hi
  · exact h2 c (List.mem_filter.mpr ⟨hc, hi⟩)
  · simpa [hi] using h
set_option maxRecDepth 65536 in
theorem w_c0 : (Jvm.Cond.code x code maxLocals ret).before args0 about1 = true := code_word (m := ⟨1, 1⟩) (meth := k1m1) (c := k1c1) (by decide +kernel) rfl rfl rfl (by decide +kernel)
set_option maxRecDepth 65536 in
theorem w_c1 : (Jvm.Cond.code ({ cls := "com/example/inrush/inrush/engine/Limit", name := "<init>", desc := "(Ljava/lang/String;Ljava/lang/String;J)V" } : Jvm.MethodName) prog_21_method_1_code (5 : Nat) (Option.none : Option Jvm.ClassFile.FieldType)).before args0 about1 = true := code_word (m := ⟨3, 0⟩) (meth := k3m0) (c := k3c0) (by decide +kernel) rfl rfl rfl (by decide +kernel)
set_option maxRecDepth 65536 in
theorem w_c2 : (Jvm.Cond.code ({ cls := "java/lang/Record", name := "<init>", desc := "()V" } : Jvm.MethodName) jdk_30_method_1_code (1 : Nat) (Option.none : Option Jvm.ClassFile.FieldType)).before args0 about1 = true := code_word (m := ⟨2, 0⟩) (meth := k2m0) (c := k2c0) (by decide +kernel) rfl rfl rfl (by decide +kernel)
set_option maxRecDepth 65536 in
theorem w_c3 : (Jvm.Cond.code ({ cls := "java/lang/Object", name := "<init>", desc := "()V" } : Jvm.MethodName) object_method_1_code (1 : Nat) (Option.none : Option Jvm.ClassFile.FieldType)).before args0 about1 = true := code_word (m := ⟨0, 0⟩) (meth := k0m0) (c := k0c0) (by decide +kernel) rfl rfl rfl (by decide +kernel)
set_option maxRecDepth 65536 in
theorem w_c4 : (Jvm.Cond.code ({ cls := "com/example/inrush/inrush/engine/Names", name := "checkCounter", desc := "(Ljava/lang/String;)Ljava/lang/String;" } : Jvm.MethodName) prog_24_method_3_code (1 : Nat) (Option.some (Jvm.ClassFile.FieldType.object "java/lang/String"))).before args0 about1 = true := code_word (m := ⟨10, 1⟩) (meth := k10m1) (c := k10c1) (by decide +kernel) rfl rfl rfl (by decide +kernel)
set_option maxRecDepth 65536 in
theorem w_c5 : (Jvm.Cond.code ({ cls := "com/example/inrush/inrush/engine/Names", name := "isName", desc := "(Ljava/lang/String;IZ)Z" } : Jvm.MethodName) prog_24_method_6_code (6 : Nat) (Option.some Jvm.ClassFile.FieldType.boolean)).before args0 about1 = true := code_word (m := ⟨10, 2⟩) (meth := k10m2) (c := k10c2) (by decide +kernel) rfl rfl rfl (by decide +kernel)
set_option maxRecDepth 65536 in
theorem w_c6 : (Jvm.Cond.code ({ cls := "java/lang/String", name := "length", desc := "()I" } : Jvm.MethodName) jdk_42_method_54_code (1 : Nat) (Option.some Jvm.ClassFile.FieldType.int)).before args0 about1 = true := code_word (m := ⟨9, 1⟩) (meth := k9m1) (c := k9c1) (by decide +kernel) rfl rfl rfl (by decide +kernel)
set_option maxRecDepth 65536 in
theorem w_c7 : (Jvm.Cond.code ({ cls := "java/lang/String", name := "coder", desc := "()B" } : Jvm.MethodName) jdk_42_method_152_code (1 : Nat) (Option.some Jvm.ClassFile.FieldType.byte)).before args0 about1 = true := code_word (m := ⟨9, 3⟩) (meth := k9m3) (c := k9c3) (by decide +kernel) rfl rfl rfl (by decide +kernel)
set_option maxRecDepth 65536 in
theorem w_c8 : (Jvm.Cond.code ({ cls := "java/lang/String", name := "charAt", desc := "(I)C" } : Jvm.MethodName) jdk_42_method_56_code (2 : Nat) (Option.some Jvm.ClassFile.FieldType.char)).before args0 about1 = true := code_word (m := ⟨9, 2⟩) (meth := k9m2) (c := k9c2) (by decide +kernel) rfl rfl rfl (by decide +kernel)
set_option maxRecDepth 65536 in
theorem w_c9 : (Jvm.Cond.code ({ cls := "java/lang/String", name := "isLatin1", desc := "()Z" } : Jvm.MethodName) jdk_42_method_154_code (1 : Nat) (Option.some Jvm.ClassFile.FieldType.boolean)).before args0 about1 = true := code_word (m := ⟨9, 4⟩) (meth := k9m4) (c := k9c4) (by decide +kernel) rfl rfl rfl (by decide +kernel)
set_option maxRecDepth 65536 in
theorem w_c10 : (Jvm.Cond.code ({ cls := "java/lang/StringLatin1", name := "charAt", desc := "([BI)C" } : Jvm.MethodName) jdk_43_method_2_code (2 : Nat) (Option.some Jvm.ClassFile.FieldType.char)).before args0 about1 = true := code_word (m := ⟨11, 1⟩) (meth := k11m1) (c := k11c1) (by decide +kernel) rfl rfl rfl (by decide +kernel)
set_option maxRecDepth 65536 in
theorem w_c11 : (Jvm.Cond.code ({ cls := "java/lang/String", name := "checkIndex", desc := "(II)V" } : Jvm.MethodName) jdk_42_method_155_code (2 : Nat) (Option.none : Option Jvm.ClassFile.FieldType)).before args0 about1 = true := code_word (m := ⟨9, 5⟩) (meth := k9m5) (c := k9c5) (by decide +kernel) rfl rfl rfl (by decide +kernel)
set_option maxRecDepth 65536 in
theorem w_c12 : (Jvm.Cond.code ({ cls := "jdk/internal/util/Preconditions", name := "checkIndex", desc := "(IILjava/util/function/BiFunction;)I" } : Jvm.MethodName) jdk_41_method_11_code (3 : Nat) (Option.some Jvm.ClassFile.FieldType.int)).before args0 about1 = true := code_word (m := ⟨12, 1⟩) (meth := k12m1) (c := k12c1) (by decide +kernel) rfl rfl rfl (by decide +kernel)
set_option maxRecDepth 65536 in
theorem w_c13 : (Jvm.Cond.code ({ cls := "com/example/inrush/inrush/engine/Names", name := "isLetter", desc := "(C)Z" } : Jvm.MethodName) prog_24_method_7_code (1 : Nat) (Option.some Jvm.ClassFile.FieldType.boolean)).before args0 about1 = true := code_word (m := ⟨10, 3⟩) (meth := k10m3) (c := k10c3) (by decide +kernel) rfl rfl rfl (by decide +kernel)
set_option maxRecDepth 65536 in
theorem w_c14 : (Jvm.Cond.code ({ cls := "com/example/inrush/inrush/engine/Limit$Verdict", name := "<init>", desc := "(Lcom/example/inrush/inrush/engine/Limit;J)V" } : Jvm.MethodName) prog_22_method_1_code (4 : Nat) (Option.none : Option Jvm.ClassFile.FieldType)).before args0 about1 = true := code_word (m := ⟨13, 0⟩) (meth := k13m0) (c := k13c0) (by decide +kernel) rfl rfl rfl (by decide +kernel)
set_option maxRecDepth 65536 in
theorem w_c15 : (Jvm.Cond.code ({ cls := "com/example/inrush/inrush/engine/Limit$Verdict", name := "over", desc := "()Z" } : Jvm.MethodName) prog_22_method_2_code (1 : Nat) (Option.some Jvm.ClassFile.FieldType.boolean)).before args0 about1 = true := code_word (m := ⟨13, 1⟩) (meth := k13m1) (c := k13c1) (by decide +kernel) rfl rfl rfl (by decide +kernel)
set_option maxRecDepth 65536 in
theorem w_c16 : (Jvm.Cond.code ({ cls := "com/example/inrush/inrush/engine/Limit", name := "max", desc := "()J" } : Jvm.MethodName) prog_21_method_7_code (1 : Nat) (Option.some Jvm.ClassFile.FieldType.long)).before args0 about1 = true := code_word (m := ⟨3, 1⟩) (meth := k3m1) (c := k3c1) (by decide +kernel) rfl rfl rfl (by decide +kernel)
def codes1 : List Jvm.Cond := [Jvm.Cond.code x code maxLocals ret, Jvm.Cond.code ({ cls := "com/example/inrush/inrush/engine/Limit", name := "<init>", desc := "(Ljava/lang/String;Ljava/lang/String;J)V" } : Jvm.MethodName) prog_21_method_1_code (5 : Nat) (Option.none : Option Jvm.ClassFile.FieldType), Jvm.Cond.code ({ cls := "java/lang/Record", name := "<init>", desc := "()V" } : Jvm.MethodName) jdk_30_method_1_code (1 : Nat) (Option.none : Option Jvm.ClassFile.FieldType), Jvm.Cond.code ({ cls := "java/lang/Object", name := "<init>", desc := "()V" } : Jvm.MethodName) object_method_1_code (1 : Nat) (Option.none : Option Jvm.ClassFile.FieldType), Jvm.Cond.code ({ cls := "com/example/inrush/inrush/engine/Names", name := "checkCounter", desc := "(Ljava/lang/String;)Ljava/lang/String;" } : Jvm.MethodName) prog_24_method_3_code (1 : Nat) (Option.some (Jvm.ClassFile.FieldType.object "java/lang/String")), Jvm.Cond.code ({ cls := "com/example/inrush/inrush/engine/Names", name := "isName", desc := "(Ljava/lang/String;IZ)Z" } : Jvm.MethodName) prog_24_method_6_code (6 : Nat) (Option.some Jvm.ClassFile.FieldType.boolean), Jvm.Cond.code ({ cls := "java/lang/String", name := "length", desc := "()I" } : Jvm.MethodName) jdk_42_method_54_code (1 : Nat) (Option.some Jvm.ClassFile.FieldType.int), Jvm.Cond.code ({ cls := "java/lang/String", name := "coder", desc := "()B" } : Jvm.MethodName) jdk_42_method_152_code (1 : Nat) (Option.some Jvm.ClassFile.FieldType.byte), Jvm.Cond.code ({ cls := "java/lang/String", name := "charAt", desc := "(I)C" } : Jvm.MethodName) jdk_42_method_56_code (2 : Nat) (Option.some Jvm.ClassFile.FieldType.char), Jvm.Cond.code ({ cls := "java/lang/String", name := "isLatin1", desc := "()Z" } : Jvm.MethodName) jdk_42_method_154_code (1 : Nat) (Option.some Jvm.ClassFile.FieldType.boolean), Jvm.Cond.code ({ cls := "java/lang/StringLatin1", name := "charAt", desc := "([BI)C" } : Jvm.MethodName) jdk_43_method_2_code (2 : Nat) (Option.some Jvm.ClassFile.FieldType.char), Jvm.Cond.code ({ cls := "java/lang/String", name := "checkIndex", desc := "(II)V" } : Jvm.MethodName) jdk_42_method_155_code (2 : Nat) (Option.none : Option Jvm.ClassFile.FieldType), Jvm.Cond.code ({ cls := "jdk/internal/util/Preconditions", name := "checkIndex", desc := "(IILjava/util/function/BiFunction;)I" } : Jvm.MethodName) jdk_41_method_11_code (3 : Nat) (Option.some Jvm.ClassFile.FieldType.int), Jvm.Cond.code ({ cls := "com/example/inrush/inrush/engine/Names", name := "isLetter", desc := "(C)Z" } : Jvm.MethodName) prog_24_method_7_code (1 : Nat) (Option.some Jvm.ClassFile.FieldType.boolean), Jvm.Cond.code ({ cls := "com/example/inrush/inrush/engine/Limit$Verdict", name := "<init>", desc := "(Lcom/example/inrush/inrush/engine/Limit;J)V" } : Jvm.MethodName) prog_22_method_1_code (4 : Nat) (Option.none : Option Jvm.ClassFile.FieldType), Jvm.Cond.code ({ cls := "com/example/inrush/inrush/engine/Limit$Verdict", name := "over", desc := "()Z" } : Jvm.MethodName) prog_22_method_2_code (1 : Nat) (Option.some Jvm.ClassFile.FieldType.boolean), Jvm.Cond.code ({ cls := "com/example/inrush/inrush/engine/Limit", name := "max", desc := "()J" } : Jvm.MethodName) prog_21_method_7_code (1 : Nat) (Option.some Jvm.ClassFile.FieldType.long)]
set_option maxRecDepth 65536 in
theorem codes_eq : words1.filter isCode = codes1 := rfl
theorem w_codes : ∀ c ∈ words1.filter isCode, c.before args0 about1 = true := by
  rw [codes_eq]
  intro c hc
  simp only [codes1, List.mem_cons, List.not_mem_nil, or_false] at hc
  rcases hc with rfl | rfl | rfl | rfl | rfl | rfl | rfl | rfl | rfl | rfl | rfl | rfl | rfl | rfl | rfl | rfl | rfl
  · exact w_c0
  · exact w_c1
  · exact w_c2
  · exact w_c3
  · exact w_c4
  · exact w_c5
  · exact w_c6
  · exact w_c7
  · exact w_c8
  · exact w_c9
  · exact w_c10
  · exact w_c11
  · exact w_c12
  · exact w_c13
  · exact w_c14
  · exact w_c15
  · exact w_c16
set_option maxRecDepth 65536 in
theorem w_t1 : (words1.take 24).all (fun c => isCode c || c.before args0 about1) = true := by decide +kernel
set_option maxRecDepth 65536 in
theorem w_t2 : ((words1.drop 24).take 24).all (fun c => isCode c || c.before args0 about1) = true := by decide +kernel
set_option maxRecDepth 65536 in
theorem w_t3 : (((words1.drop 24).drop 24).take 24).all (fun c => isCode c || c.before args0 about1) = true := by decide +kernel
set_option maxRecDepth 65536 in
theorem w_t4 : ((((words1.drop 24).drop 24).drop 24).take 24).all (fun c => isCode c || c.before args0 about1) = true := by decide +kernel
set_option maxRecDepth 65536 in
theorem w_t5 : ((((words1.drop 24).drop 24).drop 24).drop 24).all (fun c => isCode c || c.before args0 about1) = true := by decide +kernel
theorem w_tables : (allAtoms (Jvm.Cond.code x code maxLocals ret :: tables_1)).before args0 about1 = true := by
  rw [allAtoms_all]
  show words1.all (fun c => c.before args0 about1) = true
  refine all_split ?_ w_codes
  rw [← List.take_append_drop 24 words1, List.all_append, w_t1, ← List.take_append_drop 24 (words1.drop 24), List.all_append, w_t2, ← List.take_append_drop 24 ((words1.drop 24).drop 24), List.all_append, w_t3, ← List.take_append_drop 24 (((words1.drop 24).drop 24).drop 24), List.all_append, w_t4, w_t5]
  rfl
set_option maxRecDepth 65536 in
theorem w_rest : rest_1_c.before args0 about1 = true := by decide +kernel
set_option maxRecDepth 65536 in
theorem w_case : (Jvm.Cond.and given_1 narrow_1).before args0 about1 = true := by decide +kernel
set_option maxRecDepth 65536 in
theorem w_consts : constsHeld consts_1 about1 := Jvm.Lit.constsHeldB_iff.mp (by decide +kernel)
theorem w_applies : (headSpec (Jvm.Cond.code x code maxLocals ret :: tables_1) room_1).applies x e0.platform about1 = true :=
  (Spec.applies_iff w_frames).mpr ⟨w_running, w_runnable, w_alone, w_named, w_hears, w_ripe, w_room, w_tables⟩
theorem atStart : AtStart classFile x code maxLocals ret World_1 tables_1 room_1 Calls_1 rest_1 Pre_1 launch0 p0 e0 about1 theMethod args0 below0 :=
  ⟨lists_1, trivial, launch0.admits_env _ _ _, launch0.least_env, fairChoices_fair.cas, fairChoices_fair.clock, w_frames, w_args, w_heap, w_applies, ⟨w_consts, trivial⟩, w_rest, w_case⟩
end start1
theorem witness_1 : WitnessClaimed_1 := ⟨start1.p0, start1.e0, start1.about1, start1.theMethod, start1.args0, start1.below0, start1.atStart⟩
end Jvm.Pilot.@@N@@
