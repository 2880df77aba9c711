import JvmDerived
import JvmDerived.Pilot.@@N@@Statement
import JvmDerived.Pilot.@@N@@Code
set_option linter.unusedVariables false
set_option linter.unusedSimpArgs false
namespace Jvm.RoadKit
open Sem ClassFile Op Lib Jvm.Stand Jvm.Free Jvm.LawKit
section New
variable {p : Program} {l : Launch} {e : Env} {R : Room} {s : State} {m : MethodId} {args : Array Value} {below : List Frame} {meth : Method} {c : Code} {T : State} {locs : List Loc} {cells slots : Nat}
theorem retI (X : Stand p l e R s m args below meth c T locs cells slots) (hx : p.tables.exec = Jvm.exec) {pc : Nat} {Ls : Array Slot} {z : Int32} {rest : List Value} (hret : meth.sig.returnType = some .int) (hd : decode c.code pc = .ok (.ireturn, 1)) {fs : List Frame}
    (hl : ∀ (f : JFrame) (acts : List Action), f.method = m → f.locked = none → f.entered = [] → (doReturn e (T.setTop f) acts (some (.int z))).1 = T.setFrames fs) : Steps p.tables e below (T.setTop (mkF m pc Ls (.int z :: rest))) (T.setFrames fs) := by
  have hm' : T.vm.method? m = some meth := X.method'
  have hn : narrow .int (.int z) = .int z := rfl
  show Steps p.tables e below (T.setTop { method := m, pc := pc, locals := Ls, stack := _ :: rest, locked := none }) _
  jvm_step X.here [X.here.top, hx, hd, hm', hret, hn]
  first | (intro acts; rw [hl _ acts rfl rfl rfl]) | rw [hl _ _ rfl rfl rfl]
  exact Steps.refl _
end New
end Jvm.RoadKit
namespace Jvm.Pilot.@@N@@
open Jvm Jvm.ClassFile Sem Op Lib Jvm.Free Jvm.Stand Jvm.LawKit Jvm.RoadKit Bundle Jvm.Pilot.@@N@@.Jvm.D
/-! The walk in a goal-driven form: own_Fin says that the run from A comes to an end at which Q holds, within the frame. -/
def own_Fin (p : Program) (e : Env) (below : List Frame) (s : State) (Q : Option Value → Heap → List Loc → Prop) (kc ks : Nat) (A : State) : Prop :=
  ∃ s₂ o, Steps p.tables e below A s₂ ∧ s₂.status = .running ∧ Ended s₂ below o ∧ ∃ v L, o = .returned v ∧ Q v s₂.heap L ∧ FrameEnd s o s₂ L kc ks
theorem own_Fin.go {p : Program} {e : Env} {below : List Frame} {s : State} {Q : Option Value → Heap → List Loc → Prop} {kc ks : Nat} {A B : State} (st : ∀ t, Steps p.tables e below B t → Steps p.tables e below A t) (h : own_Fin p e below s Q kc ks B) : own_Fin p e below s Q kc ks A := by
  obtain ⟨s₂, o, h1, h2⟩ := h
  exact ⟨s₂, o, st _ h1, h2⟩
section OwnRet
variable {p : Program} {l : Launch} {e : Env} {R : Room} {s : State} {m : MethodId} {args : Array Value} {below : List Frame} {meth : Method} {c : Code} {T : State} {locs : List Loc} {cells slots : Nat} {Q : Option Value → Heap → List Loc → Prop} {kc ks : Nat}
theorem own_end (X : Stand p l e R s m args below meth c T locs cells slots) {v : Option Value} (hv : meth.sig.returnType = none → v = none) (hlocks : meth.locks = false) (hc : cells ≤ kc) (hs : slots ≤ ks) {A : State}
    (h : ∀ fs : List Frame, (∀ (f : JFrame) (acts : List Action), f.method = m → f.locked = none → f.entered = [] → (doReturn e (T.setTop f) acts v).1 = T.setFrames fs) → Steps p.tables e below A (T.setFrames fs)) (hQ : Q v T.heap locs) : own_Fin p e below s Q kc ks A := by
  obtain ⟨fs, hr, hrun, hended, hW, hsame⟩ := X.leave (v := v) hv hlocks
  exact ⟨_, _, h fs hr, hrun, hended, _, _, rfl, hQ, ⟨_, rfl⟩, hW, hsame.mono hc hs⟩
theorem own_retN (X : Stand p l e R s m args below meth c T locs cells slots) (hx : p.tables.exec = Jvm.exec) {pc : Nat} {Ls : Array Slot} {z w : Int32} {t : FieldType} {rest : List Value} (hret : meth.sig.returnType = some t) (ht : t = .boolean ∨ t = .byte ∨ t = .char ∨ t = .short)
    (hd : decode c.code pc = .ok (.ireturn, 1)) (hlocks : meth.locks = false) (hw : nar t z = w) (hc : cells ≤ kc) (hs : slots ≤ ks) (hQ : Q (some (.int w)) T.heap locs) : own_Fin p e below s Q kc ks (T.setTop (mkF m pc Ls (.int z :: rest))) :=
  own_end X (v := some (.int w)) (fun h => by rw [hret] at h; cases h) hlocks hc hs (fun fs hr => retN X hx hret ht hd (by rw [hw]; exact hr)) hQ
theorem own_retI (X : Stand p l e R s m args below meth c T locs cells slots) (hx : p.tables.exec = Jvm.exec) {pc : Nat} {Ls : Array Slot} {z : Int32} {rest : List Value} (hret : meth.sig.returnType = some .int)
    (hd : decode c.code pc = .ok (.ireturn, 1)) (hlocks : meth.locks = false) (hc : cells ≤ kc) (hs : slots ≤ ks) (hQ : Q (some (.int z)) T.heap locs) : own_Fin p e below s Q kc ks (T.setTop (mkF m pc Ls (.int z :: rest))) :=
  own_end X (v := some (.int z)) (fun h => by rw [hret] at h; cases h) hlocks hc hs (fun fs hr => retI X hx hret hd hr) hQ
theorem own_retJ (X : Stand p l e R s m args below meth c T locs cells slots) (hx : p.tables.exec = Jvm.exec) {pc : Nat} {Ls : Array Slot} {z : Int64} (hret : meth.sig.returnType = some .long)
    (hd : decode c.code pc = .ok (.lreturn, 1)) (hlocks : meth.locks = false) (hc : cells ≤ kc) (hs : slots ≤ ks) (hQ : Q (some (.long z)) T.heap locs) : own_Fin p e below s Q kc ks (T.setTop (mkF m pc Ls [.long z])) :=
  own_end X (v := some (.long z)) (fun h => by rw [hret] at h; cases h) hlocks hc hs (fun fs hr => X.lreturnOut hx hret hd hr) hQ
theorem own_retA (X : Stand p l e R s m args below meth c T locs cells slots) (hx : p.tables.exec = Jvm.exec) {pc : Nat} {Ls : Array Slot} {a : Addr} {t : FieldType} {rest : List Value} (hret : meth.sig.returnType = some t) (ht : t.isReference = true)
    (hd : decode c.code pc = .ok (.areturn, 1)) (hlocks : meth.locks = false) (hc : cells ≤ kc) (hs : slots ≤ ks) (hQ : Q (some (.ref a)) T.heap locs) : own_Fin p e below s Q kc ks (T.setTop (mkF m pc Ls (.ref a :: rest))) :=
  own_end X (v := some (.ref a)) (fun h => by rw [hret] at h; cases h) hlocks hc hs (fun fs hr => retOut X hx hret (by cases t <;> first | rfl | (simp [FieldType.isReference] at ht)) (Or.inr (Or.inr (Or.inr (Or.inr ⟨rfl, ht, rfl⟩)))) hd hr) hQ
theorem own_ret0 (X : Stand p l e R s m args below meth c T locs cells slots) (hx : p.tables.exec = Jvm.exec) {pc : Nat} {Ls : Array Slot} (hret : meth.sig.returnType = none)
    (hd : decode c.code pc = .ok (.return_, 1)) (hlocks : meth.locks = false) (hc : cells ≤ kc) (hs : slots ≤ ks) (hQ : Q none T.heap locs) : own_Fin p e below s Q kc ks (T.setTop (mkF m pc Ls [])) :=
  own_end X (v := none) (fun _ => rfl) hlocks hc hs (fun fs hr => X.returnOut hx hret hd hr) hQ
end OwnRet
theorem own_selp {s : State} {args args' : Array Value} {C : String} {y w : MethodName} (hw : (Jvm.Cond.selects C w w).before args s = true) (hcls : w.cls = y.cls) (hpriv : s.PrivateAt y) (hinst : (Jvm.Cond.instanceMethod y).before args s = true) (hy : y.cls ≠ "java/lang/invoke/MethodHandle" ∧ y.cls ≠ "java/lang/invoke/VarHandle") : (Jvm.Cond.selects y.cls y y).before args' s = true := by
  obtain ⟨c2, r2, m2, -, -, q3, -, kP, hkP, hkPi⟩ := Cond.selects_spec hw
  exact selects_self_of_private (by rw [← hcls]; exact findClass_of_methodNamed q3) hkP hkPi hpriv hinst hy
theorem own_drec_0 : decode jdk_30_method_1_code 0 = .ok (.aload_n 0, 1) := by decide +kernel
theorem own_drec_1 : decode jdk_30_method_1_code 1 = .ok (.invokespecial 1, 3) := by decide +kernel
theorem own_drec_4 : decode jdk_30_method_1_code 4 = .ok (.return_, 1) := by decide +kernel
theorem own_pn0 : plainName "java/lang/Record" = true := by first | (simp [plainName, overriddenIn]; done) | decide +kernel
theorem own_ef_rec (m : MethodId) (oa : Addr) : entryFrame m #[(.ref oa)] 1 = mkF m 0 #[.val (.ref oa)] [] := by first | (simp [entryFrame, mkF, argsToLocals, Value.category]; done) | rfl
def own_Q_rec (Z : State) (oa : Addr) (h0 : Heap) (n0 : Nat) (v : Option Value) (h : Heap) (L : List Loc) : Prop := v = none ∧ Fr n0 L ∧ h = h0
set_option maxRecDepth 65536 in
set_option maxHeartbeats 40000000 in
theorem own_rm_rec (l : Launch) (Z : State) (a0 : Array Value) (hw : ∀ d ∈ tables_1, d.before a0 Z = true) (ws : List Jvm.Cond) (oa : Addr) (h0 : Heap) (n0 : Nat) (Z0 : n0 ≤ h0.size) :
    MetFree l (⟨"java/lang/Record", "<init>", "()V"⟩ : MethodName) (head1 (Jvm.Cond.code (⟨"java/lang/Record", "<init>", "()V"⟩ : MethodName) jdk_30_method_1_code 1 none :: ws) ({ frames := 1, cells := 0, slots := 0, locals := 12 } : Room)) (fun a U => a = #[(.ref oa)] ∧ Z.Warmed39 U.vm ∧ U.heap = h0) (fun _ _ _ _ _ => True) (fun _ U o U' => ∃ v L, o = .returned v ∧ own_Q_rec Z oa h0 n0 v U'.heap L ∧ FrameEnd U o U' L ({ frames := 1, cells := 0, slots := 0, locals := 12 } : Room).cells ({ frames := 1, cells := 0, slots := 0, locals := 12 } : Room).slots) := by
  refine MetFree.of_bodySF (plainFor_of_name own_pn0) hisR ?_
  intro p e s m args below meth c s₁ Bd hml0 hP hK
  obtain ⟨rfl, hZ, hh⟩ := hP
  have hx := Bd.exec
  have hby := Bd.bytes
  have hml : c.maxLocals = 1 := hml0
  have hown : s.vm.findClass "java/lang/Record" = some m.cls := findClass_of_methodNamed Bd.named
  have hnm := (name_of_methodNamed Bd.named Bd.method).1
  have X0 : Stand p l e ({ frames := 1, cells := 0, slots := 0, locals := 12 } : Room) s m #[(.ref oa)] below meth c s₁ [] 0 0 := Stand.of_body Bd
  have e0 : s₁.heap = h0 := by rw [← hh, Bd.state]; rfl
  have N0 := Fr.nil n0
  show own_Fin p e below s (own_Q_rec Z oa h0 n0) ({ frames := 1, cells := 0, slots := 0, locals := 12 } : Room).cells ({ frames := 1, cells := 0, slots := 0, locals := 12 } : Room).slots (s₁.setTop (entryFrame m #[(.ref oa)] 1))
  refine own_Fin.go (fun t k => castTop (own_ef_rec m oa) k) ?_
  refine own_Fin.go (fun t k => XS.aloadN X0.here hx rfl (hb hby own_drec_0) rfl rfl k) ?_
  show own_Fin _ _ _ _ _ _ _ (s₁.setTop (mkF m 1 #[.val (.ref oa)] [(.ref oa)]))
  obtain ⟨T1, X1, e1, st1⟩ := initO X0 hx hZ hown (hw _ (List.mem_of_getElem? (i := 13) rfl)) (hw _ (List.mem_of_getElem? (i := 14) rfl)) (hw _ (List.mem_of_getElem? (i := 15) rfl)) e0 (g := (mkF m 1 #[.val (.ref oa)] [(.ref oa)])) rfl (by rw [hml]; rfl) rfl (hb hby own_drec_1) (by decide) (W := 0) (by show 2 * 0 + _ ≤ _; exact Nat.le_of_eq rfl) (by decide)
  refine own_Fin.go st1 ?_
  show own_Fin _ _ _ _ _ _ _ (T1.setTop (mkF m 4 #[.val (.ref oa)] []))
  refine own_ret0 X1 hx Bd.returns (hb hby own_drec_4) Bd.notSynchronized (by decide) (by decide) ?_
  rw [e1]
  exact ⟨rfl, N0, rfl⟩
theorem own_pd0 : parseMethodDescriptor "()V" = some ⟨[], none⟩ := by decide +kernel
theorem own_dini_0 : decode prog_6_method_1_code 0 = .ok (.aload_n 0, 1) := by decide +kernel
theorem own_dini_1 : decode prog_6_method_1_code 1 = .ok (.invokespecial 1, 3) := by decide +kernel
theorem own_dini_4 : decode prog_6_method_1_code 4 = .ok (.aload_n 0, 1) := by decide +kernel
theorem own_dini_5 : decode prog_6_method_1_code 5 = .ok (.iload_n 1, 1) := by decide +kernel
theorem own_dini_6 : decode prog_6_method_1_code 6 = .ok (.putfield 7, 3) := by decide +kernel
theorem own_dini_9 : decode prog_6_method_1_code 9 = .ok (.aload_n 0, 1) := by decide +kernel
theorem own_dini_10 : decode prog_6_method_1_code 10 = .ok (.iload_n 2, 1) := by decide +kernel
theorem own_dini_11 : decode prog_6_method_1_code 11 = .ok (.putfield 13, 3) := by decide +kernel
theorem own_dini_14 : decode prog_6_method_1_code 14 = .ok (.aload_n 0, 1) := by decide +kernel
theorem own_dini_15 : decode prog_6_method_1_code 15 = .ok (.iload_n 3, 1) := by decide +kernel
theorem own_dini_16 : decode prog_6_method_1_code 16 = .ok (.putfield 16, 3) := by decide +kernel
theorem own_dini_19 : decode prog_6_method_1_code 19 = .ok (.return_, 1) := by decide +kernel
theorem own_pn1 : plainName "com/example/crisp_calls/crispcalls/function/Indexes$Stride" = true := by first | (simp [plainName, overriddenIn]; done) | decide +kernel
theorem own_ef_ini (m : MethodId) (oa : Addr) (va : Int32) (vb : Int32) (vc : Int32) : entryFrame m #[(.ref oa), (.int va), (.int vb), (.int vc)] 4 = mkF m 0 #[.val (.ref oa), .val (.int va), .val (.int vb), .val (.int vc)] [] := by first | (simp [entryFrame, mkF, argsToLocals, Value.category]; done) | rfl
def own_Q_ini (Z : State) (oa : Addr) (va : Int32) (vb : Int32) (vc : Int32) (h0 : Heap) (n0 : Nat) (v : Option Value) (h : Heap) (L : List Loc) : Prop := v = none ∧ Fr n0 L ∧ Keep h0 h [oa] ∧ Exa Z h oa "com/example/crisp_calls/crispcalls/function/Indexes$Stride" ∧ Fld Z h oa "com/example/crisp_calls/crispcalls/function/Indexes$Stride" "start" "I" (.int va) ∧ Fld Z h oa "com/example/crisp_calls/crispcalls/function/Indexes$Stride" "step" "I" (.int vb)
set_option maxRecDepth 65536 in
set_option maxHeartbeats 40000000 in
theorem own_rm_ini (l : Launch) (Z : State) (a0 : Array Value) (hw : ∀ d ∈ tables_1, d.before a0 Z = true) (ws : List Jvm.Cond) (oa : Addr) (va : Int32) (vb : Int32) (vc : Int32) (h0 : Heap) (n0 : Nat) (Z0 : n0 ≤ h0.size) (E_oa : Exa Z h0 oa "com/example/crisp_calls/crispcalls/function/Indexes$Stride") (F_oa_start : Fld Z h0 oa "com/example/crisp_calls/crispcalls/function/Indexes$Stride" "start" "I" (.int (0 : Int32))) (F_oa_step : Fld Z h0 oa "com/example/crisp_calls/crispcalls/function/Indexes$Stride" "step" "I" (.int (0 : Int32))) (F_oa_count : Fld Z h0 oa "com/example/crisp_calls/crispcalls/function/Indexes$Stride" "count" "I" (.int (0 : Int32))) (g_oa : n0 ≤ oa) :
    MetFree l (⟨"com/example/crisp_calls/crispcalls/function/Indexes$Stride", "<init>", "(III)V"⟩ : MethodName) (head1 (Jvm.Cond.code (⟨"com/example/crisp_calls/crispcalls/function/Indexes$Stride", "<init>", "(III)V"⟩ : MethodName) prog_6_method_1_code 4 none :: ws) ({ frames := 2, cells := 0, slots := 0, locals := 24 } : Room)) (fun a U => a = #[(.ref oa), (.int va), (.int vb), (.int vc)] ∧ Z.Warmed39 U.vm ∧ U.heap = h0) (fun _ _ _ _ _ => True) (fun _ U o U' => ∃ v L, o = .returned v ∧ own_Q_ini Z oa va vb vc h0 n0 v U'.heap L ∧ FrameEnd U o U' L ({ frames := 2, cells := 0, slots := 0, locals := 24 } : Room).cells ({ frames := 2, cells := 0, slots := 0, locals := 24 } : Room).slots) := by
  refine MetFree.of_bodySF (plainFor_of_name own_pn1) hisR ?_
  intro p e s m args below meth c s₁ Bd hml0 hP hK
  obtain ⟨rfl, hZ, hh⟩ := hP
  have hx := Bd.exec
  have hby := Bd.bytes
  have hml : c.maxLocals = 4 := hml0
  have hown : s.vm.findClass "com/example/crisp_calls/crispcalls/function/Indexes$Stride" = some m.cls := findClass_of_methodNamed Bd.named
  have hnm := (name_of_methodNamed Bd.named Bd.method).1
  have X0 : Stand p l e ({ frames := 2, cells := 0, slots := 0, locals := 24 } : Room) s m #[(.ref oa), (.int va), (.int vb), (.int vc)] below meth c s₁ [] 0 0 := Stand.of_body Bd
  have e0 : s₁.heap = h0 := by rw [← hh, Bd.state]; rfl
  have N0 := Fr.nil n0
  have K0 := Keep.refl h0 [oa]
  show own_Fin p e below s (own_Q_ini Z oa va vb vc h0 n0) ({ frames := 2, cells := 0, slots := 0, locals := 24 } : Room).cells ({ frames := 2, cells := 0, slots := 0, locals := 24 } : Room).slots (s₁.setTop (entryFrame m #[(.ref oa), (.int va), (.int vb), (.int vc)] 4))
  refine own_Fin.go (fun t k => castTop (own_ef_ini m oa va vb vc) k) ?_
  refine own_Fin.go (fun t k => XS.aloadN X0.here hx rfl (hb hby own_dini_0) rfl rfl k) ?_
  show own_Fin _ _ _ _ _ _ _ (s₁.setTop (mkF m 1 #[.val (.ref oa), .val (.int va), .val (.int vb), .val (.int vc)] [(.ref oa)]))
  obtain ⟨_, _, ⟨T1, L1, k1, n1⟩, -, X1, ⟨Lc1, hQ1, l1, y1, z1⟩, st1⟩ := X0.specialBack hx (y := (⟨"java/lang/Record", "<init>", "()V"⟩ : MethodName)) rfl hown (mvT hZ (hw _ (List.mem_of_getElem? (i := 8) rfl))) (mvT hZ (hw _ (List.mem_of_getElem? (i := 9) rfl))) (mvT hZ (hw _ (List.mem_of_getElem? (i := 12) rfl))) (by decide) (backOf (W := 0) (own_rm_rec l Z a0 hw [] oa  h0 n0 Z0 ) hZ (hw _ (List.mem_of_getElem? (i := 12) rfl)) (hw _ (List.mem_of_getElem? (i := 11) rfl)) (by decide) (by decide)) (g := (mkF m 1 #[.val (.ref oa), .val (.int va), .val (.int vb), .val (.int vc)] [(.ref oa)])) rfl (by rw [hml]; rfl) (Steps.refl _) (a := oa) (argsL := []) (rest := []) (lenOf own_pd0 rfl) rfl (by show 2 * 0 + _ ≤ _; exact Nat.le_of_eq rfl) (hb hby own_dini_1) (fun _ _ => ⟨rfl, e0, (by decide : 0 + 0 ≤ _), (by decide : 0 + 0 ≤ _)⟩)
  dsimp only [Pt.U, Pt.locs, Pt.cells, Pt.slots] at X1 l1 y1 z1 st1 hQ1
  subst l1 y1 z1
  obtain ⟨rfl, N1q, e1⟩ := hQ1
  refine own_Fin.go (fun t k => st1.trans k) ?_
  have N1 := Fr.app N0 N1q
  show own_Fin _ _ _ _ _ _ _ (T1.setTop (mkF m 4 #[.val (.ref oa), .val (.int va), .val (.int vb), .val (.int vc)] []))
  refine own_Fin.go (fun t k => XS.aloadN X1.here hx rfl (hb hby own_dini_4) rfl rfl k) ?_
  show own_Fin _ _ _ _ _ _ _ (T1.setTop (mkF m 5 #[.val (.ref oa), .val (.int va), .val (.int vb), .val (.int vc)] [(.ref oa)]))
  refine own_Fin.go (fun t k => XS.iloadN X1.here hx rfl (hb hby own_dini_5) rfl k) ?_
  show own_Fin _ _ _ _ _ _ _ (T1.setTop (mkF m 6 #[.val (.ref oa), .val (.int va), .val (.int vb), .val (.int vc)] [(.int va), (.ref oa)]))
  obtain ⟨T2, h2, X2, e2, W2, st2⟩ := putF X1 hx hZ hown (host := "") (Or.inl (hw _ (List.mem_of_getElem? (i := 16) rfl))) Via.refl e1 F_oa_start E_oa (Or.inr ⟨(hw _ (List.mem_of_getElem? (i := 17) rfl)), rfl, hnm⟩) (hw _ (List.mem_of_getElem? (i := 3) rfl)) (ty := .int) (by decide) rfl rfl (g := (mkF m 6 #[.val (.ref oa), .val (.int va), .val (.int vb), .val (.int vc)] [(.int va), (.ref oa)])) rfl rfl (hb hby own_dini_6)
  refine own_Fin.go st2 ?_
  have F_oa_start_2 := Fld.same W2 F_oa_start
  have E_oa_2 := Exa.wr W2 E_oa
  have F_oa_step_2 := Fld.other W2 F_oa_step (Or.inr (slot_ne (Or.inr (hw _ (List.mem_of_getElem? (i := 19) rfl))) (Or.inr (hw _ (List.mem_of_getElem? (i := 17) rfl))) (by decide) (t := .int) (t' := .int) (by decide) (by decide)))
  have F_oa_count_2 := Fld.other W2 F_oa_count (Or.inr (slot_ne (Or.inr (hw _ (List.mem_of_getElem? (i := 21) rfl))) (Or.inr (hw _ (List.mem_of_getElem? (i := 17) rfl))) (by decide) (t := .int) (t' := .int) (by decide) (by decide)))
  have Z2 := Nat.le_trans Z0 (Keep.of_wr W2).1
  have K2 := K0.wr W2 (Or.inl (List.mem_of_getElem? (i := 0) rfl))
  have N2 := Fr.snoc X2 N1 g_oa
  show own_Fin _ _ _ _ _ _ _ (T2.setTop (mkF m 9 #[.val (.ref oa), .val (.int va), .val (.int vb), .val (.int vc)] []))
  refine own_Fin.go (fun t k => XS.aloadN X2.here hx rfl (hb hby own_dini_9) rfl rfl k) ?_
  show own_Fin _ _ _ _ _ _ _ (T2.setTop (mkF m 10 #[.val (.ref oa), .val (.int va), .val (.int vb), .val (.int vc)] [(.ref oa)]))
  refine own_Fin.go (fun t k => XS.iloadN X2.here hx rfl (hb hby own_dini_10) rfl k) ?_
  show own_Fin _ _ _ _ _ _ _ (T2.setTop (mkF m 11 #[.val (.ref oa), .val (.int va), .val (.int vb), .val (.int vc)] [(.int vb), (.ref oa)]))
  obtain ⟨T3, h3, X3, e3, W3, st3⟩ := putF X2 hx hZ hown (host := "") (Or.inl (hw _ (List.mem_of_getElem? (i := 18) rfl))) Via.refl e2 F_oa_step_2 E_oa_2 (Or.inr ⟨(hw _ (List.mem_of_getElem? (i := 19) rfl)), rfl, hnm⟩) (hw _ (List.mem_of_getElem? (i := 3) rfl)) (ty := .int) (by decide) rfl rfl (g := (mkF m 11 #[.val (.ref oa), .val (.int va), .val (.int vb), .val (.int vc)] [(.int vb), (.ref oa)])) rfl rfl (hb hby own_dini_11)
  refine own_Fin.go st3 ?_
  have F_oa_step_3 := Fld.same W3 F_oa_step_2
  have E_oa_3 := Exa.wr W3 E_oa_2
  have F_oa_start_3 := Fld.other W3 F_oa_start_2 (Or.inr (slot_ne (Or.inr (hw _ (List.mem_of_getElem? (i := 17) rfl))) (Or.inr (hw _ (List.mem_of_getElem? (i := 19) rfl))) (by decide) (t := .int) (t' := .int) (by decide) (by decide)))
  have F_oa_count_3 := Fld.other W3 F_oa_count_2 (Or.inr (slot_ne (Or.inr (hw _ (List.mem_of_getElem? (i := 21) rfl))) (Or.inr (hw _ (List.mem_of_getElem? (i := 19) rfl))) (by decide) (t := .int) (t' := .int) (by decide) (by decide)))
  have Z3 := Nat.le_trans Z2 (Keep.of_wr W3).1
  have K3 := K2.wr W3 (Or.inl (List.mem_of_getElem? (i := 0) rfl))
  have N3 := Fr.snoc X3 N2 g_oa
  show own_Fin _ _ _ _ _ _ _ (T3.setTop (mkF m 14 #[.val (.ref oa), .val (.int va), .val (.int vb), .val (.int vc)] []))
  refine own_Fin.go (fun t k => XS.aloadN X3.here hx rfl (hb hby own_dini_14) rfl rfl k) ?_
  show own_Fin _ _ _ _ _ _ _ (T3.setTop (mkF m 15 #[.val (.ref oa), .val (.int va), .val (.int vb), .val (.int vc)] [(.ref oa)]))
  refine own_Fin.go (fun t k => XS.iloadN X3.here hx rfl (hb hby own_dini_15) rfl k) ?_
  show own_Fin _ _ _ _ _ _ _ (T3.setTop (mkF m 16 #[.val (.ref oa), .val (.int va), .val (.int vb), .val (.int vc)] [(.int vc), (.ref oa)]))
  obtain ⟨T4, h4, X4, e4, W4, st4⟩ := putF X3 hx hZ hown (host := "") (Or.inl (hw _ (List.mem_of_getElem? (i := 20) rfl))) Via.refl e3 F_oa_count_3 E_oa_3 (Or.inr ⟨(hw _ (List.mem_of_getElem? (i := 21) rfl)), rfl, hnm⟩) (hw _ (List.mem_of_getElem? (i := 3) rfl)) (ty := .int) (by decide) rfl rfl (g := (mkF m 16 #[.val (.ref oa), .val (.int va), .val (.int vb), .val (.int vc)] [(.int vc), (.ref oa)])) rfl rfl (hb hby own_dini_16)
  refine own_Fin.go st4 ?_
  have F_oa_count_4 := Fld.same W4 F_oa_count_3
  have E_oa_4 := Exa.wr W4 E_oa_3
  have F_oa_start_4 := Fld.other W4 F_oa_start_3 (Or.inr (slot_ne (Or.inr (hw _ (List.mem_of_getElem? (i := 17) rfl))) (Or.inr (hw _ (List.mem_of_getElem? (i := 21) rfl))) (by decide) (t := .int) (t' := .int) (by decide) (by decide)))
  have F_oa_step_4 := Fld.other W4 F_oa_step_3 (Or.inr (slot_ne (Or.inr (hw _ (List.mem_of_getElem? (i := 19) rfl))) (Or.inr (hw _ (List.mem_of_getElem? (i := 21) rfl))) (by decide) (t := .int) (t' := .int) (by decide) (by decide)))
  have Z4 := Nat.le_trans Z3 (Keep.of_wr W4).1
  have K4 := K3.wr W4 (Or.inl (List.mem_of_getElem? (i := 0) rfl))
  have N4 := Fr.snoc X4 N3 g_oa
  show own_Fin _ _ _ _ _ _ _ (T4.setTop (mkF m 19 #[.val (.ref oa), .val (.int va), .val (.int vb), .val (.int vc)] []))
  refine own_ret0 X4 hx Bd.returns (hb hby own_dini_19) Bd.notSynchronized (by decide) (by decide) ?_
  rw [e4]
  exact ⟨rfl, N4, K4, E_oa_4, F_oa_start_4, F_oa_step_4⟩
theorem own_didx_0 : decode prog_6_method_2_code 0 = .ok (.aload_n 0, 1) := by decide +kernel
theorem own_didx_1 : decode prog_6_method_2_code 1 = .ok (.getfield 7, 3) := by decide +kernel
theorem own_didx_4 : decode prog_6_method_2_code 4 = .ok (.iload_n 1, 1) := by decide +kernel
theorem own_didx_5 : decode prog_6_method_2_code 5 = .ok (.aload_n 0, 1) := by decide +kernel
theorem own_didx_6 : decode prog_6_method_2_code 6 = .ok (.getfield 13, 3) := by decide +kernel
theorem own_didx_9 : decode prog_6_method_2_code 9 = .ok (.imul, 1) := by decide +kernel
theorem own_didx_10 : decode prog_6_method_2_code 10 = .ok (.iadd, 1) := by decide +kernel
theorem own_didx_11 : decode prog_6_method_2_code 11 = .ok (.ireturn, 1) := by decide +kernel
theorem own_ef_idx (m : MethodId) (oa : Addr) (va : Int32) : entryFrame m #[(.ref oa), (.int va)] 2 = mkF m 0 #[.val (.ref oa), .val (.int va)] [] := by first | (simp [entryFrame, mkF, argsToLocals, Value.category]; done) | rfl
def own_Q_idx (Z : State) (oa : Addr) (va : Int32) (ua : Int32) (ub : Int32) (h0 : Heap) (n0 : Nat) (v : Option Value) (h : Heap) (L : List Loc) : Prop := v = some (.int (ua + (va * ub))) ∧ Fr n0 L ∧ h = h0
set_option maxRecDepth 65536 in
set_option maxHeartbeats 40000000 in
theorem own_rm_idx (l : Launch) (Z : State) (a0 : Array Value) (hw : ∀ d ∈ tables_1, d.before a0 Z = true) (ws : List Jvm.Cond) (oa : Addr) (va : Int32) (ua : Int32) (ub : Int32) (h0 : Heap) (n0 : Nat) (Z0 : n0 ≤ h0.size) (F_oa_start : Fld Z h0 oa "com/example/crisp_calls/crispcalls/function/Indexes$Stride" "start" "I" (.int ua)) (F_oa_step : Fld Z h0 oa "com/example/crisp_calls/crispcalls/function/Indexes$Stride" "step" "I" (.int ub)) :
    MetFree l (⟨"com/example/crisp_calls/crispcalls/function/Indexes$Stride", "index", "(I)I"⟩ : MethodName) (head1 (Jvm.Cond.code (⟨"com/example/crisp_calls/crispcalls/function/Indexes$Stride", "index", "(I)I"⟩ : MethodName) prog_6_method_2_code 2 (some .int) :: ws) ({ frames := 0, cells := 0, slots := 0, locals := 0 } : Room)) (fun a U => a = #[(.ref oa), (.int va)] ∧ Z.Warmed39 U.vm ∧ U.heap = h0) (fun _ _ _ _ _ => True) (fun _ U o U' => ∃ v L, o = .returned v ∧ own_Q_idx Z oa va ua ub h0 n0 v U'.heap L ∧ FrameEnd U o U' L ({ frames := 0, cells := 0, slots := 0, locals := 0 } : Room).cells ({ frames := 0, cells := 0, slots := 0, locals := 0 } : Room).slots) := by
  refine MetFree.of_bodySF (plainFor_of_name own_pn1) hisR ?_
  intro p e s m args below meth c s₁ Bd hml0 hP hK
  obtain ⟨rfl, hZ, hh⟩ := hP
  have hx := Bd.exec
  have hby := Bd.bytes
  have hml : c.maxLocals = 2 := hml0
  have hown : s.vm.findClass "com/example/crisp_calls/crispcalls/function/Indexes$Stride" = some m.cls := findClass_of_methodNamed Bd.named
  have hnm := (name_of_methodNamed Bd.named Bd.method).1
  have X0 : Stand p l e ({ frames := 0, cells := 0, slots := 0, locals := 0 } : Room) s m #[(.ref oa), (.int va)] below meth c s₁ [] 0 0 := Stand.of_body Bd
  have e0 : s₁.heap = h0 := by rw [← hh, Bd.state]; rfl
  have N0 := Fr.nil n0
  show own_Fin p e below s (own_Q_idx Z oa va ua ub h0 n0) ({ frames := 0, cells := 0, slots := 0, locals := 0 } : Room).cells ({ frames := 0, cells := 0, slots := 0, locals := 0 } : Room).slots (s₁.setTop (entryFrame m #[(.ref oa), (.int va)] 2))
  refine own_Fin.go (fun t k => castTop (own_ef_idx m oa va) k) ?_
  refine own_Fin.go (fun t k => XS.aloadN X0.here hx rfl (hb hby own_didx_0) rfl rfl k) ?_
  show own_Fin _ _ _ _ _ _ _ (s₁.setTop (mkF m 1 #[.val (.ref oa), .val (.int va)] [(.ref oa)]))
  obtain ⟨T1, X1, e1, st1⟩ := getF X0 hx hZ hown (host := "") (Or.inl (hw _ (List.mem_of_getElem? (i := 16) rfl))) Via.refl e0 F_oa_start (g := (mkF m 1 #[.val (.ref oa), .val (.int va)] [(.ref oa)])) rfl rfl (hb hby own_didx_1)
  refine own_Fin.go st1 ?_
  show own_Fin _ _ _ _ _ _ _ (T1.setTop (mkF m 4 #[.val (.ref oa), .val (.int va)] [(.int ua)]))
  refine own_Fin.go (fun t k => XS.iloadN X1.here hx rfl (hb hby own_didx_4) rfl k) ?_
  show own_Fin _ _ _ _ _ _ _ (T1.setTop (mkF m 5 #[.val (.ref oa), .val (.int va)] [(.int va), (.int ua)]))
  refine own_Fin.go (fun t k => XS.aloadN X1.here hx rfl (hb hby own_didx_5) rfl rfl k) ?_
  show own_Fin _ _ _ _ _ _ _ (T1.setTop (mkF m 6 #[.val (.ref oa), .val (.int va)] [(.ref oa), (.int va), (.int ua)]))
  obtain ⟨T2, X2, e2, st2⟩ := getF X1 hx hZ hown (host := "") (Or.inl (hw _ (List.mem_of_getElem? (i := 18) rfl))) Via.refl e1 F_oa_step (g := (mkF m 6 #[.val (.ref oa), .val (.int va)] [(.ref oa), (.int va), (.int ua)])) rfl rfl (hb hby own_didx_6)
  refine own_Fin.go st2 ?_
  show own_Fin _ _ _ _ _ _ _ (T2.setTop (mkF m 9 #[.val (.ref oa), .val (.int va)] [(.int ub), (.int va), (.int ua)]))
  refine own_Fin.go (fun t k => XS.imul X2.here hx rfl (hb hby own_didx_9) rfl k) ?_
  show own_Fin _ _ _ _ _ _ _ (T2.setTop (mkF m 10 #[.val (.ref oa), .val (.int va)] [(.int (va * ub)), (.int ua)]))
  refine own_Fin.go (fun t k => XS.iadd X2.here hx rfl (hb hby own_didx_10) rfl k) ?_
  show own_Fin _ _ _ _ _ _ _ (T2.setTop (mkF m 11 #[.val (.ref oa), .val (.int va)] [(.int (ua + (va * ub)))]))
  refine own_retI X2 hx Bd.returns (hb hby own_didx_11) Bd.notSynchronized (by decide) (by decide) ?_
  rw [e2]
  exact ⟨rfl, N0, rfl⟩
theorem own_nz (c : Int32) : (((c &&& (1073741823 : Int32)) + (2 : Int32)) - (1 : Int32)) ≠ 0 := by
  intro h
  have h1 := c_mask c 1073741823 30 (by decide) (by decide)
  have h2 := c_iadd (c &&& 1073741823) 2
  have h3 := c_isub ((c &&& 1073741823) + 2) 1
  rw [h] at h3
  have e0 : (0 : Int32).toInt = 0 := rfl
  have e1 : (1 : Int32).toInt = 1 := rfl
  have e2 : (2 : Int32).toInt = 2 := rfl
  have h4 := rng32 ((c &&& 1073741823) + 2)
  omega
theorem own_first (a b : Int32) : (a + ((0 : Int32) * b)) = a := by rw [Int32.zero_mul, Int32.add_zero]
theorem own_next (a b k : Int32) : (a + ((k + (1 : Int32)) * b)) = ((a + (k * b)) + b) := by rw [Int32.add_mul, Int32.one_mul, Int32.add_assoc]
theorem own_pd1 : parseMethodDescriptor "(III)V" = some ⟨[.int, .int, .int], none⟩ := by decide +kernel
theorem own_pd2 : parseMethodDescriptor "(I)I" = some ⟨[.int], some .int⟩ := by decide +kernel
theorem own_pn2 : plainName "com/example/crisp_calls/crispcalls/function/StrideIndexPinLaw" = true := by first | (simp [plainName, overriddenIn]; done) | decide +kernel
theorem own_ef_law (m : MethodId) (va : Int32) (vb : Int32) (vc : Int32) (vd : Int32) : entryFrame m #[(.int va), (.int vb), (.int vc), (.int vd)] maxLocals = mkF m 0 #[.val (.int va), .val (.int vb), .val (.int vc), .val (.int vd), .unset, .unset, .unset, .unset, .unset, .unset] [] := by first | (simp [entryFrame, mkF, argsToLocals, Value.category, maxLocals]; done) | rfl
def own_Q_law (Z : State) (va : Int32) (vb : Int32) (vc : Int32) (vd : Int32) (h0 : Heap) (n0 : Nat) (v : Option Value) (h : Heap) (L : List Loc) : Prop := v = some (.int (1 : Int32)) ∧ Fr n0 L
set_option maxRecDepth 65536 in
set_option maxHeartbeats 40000000 in
theorem own_rm_law (l : Launch) (Z : State) (a0 : Array Value) (hw : ∀ d ∈ tables_1, d.before a0 Z = true) (ws : List Jvm.Cond) (va : Int32) (vb : Int32) (vc : Int32) (vd : Int32) (h0 : Heap) (n0 : Nat) (Z0 : n0 ≤ h0.size) :
    MetFree l x (head1 (Jvm.Cond.code x code maxLocals ret :: ws) room_1) (fun a U => a = #[(.int va), (.int vb), (.int vc), (.int vd)] ∧ Z.Warmed39 U.vm ∧ U.heap = h0) (fun _ _ _ _ _ => True) (fun _ U o U' => ∃ v L, o = .returned v ∧ own_Q_law Z va vb vc vd h0 n0 v U'.heap L ∧ FrameEnd U o U' L room_1.cells room_1.slots) := by
  refine MetFree.of_bodySF (plainFor_of_name own_pn2) hisR ?_
  intro p e s m args below meth c s₁ Bd hml0 hP hK
  obtain ⟨rfl, hZ, hh⟩ := hP
  have hx := Bd.exec
  have hby := Bd.bytes
  have hml : c.maxLocals = 10 := hml0
  have hown : s.vm.findClass "com/example/crisp_calls/crispcalls/function/StrideIndexPinLaw" = some m.cls := findClass_of_methodNamed Bd.named
  have hnm := (name_of_methodNamed Bd.named Bd.method).1
  have X0 : Stand p l e room_1 s m #[(.int va), (.int vb), (.int vc), (.int vd)] below meth c s₁ [] 0 0 := Stand.of_body Bd
  have e0 : s₁.heap = h0 := by rw [← hh, Bd.state]; rfl
  have N0 := Fr.nil n0
  show own_Fin p e below s (own_Q_law Z va vb vc vd h0 n0) room_1.cells room_1.slots (s₁.setTop (entryFrame m #[(.int va), (.int vb), (.int vc), (.int vd)] maxLocals))
  refine own_Fin.go (fun t k => castTop (own_ef_law m va vb vc vd) k) ?_
  refine own_Fin.go (fun t k => XS.iloadN X0.here hx rfl (hb hby at_0) rfl k) ?_
  show own_Fin _ _ _ _ _ _ _ (s₁.setTop (mkF m 1 #[.val (.int va), .val (.int vb), .val (.int vc), .val (.int vd), .unset, .unset, .unset, .unset, .unset, .unset] [(.int vc)]))
  refine own_Fin.go (fun t k => X0.ldcInt hx hown (mvT hZ (hw _ (List.mem_of_getElem? (i := 0) rfl))) (g := (mkF m 1 #[.val (.int va), .val (.int vb), .val (.int vc), .val (.int vd), .unset, .unset, .unset, .unset, .unset, .unset] [(.int vc)])) rfl (hb hby at_1) t k) ?_
  show own_Fin _ _ _ _ _ _ _ (s₁.setTop (mkF m 3 #[.val (.int va), .val (.int vb), .val (.int vc), .val (.int vd), .unset, .unset, .unset, .unset, .unset, .unset] [(.int (1073741823 : Int32)), (.int vc)]))
  refine own_Fin.go (fun t k => XS.iand X0.here hx rfl (hb hby at_3) rfl k) ?_
  show own_Fin _ _ _ _ _ _ _ (s₁.setTop (mkF m 4 #[.val (.int va), .val (.int vb), .val (.int vc), .val (.int vd), .unset, .unset, .unset, .unset, .unset, .unset] [(.int (vc &&& (1073741823 : Int32)))]))
  refine own_Fin.go (fun t k => XS.iconst X0.here hx rfl (hb hby at_4) k) ?_
  show own_Fin _ _ _ _ _ _ _ (s₁.setTop (mkF m 5 #[.val (.int va), .val (.int vb), .val (.int vc), .val (.int vd), .unset, .unset, .unset, .unset, .unset, .unset] [(.int (2 : Int32)), (.int (vc &&& (1073741823 : Int32)))]))
  refine own_Fin.go (fun t k => XS.iadd X0.here hx rfl (hb hby at_5) rfl k) ?_
  show own_Fin _ _ _ _ _ _ _ (s₁.setTop (mkF m 6 #[.val (.int va), .val (.int vb), .val (.int vc), .val (.int vd), .unset, .unset, .unset, .unset, .unset, .unset] [(.int ((vc &&& (1073741823 : Int32)) + (2 : Int32)))]))
  refine own_Fin.go (fun t k => XS.istore X0.here hx rfl (hb hby at_6) rfl (l' := #[.val (.int va), .val (.int vb), .val (.int vc), .val (.int vd), .val (.int ((vc &&& (1073741823 : Int32)) + (2 : Int32))), .unset, .unset, .unset, .unset, .unset]) rfl k) ?_
  show own_Fin _ _ _ _ _ _ _ (s₁.setTop (mkF m 8 #[.val (.int va), .val (.int vb), .val (.int vc), .val (.int vd), .val (.int ((vc &&& (1073741823 : Int32)) + (2 : Int32))), .unset, .unset, .unset, .unset, .unset] []))
  refine own_Fin.go (fun t k => XS.iloadN X0.here hx rfl (hb hby at_8) rfl k) ?_
  show own_Fin _ _ _ _ _ _ _ (s₁.setTop (mkF m 9 #[.val (.int va), .val (.int vb), .val (.int vc), .val (.int vd), .val (.int ((vc &&& (1073741823 : Int32)) + (2 : Int32))), .unset, .unset, .unset, .unset, .unset] [(.int vd)]))
  refine own_Fin.go (fun t k => X0.ldcInt hx hown (mvT hZ (hw _ (List.mem_of_getElem? (i := 1) rfl))) (g := (mkF m 9 #[.val (.int va), .val (.int vb), .val (.int vc), .val (.int vd), .val (.int ((vc &&& (1073741823 : Int32)) + (2 : Int32))), .unset, .unset, .unset, .unset, .unset] [(.int vd)])) rfl (hb hby at_9) t k) ?_
  show own_Fin _ _ _ _ _ _ _ (s₁.setTop (mkF m 11 #[.val (.int va), .val (.int vb), .val (.int vc), .val (.int vd), .val (.int ((vc &&& (1073741823 : Int32)) + (2 : Int32))), .unset, .unset, .unset, .unset, .unset] [(.int (2147483647 : Int32)), (.int vd)]))
  refine own_Fin.go (fun t k => XS.iand X0.here hx rfl (hb hby at_11) rfl k) ?_
  show own_Fin _ _ _ _ _ _ _ (s₁.setTop (mkF m 12 #[.val (.int va), .val (.int vb), .val (.int vc), .val (.int vd), .val (.int ((vc &&& (1073741823 : Int32)) + (2 : Int32))), .unset, .unset, .unset, .unset, .unset] [(.int (vd &&& (2147483647 : Int32)))]))
  refine own_Fin.go (fun t k => XS.iload X0.here hx rfl (hb hby at_12) rfl k) ?_
  show own_Fin _ _ _ _ _ _ _ (s₁.setTop (mkF m 14 #[.val (.int va), .val (.int vb), .val (.int vc), .val (.int vd), .val (.int ((vc &&& (1073741823 : Int32)) + (2 : Int32))), .unset, .unset, .unset, .unset, .unset] [(.int ((vc &&& (1073741823 : Int32)) + (2 : Int32))), (.int (vd &&& (2147483647 : Int32)))]))
  refine own_Fin.go (fun t k => XS.iconst X0.here hx rfl (hb hby at_14) k) ?_
  show own_Fin _ _ _ _ _ _ _ (s₁.setTop (mkF m 15 #[.val (.int va), .val (.int vb), .val (.int vc), .val (.int vd), .val (.int ((vc &&& (1073741823 : Int32)) + (2 : Int32))), .unset, .unset, .unset, .unset, .unset] [(.int (1 : Int32)), (.int ((vc &&& (1073741823 : Int32)) + (2 : Int32))), (.int (vd &&& (2147483647 : Int32)))]))
  refine own_Fin.go (fun t k => XS.isub X0.here hx rfl (hb hby at_15) rfl k) ?_
  show own_Fin _ _ _ _ _ _ _ (s₁.setTop (mkF m 16 #[.val (.int va), .val (.int vb), .val (.int vc), .val (.int vd), .val (.int ((vc &&& (1073741823 : Int32)) + (2 : Int32))), .unset, .unset, .unset, .unset, .unset] [(.int (((vc &&& (1073741823 : Int32)) + (2 : Int32)) - (1 : Int32))), (.int (vd &&& (2147483647 : Int32)))]))
  refine own_Fin.go (fun t k => iremM X0 hx rfl (hb hby at_16) rfl (own_nz vc) k) ?_
  show own_Fin _ _ _ _ _ _ _ (s₁.setTop (mkF m 17 #[.val (.int va), .val (.int vb), .val (.int vc), .val (.int vd), .val (.int ((vc &&& (1073741823 : Int32)) + (2 : Int32))), .unset, .unset, .unset, .unset, .unset] [(.int ((vd &&& (2147483647 : Int32)) % (((vc &&& (1073741823 : Int32)) + (2 : Int32)) - (1 : Int32))))]))
  refine own_Fin.go (fun t k => XS.istore X0.here hx rfl (hb hby at_17) rfl (l' := #[.val (.int va), .val (.int vb), .val (.int vc), .val (.int vd), .val (.int ((vc &&& (1073741823 : Int32)) + (2 : Int32))), .val (.int ((vd &&& (2147483647 : Int32)) % (((vc &&& (1073741823 : Int32)) + (2 : Int32)) - (1 : Int32)))), .unset, .unset, .unset, .unset]) rfl k) ?_
  show own_Fin _ _ _ _ _ _ _ (s₁.setTop (mkF m 19 #[.val (.int va), .val (.int vb), .val (.int vc), .val (.int vd), .val (.int ((vc &&& (1073741823 : Int32)) + (2 : Int32))), .val (.int ((vd &&& (2147483647 : Int32)) % (((vc &&& (1073741823 : Int32)) + (2 : Int32)) - (1 : Int32)))), .unset, .unset, .unset, .unset] []))
  obtain ⟨T1, h1, X1, e1, E1, A1, D1, -, st1⟩ := newO X0 hx hZ hown (hw _ (List.mem_of_getElem? (i := 2) rfl)) (hw _ (List.mem_of_getElem? (i := 3) rfl)) (hw _ (List.mem_of_getElem? (i := 4) rfl)) e0 (g := (mkF m 19 #[.val (.int va), .val (.int vb), .val (.int vc), .val (.int vd), .val (.int ((vc &&& (1073741823 : Int32)) + (2 : Int32))), .val (.int ((vd &&& (2147483647 : Int32)) % (((vc &&& (1073741823 : Int32)) + (2 : Int32)) - (1 : Int32)))), .unset, .unset, .unset, .unset] [])) rfl (hb hby at_19) (by decide) (by decide)
  obtain ⟨b1, g1⟩ : ∃ z, z = h0.size := ⟨_, rfl⟩
  rw [← g1] at A1 D1 st1
  refine own_Fin.go st1 ?_
  have g_b1 : n0 ≤ b1 := Nat.le_trans Z0 (Nat.le_of_eq g1.symm)
  have Z1 := Nat.le_trans Z0 E1.1
  have F_b1_start : Fld Z h1 b1 "com/example/crisp_calls/crispcalls/function/Indexes$Stride" "start" "I" (.int (0 : Int32)) := D1 (Or.inr (hw _ (List.mem_of_getElem? (i := 17) rfl))) (ty := .int) (by decide)
  have F_b1_step : Fld Z h1 b1 "com/example/crisp_calls/crispcalls/function/Indexes$Stride" "step" "I" (.int (0 : Int32)) := D1 (Or.inr (hw _ (List.mem_of_getElem? (i := 19) rfl))) (ty := .int) (by decide)
  have F_b1_count : Fld Z h1 b1 "com/example/crisp_calls/crispcalls/function/Indexes$Stride" "count" "I" (.int (0 : Int32)) := D1 (Or.inr (hw _ (List.mem_of_getElem? (i := 21) rfl))) (ty := .int) (by decide)
  show own_Fin _ _ _ _ _ _ _ (T1.setTop (mkF m 22 #[.val (.int va), .val (.int vb), .val (.int vc), .val (.int vd), .val (.int ((vc &&& (1073741823 : Int32)) + (2 : Int32))), .val (.int ((vd &&& (2147483647 : Int32)) % (((vc &&& (1073741823 : Int32)) + (2 : Int32)) - (1 : Int32)))), .unset, .unset, .unset, .unset] [(.ref b1)]))
  refine own_Fin.go (fun t k => XS.dup X1.here hx rfl (hb hby at_22) rfl rfl k) ?_
  show own_Fin _ _ _ _ _ _ _ (T1.setTop (mkF m 23 #[.val (.int va), .val (.int vb), .val (.int vc), .val (.int vd), .val (.int ((vc &&& (1073741823 : Int32)) + (2 : Int32))), .val (.int ((vd &&& (2147483647 : Int32)) % (((vc &&& (1073741823 : Int32)) + (2 : Int32)) - (1 : Int32)))), .unset, .unset, .unset, .unset] [(.ref b1), (.ref b1)]))
  refine own_Fin.go (fun t k => XS.iloadN X1.here hx rfl (hb hby at_23) rfl k) ?_
  show own_Fin _ _ _ _ _ _ _ (T1.setTop (mkF m 24 #[.val (.int va), .val (.int vb), .val (.int vc), .val (.int vd), .val (.int ((vc &&& (1073741823 : Int32)) + (2 : Int32))), .val (.int ((vd &&& (2147483647 : Int32)) % (((vc &&& (1073741823 : Int32)) + (2 : Int32)) - (1 : Int32)))), .unset, .unset, .unset, .unset] [(.int va), (.ref b1), (.ref b1)]))
  refine own_Fin.go (fun t k => XS.iloadN X1.here hx rfl (hb hby at_24) rfl k) ?_
  show own_Fin _ _ _ _ _ _ _ (T1.setTop (mkF m 25 #[.val (.int va), .val (.int vb), .val (.int vc), .val (.int vd), .val (.int ((vc &&& (1073741823 : Int32)) + (2 : Int32))), .val (.int ((vd &&& (2147483647 : Int32)) % (((vc &&& (1073741823 : Int32)) + (2 : Int32)) - (1 : Int32)))), .unset, .unset, .unset, .unset] [(.int vb), (.int va), (.ref b1), (.ref b1)]))
  refine own_Fin.go (fun t k => XS.iload X1.here hx rfl (hb hby at_25) rfl k) ?_
  show own_Fin _ _ _ _ _ _ _ (T1.setTop (mkF m 27 #[.val (.int va), .val (.int vb), .val (.int vc), .val (.int vd), .val (.int ((vc &&& (1073741823 : Int32)) + (2 : Int32))), .val (.int ((vd &&& (2147483647 : Int32)) % (((vc &&& (1073741823 : Int32)) + (2 : Int32)) - (1 : Int32)))), .unset, .unset, .unset, .unset] [(.int ((vc &&& (1073741823 : Int32)) + (2 : Int32))), (.int vb), (.int va), (.ref b1), (.ref b1)]))
  obtain ⟨_, _, ⟨T2, L2, k2, n2⟩, -, X2, ⟨Lc2, hQ2, l2, y2, z2⟩, st2⟩ := X1.specialBack hx (y := (⟨"com/example/crisp_calls/crispcalls/function/Indexes$Stride", "<init>", "(III)V"⟩ : MethodName)) rfl hown (mvT hZ (hw _ (List.mem_of_getElem? (i := 5) rfl))) (mvT hZ (hw _ (List.mem_of_getElem? (i := 6) rfl))) (mvT hZ (hw _ (List.mem_of_getElem? (i := 7) rfl))) (by decide) (backOf (W := 1) (own_rm_ini l Z a0 hw [] b1 va vb ((vc &&& (1073741823 : Int32)) + (2 : Int32))  h1 n0 Z1 A1 F_b1_start F_b1_step F_b1_count g_b1) hZ (hw _ (List.mem_of_getElem? (i := 7) rfl)) (hw _ (List.mem_of_getElem? (i := 4) rfl)) (by decide) (by decide)) (g := (mkF m 27 #[.val (.int va), .val (.int vb), .val (.int vc), .val (.int vd), .val (.int ((vc &&& (1073741823 : Int32)) + (2 : Int32))), .val (.int ((vd &&& (2147483647 : Int32)) % (((vc &&& (1073741823 : Int32)) + (2 : Int32)) - (1 : Int32)))), .unset, .unset, .unset, .unset] [(.int ((vc &&& (1073741823 : Int32)) + (2 : Int32))), (.int vb), (.int va), (.ref b1), (.ref b1)])) rfl (by rw [hml]; rfl) (Steps.refl _) (a := b1) (argsL := [(.int va), (.int vb), (.int ((vc &&& (1073741823 : Int32)) + (2 : Int32)))]) (rest := [(.ref b1)]) (lenOf own_pd1 rfl) rfl (by show 2 * 0 + _ ≤ _; exact Nat.le_of_eq rfl) (hb hby at_27) (fun _ _ => ⟨rfl, e1, (by decide : 1 + 0 ≤ _), (by decide : 3 + 0 ≤ _)⟩)
  dsimp only [Pt.U, Pt.locs, Pt.cells, Pt.slots] at X2 l2 y2 z2 st2 hQ2
  subst l2 y2 z2
  obtain ⟨rfl, N2q, K2q, c2_1, c2_2, c2_3⟩ := hQ2
  refine own_Fin.go (fun t k => st2.trans k) ?_
  have N2 := Fr.app N0 N2q
  have Z2 := Nat.le_trans Z1 K2q.1
  show own_Fin _ _ _ _ _ _ _ (T2.setTop (mkF m 30 #[.val (.int va), .val (.int vb), .val (.int vc), .val (.int vd), .val (.int ((vc &&& (1073741823 : Int32)) + (2 : Int32))), .val (.int ((vd &&& (2147483647 : Int32)) % (((vc &&& (1073741823 : Int32)) + (2 : Int32)) - (1 : Int32)))), .unset, .unset, .unset, .unset] [(.ref b1)]))
  refine own_Fin.go (fun t k => XS.astore X2.here hx rfl (hb hby at_30) rfl rfl (l' := #[.val (.int va), .val (.int vb), .val (.int vc), .val (.int vd), .val (.int ((vc &&& (1073741823 : Int32)) + (2 : Int32))), .val (.int ((vd &&& (2147483647 : Int32)) % (((vc &&& (1073741823 : Int32)) + (2 : Int32)) - (1 : Int32)))), .val (.ref b1), .unset, .unset, .unset]) rfl k) ?_
  show own_Fin _ _ _ _ _ _ _ (T2.setTop (mkF m 32 #[.val (.int va), .val (.int vb), .val (.int vc), .val (.int vd), .val (.int ((vc &&& (1073741823 : Int32)) + (2 : Int32))), .val (.int ((vd &&& (2147483647 : Int32)) % (((vc &&& (1073741823 : Int32)) + (2 : Int32)) - (1 : Int32)))), .val (.ref b1), .unset, .unset, .unset] []))
  refine own_Fin.go (fun t k => XS.aload X2.here hx rfl (hb hby at_32) rfl rfl k) ?_
  show own_Fin _ _ _ _ _ _ _ (T2.setTop (mkF m 34 #[.val (.int va), .val (.int vb), .val (.int vc), .val (.int vd), .val (.int ((vc &&& (1073741823 : Int32)) + (2 : Int32))), .val (.int ((vd &&& (2147483647 : Int32)) % (((vc &&& (1073741823 : Int32)) + (2 : Int32)) - (1 : Int32)))), .val (.ref b1), .unset, .unset, .unset] [(.ref b1)]))
  refine own_Fin.go (fun t k => XS.iconst X2.here hx rfl (hb hby at_34) k) ?_
  show own_Fin _ _ _ _ _ _ _ (T2.setTop (mkF m 35 #[.val (.int va), .val (.int vb), .val (.int vc), .val (.int vd), .val (.int ((vc &&& (1073741823 : Int32)) + (2 : Int32))), .val (.int ((vd &&& (2147483647 : Int32)) % (((vc &&& (1073741823 : Int32)) + (2 : Int32)) - (1 : Int32)))), .val (.ref b1), .unset, .unset, .unset] [(.int (0 : Int32)), (.ref b1)]))
  obtain ⟨cq3, kq3, q3a, q3b, q3c⟩ := isOf hZ rfl c2_1
  obtain ⟨_, _, ⟨T3, L3, k3, n3⟩, -, X3, ⟨Lc3, hQ3, l3, y3, z3⟩, st3⟩ := X2.virtualBack hx (y := (⟨"com/example/crisp_calls/crispcalls/function/Indexes$Stride", "index", "(I)I"⟩ : MethodName)) (z := (⟨"com/example/crisp_calls/crispcalls/function/Indexes$Stride", "index", "(I)I"⟩ : MethodName)) hown (mvT hZ (hw _ (List.mem_of_getElem? (i := 22) rfl))) (mvT hZ (hw _ (List.mem_of_getElem? (i := 23) rfl))) (notFace_of_selects (args := #[]) (mvT hZ (hw _ (List.mem_of_getElem? (i := 25) rfl)))) (mvT hZ (hw _ (List.mem_of_getElem? (i := 25) rfl))) (mvT hZ (hw _ (List.mem_of_getElem? (i := 24) rfl))) (by decide) (backOf (W := 0) (own_rm_idx l Z a0 hw [] b1 (0 : Int32) va vb T2.heap n0 Z2 c2_2 c2_3) hZ (hw _ (List.mem_of_getElem? (i := 26) rfl)) (hw _ (List.mem_of_getElem? (i := 4) rfl)) (by decide) (by decide)) q3a q3c (g := (mkF m 35 #[.val (.int va), .val (.int vb), .val (.int vc), .val (.int vd), .val (.int ((vc &&& (1073741823 : Int32)) + (2 : Int32))), .val (.int ((vd &&& (2147483647 : Int32)) % (((vc &&& (1073741823 : Int32)) + (2 : Int32)) - (1 : Int32)))), .val (.ref b1), .unset, .unset, .unset] [(.int (0 : Int32)), (.ref b1)])) rfl (by rw [hml]; rfl) (Steps.refl _) (argsL := [(.int (0 : Int32))]) (rest := []) (lenOf own_pd2 rfl) rfl (by show 2 * 0 + _ ≤ _; exact Nat.le_of_eq rfl) (hb hby at_35) (fun _ _ => ⟨rfl, rfl, (by decide : 1 + 0 ≤ _), (by decide : 3 + 0 ≤ _)⟩)
  dsimp only [Pt.U, Pt.locs, Pt.cells, Pt.slots] at X3 l3 y3 z3 st3 hQ3
  subst l3 y3 z3
  obtain ⟨rfl, N3q, e3⟩ := hQ3
  refine own_Fin.go (fun t k => st3.trans k) ?_
  have N3 := Fr.app N2 N3q
  show own_Fin _ _ _ _ _ _ _ (T3.setTop (mkF m 38 #[.val (.int va), .val (.int vb), .val (.int vc), .val (.int vd), .val (.int ((vc &&& (1073741823 : Int32)) + (2 : Int32))), .val (.int ((vd &&& (2147483647 : Int32)) % (((vc &&& (1073741823 : Int32)) + (2 : Int32)) - (1 : Int32)))), .val (.ref b1), .unset, .unset, .unset] [(.int (va + ((0 : Int32) * vb)))]))
  refine own_Fin.go (fun t k => XS.istore X3.here hx rfl (hb hby at_38) rfl (l' := #[.val (.int va), .val (.int vb), .val (.int vc), .val (.int vd), .val (.int ((vc &&& (1073741823 : Int32)) + (2 : Int32))), .val (.int ((vd &&& (2147483647 : Int32)) % (((vc &&& (1073741823 : Int32)) + (2 : Int32)) - (1 : Int32)))), .val (.ref b1), .val (.int (va + ((0 : Int32) * vb))), .unset, .unset]) rfl k) ?_
  show own_Fin _ _ _ _ _ _ _ (T3.setTop (mkF m 40 #[.val (.int va), .val (.int vb), .val (.int vc), .val (.int vd), .val (.int ((vc &&& (1073741823 : Int32)) + (2 : Int32))), .val (.int ((vd &&& (2147483647 : Int32)) % (((vc &&& (1073741823 : Int32)) + (2 : Int32)) - (1 : Int32)))), .val (.ref b1), .val (.int (va + ((0 : Int32) * vb))), .unset, .unset] []))
  refine own_Fin.go (fun t k => XS.aload X3.here hx rfl (hb hby at_40) rfl rfl k) ?_
  show own_Fin _ _ _ _ _ _ _ (T3.setTop (mkF m 42 #[.val (.int va), .val (.int vb), .val (.int vc), .val (.int vd), .val (.int ((vc &&& (1073741823 : Int32)) + (2 : Int32))), .val (.int ((vd &&& (2147483647 : Int32)) % (((vc &&& (1073741823 : Int32)) + (2 : Int32)) - (1 : Int32)))), .val (.ref b1), .val (.int (va + ((0 : Int32) * vb))), .unset, .unset] [(.ref b1)]))
  refine own_Fin.go (fun t k => XS.iload X3.here hx rfl (hb hby at_42) rfl k) ?_
  show own_Fin _ _ _ _ _ _ _ (T3.setTop (mkF m 44 #[.val (.int va), .val (.int vb), .val (.int vc), .val (.int vd), .val (.int ((vc &&& (1073741823 : Int32)) + (2 : Int32))), .val (.int ((vd &&& (2147483647 : Int32)) % (((vc &&& (1073741823 : Int32)) + (2 : Int32)) - (1 : Int32)))), .val (.ref b1), .val (.int (va + ((0 : Int32) * vb))), .unset, .unset] [(.int ((vd &&& (2147483647 : Int32)) % (((vc &&& (1073741823 : Int32)) + (2 : Int32)) - (1 : Int32)))), (.ref b1)]))
  obtain ⟨cq4, kq4, q4a, q4b, q4c⟩ := isOf hZ e3 c2_1
  obtain ⟨_, _, ⟨T4, L4, k4, n4⟩, -, X4, ⟨Lc4, hQ4, l4, y4, z4⟩, st4⟩ := X3.virtualBack hx (y := (⟨"com/example/crisp_calls/crispcalls/function/Indexes$Stride", "index", "(I)I"⟩ : MethodName)) (z := (⟨"com/example/crisp_calls/crispcalls/function/Indexes$Stride", "index", "(I)I"⟩ : MethodName)) hown (mvT hZ (hw _ (List.mem_of_getElem? (i := 22) rfl))) (mvT hZ (hw _ (List.mem_of_getElem? (i := 23) rfl))) (notFace_of_selects (args := #[]) (mvT hZ (hw _ (List.mem_of_getElem? (i := 25) rfl)))) (mvT hZ (hw _ (List.mem_of_getElem? (i := 25) rfl))) (mvT hZ (hw _ (List.mem_of_getElem? (i := 24) rfl))) (by decide) (backOf (W := 0) (own_rm_idx l Z a0 hw [] b1 ((vd &&& (2147483647 : Int32)) % (((vc &&& (1073741823 : Int32)) + (2 : Int32)) - (1 : Int32))) va vb T2.heap n0 Z2 c2_2 c2_3) hZ (hw _ (List.mem_of_getElem? (i := 26) rfl)) (hw _ (List.mem_of_getElem? (i := 4) rfl)) (by decide) (by decide)) q4a q4c (g := (mkF m 44 #[.val (.int va), .val (.int vb), .val (.int vc), .val (.int vd), .val (.int ((vc &&& (1073741823 : Int32)) + (2 : Int32))), .val (.int ((vd &&& (2147483647 : Int32)) % (((vc &&& (1073741823 : Int32)) + (2 : Int32)) - (1 : Int32)))), .val (.ref b1), .val (.int (va + ((0 : Int32) * vb))), .unset, .unset] [(.int ((vd &&& (2147483647 : Int32)) % (((vc &&& (1073741823 : Int32)) + (2 : Int32)) - (1 : Int32)))), (.ref b1)])) rfl (by rw [hml]; rfl) (Steps.refl _) (argsL := [(.int ((vd &&& (2147483647 : Int32)) % (((vc &&& (1073741823 : Int32)) + (2 : Int32)) - (1 : Int32))))]) (rest := []) (lenOf own_pd2 rfl) rfl (by show 2 * 0 + _ ≤ _; exact Nat.le_of_eq rfl) (hb hby at_44) (fun _ _ => ⟨rfl, e3, (by decide : 1 + 0 ≤ _), (by decide : 3 + 0 ≤ _)⟩)
  dsimp only [Pt.U, Pt.locs, Pt.cells, Pt.slots] at X4 l4 y4 z4 st4 hQ4
  subst l4 y4 z4
  obtain ⟨rfl, N4q, e4⟩ := hQ4
  refine own_Fin.go (fun t k => st4.trans k) ?_
  have N4 := Fr.app N3 N4q
  show own_Fin _ _ _ _ _ _ _ (T4.setTop (mkF m 47 #[.val (.int va), .val (.int vb), .val (.int vc), .val (.int vd), .val (.int ((vc &&& (1073741823 : Int32)) + (2 : Int32))), .val (.int ((vd &&& (2147483647 : Int32)) % (((vc &&& (1073741823 : Int32)) + (2 : Int32)) - (1 : Int32)))), .val (.ref b1), .val (.int (va + ((0 : Int32) * vb))), .unset, .unset] [(.int (va + (((vd &&& (2147483647 : Int32)) % (((vc &&& (1073741823 : Int32)) + (2 : Int32)) - (1 : Int32))) * vb)))]))
  refine own_Fin.go (fun t k => XS.istore X4.here hx rfl (hb hby at_47) rfl (l' := #[.val (.int va), .val (.int vb), .val (.int vc), .val (.int vd), .val (.int ((vc &&& (1073741823 : Int32)) + (2 : Int32))), .val (.int ((vd &&& (2147483647 : Int32)) % (((vc &&& (1073741823 : Int32)) + (2 : Int32)) - (1 : Int32)))), .val (.ref b1), .val (.int (va + ((0 : Int32) * vb))), .val (.int (va + (((vd &&& (2147483647 : Int32)) % (((vc &&& (1073741823 : Int32)) + (2 : Int32)) - (1 : Int32))) * vb))), .unset]) rfl k) ?_
  show own_Fin _ _ _ _ _ _ _ (T4.setTop (mkF m 49 #[.val (.int va), .val (.int vb), .val (.int vc), .val (.int vd), .val (.int ((vc &&& (1073741823 : Int32)) + (2 : Int32))), .val (.int ((vd &&& (2147483647 : Int32)) % (((vc &&& (1073741823 : Int32)) + (2 : Int32)) - (1 : Int32)))), .val (.ref b1), .val (.int (va + ((0 : Int32) * vb))), .val (.int (va + (((vd &&& (2147483647 : Int32)) % (((vc &&& (1073741823 : Int32)) + (2 : Int32)) - (1 : Int32))) * vb))), .unset] []))
  refine own_Fin.go (fun t k => XS.aload X4.here hx rfl (hb hby at_49) rfl rfl k) ?_
  show own_Fin _ _ _ _ _ _ _ (T4.setTop (mkF m 51 #[.val (.int va), .val (.int vb), .val (.int vc), .val (.int vd), .val (.int ((vc &&& (1073741823 : Int32)) + (2 : Int32))), .val (.int ((vd &&& (2147483647 : Int32)) % (((vc &&& (1073741823 : Int32)) + (2 : Int32)) - (1 : Int32)))), .val (.ref b1), .val (.int (va + ((0 : Int32) * vb))), .val (.int (va + (((vd &&& (2147483647 : Int32)) % (((vc &&& (1073741823 : Int32)) + (2 : Int32)) - (1 : Int32))) * vb))), .unset] [(.ref b1)]))
  refine own_Fin.go (fun t k => XS.iload X4.here hx rfl (hb hby at_51) rfl k) ?_
  show own_Fin _ _ _ _ _ _ _ (T4.setTop (mkF m 53 #[.val (.int va), .val (.int vb), .val (.int vc), .val (.int vd), .val (.int ((vc &&& (1073741823 : Int32)) + (2 : Int32))), .val (.int ((vd &&& (2147483647 : Int32)) % (((vc &&& (1073741823 : Int32)) + (2 : Int32)) - (1 : Int32)))), .val (.ref b1), .val (.int (va + ((0 : Int32) * vb))), .val (.int (va + (((vd &&& (2147483647 : Int32)) % (((vc &&& (1073741823 : Int32)) + (2 : Int32)) - (1 : Int32))) * vb))), .unset] [(.int ((vd &&& (2147483647 : Int32)) % (((vc &&& (1073741823 : Int32)) + (2 : Int32)) - (1 : Int32)))), (.ref b1)]))
  refine own_Fin.go (fun t k => XS.iconst X4.here hx rfl (hb hby at_53) k) ?_
  show own_Fin _ _ _ _ _ _ _ (T4.setTop (mkF m 54 #[.val (.int va), .val (.int vb), .val (.int vc), .val (.int vd), .val (.int ((vc &&& (1073741823 : Int32)) + (2 : Int32))), .val (.int ((vd &&& (2147483647 : Int32)) % (((vc &&& (1073741823 : Int32)) + (2 : Int32)) - (1 : Int32)))), .val (.ref b1), .val (.int (va + ((0 : Int32) * vb))), .val (.int (va + (((vd &&& (2147483647 : Int32)) % (((vc &&& (1073741823 : Int32)) + (2 : Int32)) - (1 : Int32))) * vb))), .unset] [(.int (1 : Int32)), (.int ((vd &&& (2147483647 : Int32)) % (((vc &&& (1073741823 : Int32)) + (2 : Int32)) - (1 : Int32)))), (.ref b1)]))
  refine own_Fin.go (fun t k => XS.iadd X4.here hx rfl (hb hby at_54) rfl k) ?_
  show own_Fin _ _ _ _ _ _ _ (T4.setTop (mkF m 55 #[.val (.int va), .val (.int vb), .val (.int vc), .val (.int vd), .val (.int ((vc &&& (1073741823 : Int32)) + (2 : Int32))), .val (.int ((vd &&& (2147483647 : Int32)) % (((vc &&& (1073741823 : Int32)) + (2 : Int32)) - (1 : Int32)))), .val (.ref b1), .val (.int (va + ((0 : Int32) * vb))), .val (.int (va + (((vd &&& (2147483647 : Int32)) % (((vc &&& (1073741823 : Int32)) + (2 : Int32)) - (1 : Int32))) * vb))), .unset] [(.int (((vd &&& (2147483647 : Int32)) % (((vc &&& (1073741823 : Int32)) + (2 : Int32)) - (1 : Int32))) + (1 : Int32))), (.ref b1)]))
  obtain ⟨cq5, kq5, q5a, q5b, q5c⟩ := isOf hZ e4 c2_1
  obtain ⟨_, _, ⟨T5, L5, k5, n5⟩, -, X5, ⟨Lc5, hQ5, l5, y5, z5⟩, st5⟩ := X4.virtualBack hx (y := (⟨"com/example/crisp_calls/crispcalls/function/Indexes$Stride", "index", "(I)I"⟩ : MethodName)) (z := (⟨"com/example/crisp_calls/crispcalls/function/Indexes$Stride", "index", "(I)I"⟩ : MethodName)) hown (mvT hZ (hw _ (List.mem_of_getElem? (i := 22) rfl))) (mvT hZ (hw _ (List.mem_of_getElem? (i := 23) rfl))) (notFace_of_selects (args := #[]) (mvT hZ (hw _ (List.mem_of_getElem? (i := 25) rfl)))) (mvT hZ (hw _ (List.mem_of_getElem? (i := 25) rfl))) (mvT hZ (hw _ (List.mem_of_getElem? (i := 24) rfl))) (by decide) (backOf (W := 0) (own_rm_idx l Z a0 hw [] b1 (((vd &&& (2147483647 : Int32)) % (((vc &&& (1073741823 : Int32)) + (2 : Int32)) - (1 : Int32))) + (1 : Int32)) va vb T2.heap n0 Z2 c2_2 c2_3) hZ (hw _ (List.mem_of_getElem? (i := 26) rfl)) (hw _ (List.mem_of_getElem? (i := 4) rfl)) (by decide) (by decide)) q5a q5c (g := (mkF m 55 #[.val (.int va), .val (.int vb), .val (.int vc), .val (.int vd), .val (.int ((vc &&& (1073741823 : Int32)) + (2 : Int32))), .val (.int ((vd &&& (2147483647 : Int32)) % (((vc &&& (1073741823 : Int32)) + (2 : Int32)) - (1 : Int32)))), .val (.ref b1), .val (.int (va + ((0 : Int32) * vb))), .val (.int (va + (((vd &&& (2147483647 : Int32)) % (((vc &&& (1073741823 : Int32)) + (2 : Int32)) - (1 : Int32))) * vb))), .unset] [(.int (((vd &&& (2147483647 : Int32)) % (((vc &&& (1073741823 : Int32)) + (2 : Int32)) - (1 : Int32))) + (1 : Int32))), (.ref b1)])) rfl (by rw [hml]; rfl) (Steps.refl _) (argsL := [(.int (((vd &&& (2147483647 : Int32)) % (((vc &&& (1073741823 : Int32)) + (2 : Int32)) - (1 : Int32))) + (1 : Int32)))]) (rest := []) (lenOf own_pd2 rfl) rfl (by show 2 * 0 + _ ≤ _; exact Nat.le_of_eq rfl) (hb hby at_55) (fun _ _ => ⟨rfl, e4, (by decide : 1 + 0 ≤ _), (by decide : 3 + 0 ≤ _)⟩)
  dsimp only [Pt.U, Pt.locs, Pt.cells, Pt.slots] at X5 l5 y5 z5 st5 hQ5
  subst l5 y5 z5
  obtain ⟨rfl, N5q, e5⟩ := hQ5
  refine own_Fin.go (fun t k => st5.trans k) ?_
  have N5 := Fr.app N4 N5q
  show own_Fin _ _ _ _ _ _ _ (T5.setTop (mkF m 58 #[.val (.int va), .val (.int vb), .val (.int vc), .val (.int vd), .val (.int ((vc &&& (1073741823 : Int32)) + (2 : Int32))), .val (.int ((vd &&& (2147483647 : Int32)) % (((vc &&& (1073741823 : Int32)) + (2 : Int32)) - (1 : Int32)))), .val (.ref b1), .val (.int (va + ((0 : Int32) * vb))), .val (.int (va + (((vd &&& (2147483647 : Int32)) % (((vc &&& (1073741823 : Int32)) + (2 : Int32)) - (1 : Int32))) * vb))), .unset] [(.int (va + ((((vd &&& (2147483647 : Int32)) % (((vc &&& (1073741823 : Int32)) + (2 : Int32)) - (1 : Int32))) + (1 : Int32)) * vb)))]))
  refine own_Fin.go (fun t k => XS.istore X5.here hx rfl (hb hby at_58) rfl (l' := #[.val (.int va), .val (.int vb), .val (.int vc), .val (.int vd), .val (.int ((vc &&& (1073741823 : Int32)) + (2 : Int32))), .val (.int ((vd &&& (2147483647 : Int32)) % (((vc &&& (1073741823 : Int32)) + (2 : Int32)) - (1 : Int32)))), .val (.ref b1), .val (.int (va + ((0 : Int32) * vb))), .val (.int (va + (((vd &&& (2147483647 : Int32)) % (((vc &&& (1073741823 : Int32)) + (2 : Int32)) - (1 : Int32))) * vb))), .val (.int (va + ((((vd &&& (2147483647 : Int32)) % (((vc &&& (1073741823 : Int32)) + (2 : Int32)) - (1 : Int32))) + (1 : Int32)) * vb)))]) rfl k) ?_
  show own_Fin _ _ _ _ _ _ _ (T5.setTop (mkF m 60 #[.val (.int va), .val (.int vb), .val (.int vc), .val (.int vd), .val (.int ((vc &&& (1073741823 : Int32)) + (2 : Int32))), .val (.int ((vd &&& (2147483647 : Int32)) % (((vc &&& (1073741823 : Int32)) + (2 : Int32)) - (1 : Int32)))), .val (.ref b1), .val (.int (va + ((0 : Int32) * vb))), .val (.int (va + (((vd &&& (2147483647 : Int32)) % (((vc &&& (1073741823 : Int32)) + (2 : Int32)) - (1 : Int32))) * vb))), .val (.int (va + ((((vd &&& (2147483647 : Int32)) % (((vc &&& (1073741823 : Int32)) + (2 : Int32)) - (1 : Int32))) + (1 : Int32)) * vb)))] []))
  refine own_Fin.go (fun t k => XS.iload X5.here hx rfl (hb hby at_60) rfl k) ?_
  show own_Fin _ _ _ _ _ _ _ (T5.setTop (mkF m 62 #[.val (.int va), .val (.int vb), .val (.int vc), .val (.int vd), .val (.int ((vc &&& (1073741823 : Int32)) + (2 : Int32))), .val (.int ((vd &&& (2147483647 : Int32)) % (((vc &&& (1073741823 : Int32)) + (2 : Int32)) - (1 : Int32)))), .val (.ref b1), .val (.int (va + ((0 : Int32) * vb))), .val (.int (va + (((vd &&& (2147483647 : Int32)) % (((vc &&& (1073741823 : Int32)) + (2 : Int32)) - (1 : Int32))) * vb))), .val (.int (va + ((((vd &&& (2147483647 : Int32)) % (((vc &&& (1073741823 : Int32)) + (2 : Int32)) - (1 : Int32))) + (1 : Int32)) * vb)))] [(.int (va + ((0 : Int32) * vb)))]))
  refine own_Fin.go (fun t k => XS.iloadN X5.here hx rfl (hb hby at_62) rfl k) ?_
  show own_Fin _ _ _ _ _ _ _ (T5.setTop (mkF m 63 #[.val (.int va), .val (.int vb), .val (.int vc), .val (.int vd), .val (.int ((vc &&& (1073741823 : Int32)) + (2 : Int32))), .val (.int ((vd &&& (2147483647 : Int32)) % (((vc &&& (1073741823 : Int32)) + (2 : Int32)) - (1 : Int32)))), .val (.ref b1), .val (.int (va + ((0 : Int32) * vb))), .val (.int (va + (((vd &&& (2147483647 : Int32)) % (((vc &&& (1073741823 : Int32)) + (2 : Int32)) - (1 : Int32))) * vb))), .val (.int (va + ((((vd &&& (2147483647 : Int32)) % (((vc &&& (1073741823 : Int32)) + (2 : Int32)) - (1 : Int32))) + (1 : Int32)) * vb)))] [(.int va), (.int (va + ((0 : Int32) * vb)))]))
  have hc63 : (va + ((0 : Int32) * vb)) = va := own_first _ _
  refine own_Fin.go (fun t k => XS.icmpNo X5.here hx rfl (hb hby at_63) rfl (Jvm.Free.XT.ii_ne_f hc63) k) ?_
  show own_Fin _ _ _ _ _ _ _ (T5.setTop (mkF m 66 #[.val (.int va), .val (.int vb), .val (.int vc), .val (.int vd), .val (.int ((vc &&& (1073741823 : Int32)) + (2 : Int32))), .val (.int ((vd &&& (2147483647 : Int32)) % (((vc &&& (1073741823 : Int32)) + (2 : Int32)) - (1 : Int32)))), .val (.ref b1), .val (.int (va + ((0 : Int32) * vb))), .val (.int (va + (((vd &&& (2147483647 : Int32)) % (((vc &&& (1073741823 : Int32)) + (2 : Int32)) - (1 : Int32))) * vb))), .val (.int (va + ((((vd &&& (2147483647 : Int32)) % (((vc &&& (1073741823 : Int32)) + (2 : Int32)) - (1 : Int32))) + (1 : Int32)) * vb)))] []))
  refine own_Fin.go (fun t k => XS.iload X5.here hx rfl (hb hby at_66) rfl k) ?_
  show own_Fin _ _ _ _ _ _ _ (T5.setTop (mkF m 68 #[.val (.int va), .val (.int vb), .val (.int vc), .val (.int vd), .val (.int ((vc &&& (1073741823 : Int32)) + (2 : Int32))), .val (.int ((vd &&& (2147483647 : Int32)) % (((vc &&& (1073741823 : Int32)) + (2 : Int32)) - (1 : Int32)))), .val (.ref b1), .val (.int (va + ((0 : Int32) * vb))), .val (.int (va + (((vd &&& (2147483647 : Int32)) % (((vc &&& (1073741823 : Int32)) + (2 : Int32)) - (1 : Int32))) * vb))), .val (.int (va + ((((vd &&& (2147483647 : Int32)) % (((vc &&& (1073741823 : Int32)) + (2 : Int32)) - (1 : Int32))) + (1 : Int32)) * vb)))] [(.int (va + ((((vd &&& (2147483647 : Int32)) % (((vc &&& (1073741823 : Int32)) + (2 : Int32)) - (1 : Int32))) + (1 : Int32)) * vb)))]))
  refine own_Fin.go (fun t k => XS.iload X5.here hx rfl (hb hby at_68) rfl k) ?_
  show own_Fin _ _ _ _ _ _ _ (T5.setTop (mkF m 70 #[.val (.int va), .val (.int vb), .val (.int vc), .val (.int vd), .val (.int ((vc &&& (1073741823 : Int32)) + (2 : Int32))), .val (.int ((vd &&& (2147483647 : Int32)) % (((vc &&& (1073741823 : Int32)) + (2 : Int32)) - (1 : Int32)))), .val (.ref b1), .val (.int (va + ((0 : Int32) * vb))), .val (.int (va + (((vd &&& (2147483647 : Int32)) % (((vc &&& (1073741823 : Int32)) + (2 : Int32)) - (1 : Int32))) * vb))), .val (.int (va + ((((vd &&& (2147483647 : Int32)) % (((vc &&& (1073741823 : Int32)) + (2 : Int32)) - (1 : Int32))) + (1 : Int32)) * vb)))] [(.int (va + (((vd &&& (2147483647 : Int32)) % (((vc &&& (1073741823 : Int32)) + (2 : Int32)) - (1 : Int32))) * vb))), (.int (va + ((((vd &&& (2147483647 : Int32)) % (((vc &&& (1073741823 : Int32)) + (2 : Int32)) - (1 : Int32))) + (1 : Int32)) * vb)))]))
  refine own_Fin.go (fun t k => XS.iloadN X5.here hx rfl (hb hby at_70) rfl k) ?_
  show own_Fin _ _ _ _ _ _ _ (T5.setTop (mkF m 71 #[.val (.int va), .val (.int vb), .val (.int vc), .val (.int vd), .val (.int ((vc &&& (1073741823 : Int32)) + (2 : Int32))), .val (.int ((vd &&& (2147483647 : Int32)) % (((vc &&& (1073741823 : Int32)) + (2 : Int32)) - (1 : Int32)))), .val (.ref b1), .val (.int (va + ((0 : Int32) * vb))), .val (.int (va + (((vd &&& (2147483647 : Int32)) % (((vc &&& (1073741823 : Int32)) + (2 : Int32)) - (1 : Int32))) * vb))), .val (.int (va + ((((vd &&& (2147483647 : Int32)) % (((vc &&& (1073741823 : Int32)) + (2 : Int32)) - (1 : Int32))) + (1 : Int32)) * vb)))] [(.int vb), (.int (va + (((vd &&& (2147483647 : Int32)) % (((vc &&& (1073741823 : Int32)) + (2 : Int32)) - (1 : Int32))) * vb))), (.int (va + ((((vd &&& (2147483647 : Int32)) % (((vc &&& (1073741823 : Int32)) + (2 : Int32)) - (1 : Int32))) + (1 : Int32)) * vb)))]))
  refine own_Fin.go (fun t k => XS.iadd X5.here hx rfl (hb hby at_71) rfl k) ?_
  show own_Fin _ _ _ _ _ _ _ (T5.setTop (mkF m 72 #[.val (.int va), .val (.int vb), .val (.int vc), .val (.int vd), .val (.int ((vc &&& (1073741823 : Int32)) + (2 : Int32))), .val (.int ((vd &&& (2147483647 : Int32)) % (((vc &&& (1073741823 : Int32)) + (2 : Int32)) - (1 : Int32)))), .val (.ref b1), .val (.int (va + ((0 : Int32) * vb))), .val (.int (va + (((vd &&& (2147483647 : Int32)) % (((vc &&& (1073741823 : Int32)) + (2 : Int32)) - (1 : Int32))) * vb))), .val (.int (va + ((((vd &&& (2147483647 : Int32)) % (((vc &&& (1073741823 : Int32)) + (2 : Int32)) - (1 : Int32))) + (1 : Int32)) * vb)))] [(.int ((va + (((vd &&& (2147483647 : Int32)) % (((vc &&& (1073741823 : Int32)) + (2 : Int32)) - (1 : Int32))) * vb)) + vb)), (.int (va + ((((vd &&& (2147483647 : Int32)) % (((vc &&& (1073741823 : Int32)) + (2 : Int32)) - (1 : Int32))) + (1 : Int32)) * vb)))]))
  have hc72 : (va + ((((vd &&& (2147483647 : Int32)) % (((vc &&& (1073741823 : Int32)) + (2 : Int32)) - (1 : Int32))) + (1 : Int32)) * vb)) = ((va + (((vd &&& (2147483647 : Int32)) % (((vc &&& (1073741823 : Int32)) + (2 : Int32)) - (1 : Int32))) * vb)) + vb) := own_next _ _ _
  refine own_Fin.go (fun t k => XS.icmpNo X5.here hx rfl (hb hby at_72) rfl (Jvm.Free.XT.ii_ne_f hc72) k) ?_
  show own_Fin _ _ _ _ _ _ _ (T5.setTop (mkF m 75 #[.val (.int va), .val (.int vb), .val (.int vc), .val (.int vd), .val (.int ((vc &&& (1073741823 : Int32)) + (2 : Int32))), .val (.int ((vd &&& (2147483647 : Int32)) % (((vc &&& (1073741823 : Int32)) + (2 : Int32)) - (1 : Int32)))), .val (.ref b1), .val (.int (va + ((0 : Int32) * vb))), .val (.int (va + (((vd &&& (2147483647 : Int32)) % (((vc &&& (1073741823 : Int32)) + (2 : Int32)) - (1 : Int32))) * vb))), .val (.int (va + ((((vd &&& (2147483647 : Int32)) % (((vc &&& (1073741823 : Int32)) + (2 : Int32)) - (1 : Int32))) + (1 : Int32)) * vb)))] []))
  refine own_Fin.go (fun t k => XS.iconst X5.here hx rfl (hb hby at_75) k) ?_
  show own_Fin _ _ _ _ _ _ _ (T5.setTop (mkF m 76 #[.val (.int va), .val (.int vb), .val (.int vc), .val (.int vd), .val (.int ((vc &&& (1073741823 : Int32)) + (2 : Int32))), .val (.int ((vd &&& (2147483647 : Int32)) % (((vc &&& (1073741823 : Int32)) + (2 : Int32)) - (1 : Int32)))), .val (.ref b1), .val (.int (va + ((0 : Int32) * vb))), .val (.int (va + (((vd &&& (2147483647 : Int32)) % (((vc &&& (1073741823 : Int32)) + (2 : Int32)) - (1 : Int32))) * vb))), .val (.int (va + ((((vd &&& (2147483647 : Int32)) % (((vc &&& (1073741823 : Int32)) + (2 : Int32)) - (1 : Int32))) + (1 : Int32)) * vb)))] [(.int (1 : Int32))]))
  refine own_Fin.go (fun t k => XS.goto X5.here hx rfl (pc0 := 76) (pc' := 80) rfl (hb hby at_76) (by decide) (by decide) k) ?_
  show own_Fin _ _ _ _ _ _ _ (T5.setTop (mkF m 80 #[.val (.int va), .val (.int vb), .val (.int vc), .val (.int vd), .val (.int ((vc &&& (1073741823 : Int32)) + (2 : Int32))), .val (.int ((vd &&& (2147483647 : Int32)) % (((vc &&& (1073741823 : Int32)) + (2 : Int32)) - (1 : Int32)))), .val (.ref b1), .val (.int (va + ((0 : Int32) * vb))), .val (.int (va + (((vd &&& (2147483647 : Int32)) % (((vc &&& (1073741823 : Int32)) + (2 : Int32)) - (1 : Int32))) * vb))), .val (.int (va + ((((vd &&& (2147483647 : Int32)) % (((vc &&& (1073741823 : Int32)) + (2 : Int32)) - (1 : Int32))) + (1 : Int32)) * vb)))] [(.int (1 : Int32))]))
  refine own_retN X5 hx (t := .boolean) (w := (1 : Int32)) Bd.returns (by simp) (hb hby at_80) Bd.notSynchronized rfl (by decide) (by decide) ?_
  rw [e5]
  exact ⟨rfl, N5⟩
set_option maxRecDepth 65536 in
set_option maxHeartbeats 40000000 in
theorem comes_1 {Post : Tables → Env → Array Value → State → Outcome → State → Prop} (hpost : ∀ tb e args s v u, (limb_1_1.after args s (.returned v) u = true ∧ limb_1_2.after args s (.returned v) u = true ∧ True) → FrameEnd s (.returned v) u (Jvm.fieldLocs frame_1_writes args s ++ Jvm.arrayLocs frame_1_arrays args s ++ Jvm.staticLocs frame_1_statics s) 16 128 → Post tb e args s (.returned v) u) :
    ArmFor flags0 classFile x code maxLocals ret World_1 tables_1 room_1 Calls_1 rest_1 Pre_1 Post := by
  intro l hfl _ _ p e ha hc hk s m args below hf hA hF happ hP
  obtain ⟨hcalls, hrest, hpre⟩ := hP
  obtain ⟨-, -, -, hnamed, -, -, -, hat⟩ := (Spec.applies_iff hf).mp happ
  obtain ⟨hg, hn⟩ := and_e (Cond.before_iff.mp (show (Jvm.Cond.and given_1 narrow_1).before args s = true from hpre))
  obtain ⟨hg0, hr0⟩ := and_e hg
  obtain ⟨hg1, hr1⟩ := and_e hr0
  obtain ⟨hg2, hr2⟩ := and_e hr1
  obtain ⟨hg3, hr3⟩ := and_e hr2
  obtain ⟨w0, w1, w2, w3, rfl⟩ : ∃ w0 w1 w2 w3 : Value, args = #[w0, w1, w2, w3] := by
    have hs : args.size = 4 := by simpa [Cond.value, given_1] using hg0
    obtain ⟨L⟩ := args
    match L, hs with
    | [w0, w1, w2, w3], _ => exact ⟨w0, w1, w2, w3, rfl⟩
  have hw := fun d (hd : d ∈ tables_1) => atoms_spec (ws := Jvm.Cond.code x code maxLocals ret :: tables_1) hat d (List.mem_cons_of_mem _ hd)
  have hfit : Fit s := fun {y c} hc i hi => by
    obtain ⟨ha, rfl⟩ := Array.getElem?_eq_some_iff.mp hc
    have q := List.all_eq_true.mp ((Array.all_eq_true_iff_forall_mem.mp hF) _ (Array.getElem_mem ha)) i (List.mem_range.mpr hi)
    simpa [Array.getElem?_eq_getElem hi] using q
  obtain ⟨i0, ei0⟩ := is_v hg1
  obtain rfl : w0 = (.int i0) := Option.some.inj ei0
  obtain ⟨i1, ei1⟩ := is_v hg2
  obtain rfl : w1 = (.int i1) := Option.some.inj ei1
  obtain ⟨i2, ei2⟩ := is_v hg3
  obtain rfl : w2 = (.int i2) := Option.some.inj ei2
  obtain ⟨i3, ei3⟩ := is_v hr3
  obtain rfl : w3 = (.int i3) := Option.some.inj ei3
  obtain ⟨n, o, h1, h2, h3, _, L, rfl, ⟨rfl, N⟩, hq⟩ := own_rm_law l s _ hw tables_1 i0 i1 i2 i3  s.heap s.heap.size (Nat.le_refl _)  p e ha hc hk s m _ below hf ((Spec.applies_iff_loose hf).mp happ).1 ⟨rfl, State.Warmed39.refl s, rfl⟩ trivial
  refine ⟨n, _, h1, h2, h3, hpost _ _ _ _ _ _ ⟨Cond.after_iff.mpr rfl, Cond.after_iff.mpr (eq_i res_at (Term.int_eval (1)) rfl), trivial⟩ ⟨hq.1, hq.2.1, (hq.2.2.sift fun y hy => Or.inr (N y hy)).mono (by decide) (by decide)⟩⟩
theorem main_1_1 : Claimed_1_1 := comes_1 fun _ _ _ _ _ _ h hF => ⟨h.1, hF⟩
theorem main_1_2 : Claimed_1_2 := comes_1 fun _ _ _ _ _ _ h hF => ⟨h.2.1, hF⟩
end Jvm.Pilot.@@N@@
namespace Jvm.Pilot.@@N@@
open Jvm Jvm.ClassFile Sem Op Lib Jvm.Free Jvm.Stand Jvm.Pilot.@@N@@.Jvm.D
/-! MADE BY PROGRAM (witnessworld.py) out of the Statement's table words and the real class files: 10 classes; the members and pool entries that the words name. The judged class is class 1, her method 1. -/
namespace start1
open Jvm.ClassFile
def u (s : String) : CpInfo := .utf8 (stringToUtf16 s)
/-- a pool by its gaps: so many unusable entries, then the entry; so many at the end -/
def gap : Nat → List CpInfo → List CpInfo
  | 0, r => r
  | n + 1, r => .unusable :: gap n r
def poolList (es : List (Nat × CpInfo)) (last : Nat) : List CpInfo := es.foldr (fun e r => gap e.1 (e.2 :: r)) (gap last [])
def pool (es : List (Nat × CpInfo)) (last : Nat) : Array CpInfo := ⟨poolList es last⟩
def fileOf (pool : Array CpInfo) (this : Nat) (attrs : Array Attribute := #[]) (ms : Array MethodInfo := #[]) (fl : Nat := 33) (sup : Nat := 0) (ifs : Array Nat := #[]) (fds : Array FieldInfo := #[]) : ClassFile where
  minorVersion := 0
  majorVersion := 65
  constantPool := pool
  accessFlags := fl
  thisClass := this
  superClass := sup
  interfaces := ifs
  fields := fds
  methods := ms
  attributes := attrs
def plain (name : String) (sup : Option ClassId) : Class where
  name := name
  kind := .ordinary
  loader := none
  accessFlags := 33
  super := sup
  interfaces := #[]
  cf := none
  fields := #[]
  methods := #[]
  instanceTypes := #[]
  staticTypes := #[]
  resolved := #[]
  callSites := []
  init := .initialized
  statics := none
  mirror := none

def pool0 : Array CpInfo := pool [(5, u "<init>"), (0, u "()V"), (1, .class_ 10), (1, u "java/lang/Object")] 113

def k0c0 : Code := { maxStack := 0, maxLocals := 1, code := object_method_1_code, exceptionTable := #[], attributes := #[] }
def k0m0 : Method := { name := "<init>", desc := "()V", sig := { parameters := [], returnType := none }, accessFlags := 1, code := some k0c0 }
/-- java/lang/Object -/
def k0 : Class := { plain "java/lang/Object" none with
  accessFlags := 33
  interfaces := #[]
  cf := some (fileOf pool0 8 #[] #[{ accessFlags := 1, nameIndex := 5, descriptorIndex := 6, attributes := #[] }] 33 0 #[] #[])
  fields := #[]
  methods := #[k0m0]
  instanceTypes := #[]
  staticTypes := #[]
  resolved := Array.replicate 124 none
  statics := none }

def pool1 : Array CpInfo := pool [(2, .class_ 4), (1, u "java/lang/Object"), (0, u "<init>"), (0, u "()V"), (0, .integer 1073741823), (0, .integer 2147483647), (0, .class_ 10), (0, u "com/example/crisp_calls/crispcalls/function/Indexes$Stride"), (0, .methodref 9 12), (0, .nameAndType 5 13), (0, u "(III)V"), (0, .methodref 9 15), (0, .nameAndType 16 17), (0, u "index"), (0, u "(I)I"), (0, .class_ 19), (0, u "com/example/crisp_calls/crispcalls/function/StrideIndexPinLaw"), (2, u "law"), (0, u "(IIII)Z")] 7

def k1m0 : Method := { name := "<init>", desc := "()V", sig := { parameters := [], returnType := none }, accessFlags := 2, code := none }
def k1c1 : Code := { maxStack := 5, maxLocals := 10, code := code, exceptionTable := #[], attributes := #[] }
def k1m1 : Method := { name := "law", desc := "(IIII)Z", sig := { parameters := [.int, .int, .int, .int], returnType := some .boolean }, accessFlags := 9, code := some k1c1 }
/-- com/example/crisp_calls/crispcalls/function/StrideIndexPinLaw -/
def k1 : Class := { plain "com/example/crisp_calls/crispcalls/function/StrideIndexPinLaw" (some 0) with
  accessFlags := 49
  interfaces := #[]
  cf := some (fileOf pool1 18 #[] #[{ accessFlags := 2, nameIndex := 5, descriptorIndex := 6, attributes := #[] }, { accessFlags := 9, nameIndex := 22, descriptorIndex := 23, attributes := #[] }] 49 2 #[] #[])
  fields := #[]
  methods := #[k1m0, k1m1]
  instanceTypes := #[]
  staticTypes := #[]
  resolved := Array.replicate 31 none
  statics := none }

def pool2 : Array CpInfo := pool [(1, .methodref 2 3), (0, .class_ 4), (0, .nameAndType 5 6), (0, u "java/lang/Object"), (0, u "<init>"), (0, u "()V"), (0, .class_ 8), (0, u "java/lang/Record")] 13

def k2c0 : Code := { maxStack := 1, maxLocals := 1, code := jdk_30_method_1_code, exceptionTable := #[], attributes := #[] }
def k2m0 : Method := { name := "<init>", desc := "()V", sig := { parameters := [], returnType := none }, accessFlags := 4, code := some k2c0 }
/-- java/lang/Record -/
def k2 : Class := { plain "java/lang/Record" (some 0) with
  accessFlags := 1057
  interfaces := #[]
  cf := some (fileOf pool2 7 #[] #[{ accessFlags := 4, nameIndex := 5, descriptorIndex := 6, attributes := #[] }] 1057 2 #[] #[])
  fields := #[]
  methods := #[k2m0]
  instanceTypes := #[]
  staticTypes := #[]
  resolved := Array.replicate 22 none
  statics := none }

def pool3 : Array CpInfo := pool [(1, .methodref 2 3), (0, .class_ 4), (0, .nameAndType 5 6), (0, u "java/lang/Record"), (0, u "<init>"), (0, u "()V"), (0, .fieldref 8 9), (0, .class_ 10), (0, .nameAndType 11 12), (0, u "com/example/crisp_calls/crispcalls/function/Indexes$Stride"), (0, u "start"), (0, u "I"), (0, .fieldref 8 14), (0, .nameAndType 15 12), (0, u "step"), (0, .fieldref 8 17), (0, .nameAndType 18 12), (0, u "count"), (12, u "(III)V"), (3, u "index"), (0, u "(I)I"), (6, .class_ 44), (0, u "com/example/crisp_calls/crispcalls/function/Indexes")] 21

def k3c0 : Code := { maxStack := 2, maxLocals := 4, code := prog_6_method_1_code, exceptionTable := #[], attributes := #[] }
def k3m0 : Method := { name := "<init>", desc := "(III)V", sig := { parameters := [.int, .int, .int], returnType := none }, accessFlags := 1, code := some k3c0 }
def k3c1 : Code := { maxStack := 3, maxLocals := 2, code := prog_6_method_2_code, exceptionTable := #[], attributes := #[] }
def k3m1 : Method := { name := "index", desc := "(I)I", sig := { parameters := [.int], returnType := some .int }, accessFlags := 1, code := some k3c1 }
/-- com/example/crisp_calls/crispcalls/function/Indexes$Stride -/
def k3 : Class := { plain "com/example/crisp_calls/crispcalls/function/Indexes$Stride" (some 2) with
  accessFlags := 49
  interfaces := #[]
  cf := some (fileOf pool3 8 #[.nestHost 43] #[{ accessFlags := 1, nameIndex := 5, descriptorIndex := 31, attributes := #[] }, { accessFlags := 1, nameIndex := 35, descriptorIndex := 36, attributes := #[] }] 49 2 #[] #[{ accessFlags := 18, nameIndex := 11, descriptorIndex := 12, attributes := #[] }, { accessFlags := 18, nameIndex := 15, descriptorIndex := 12, attributes := #[] }, { accessFlags := 18, nameIndex := 18, descriptorIndex := 12, attributes := #[] }])
  fields := #[{ name := "start", type := .int, accessFlags := 18, slot := 0, constantValue := 0 }, { name := "step", type := .int, accessFlags := 18, slot := 1, constantValue := 0 }, { name := "count", type := .int, accessFlags := 18, slot := 2, constantValue := 0 }]
  methods := #[k3m0, k3m1]
  instanceTypes := #[.int, .int, .int]
  staticTypes := #[]
  resolved := Array.replicate 66 none
  statics := none }

def pool4 : Array CpInfo := pool [(1, u "java/lang/Cloneable"), (0, .class_ 1), (0, u "java/lang/Object"), (0, .class_ 3)] 3

/-- java/lang/Cloneable -/
def k4 : Class := { plain "java/lang/Cloneable" (some 0) with
  accessFlags := 1537
  interfaces := #[]
  cf := some (fileOf pool4 2 #[] #[] 1537 4 #[] #[])
  fields := #[]
  methods := #[]
  instanceTypes := #[]
  staticTypes := #[]
  resolved := Array.replicate 8 none
  statics := none }

def pool5 : Array CpInfo := pool [(1, u "java/io/Serializable"), (0, .class_ 1), (0, u "java/lang/Object"), (0, .class_ 3)] 3

/-- java/io/Serializable -/
def k5 : Class := { plain "java/io/Serializable" (some 0) with
  accessFlags := 1537
  interfaces := #[]
  cf := some (fileOf pool5 2 #[] #[] 1537 4 #[] #[])
  fields := #[]
  methods := #[]
  instanceTypes := #[]
  staticTypes := #[]
  resolved := Array.replicate 8 none
  statics := none }

/-- the primitive byte -/
def k6 : Class := { plain "byte" none with kind := .primitive 'B', accessFlags := 0x411 }
/-- [B -/
def k7 : Class := { plain "[B" (some 0) with kind := .array 6 .byte, interfaces := #[4, 5], accessFlags := 1041 }

/-- the primitive int -/
def k8 : Class := { plain "int" none with kind := .primitive 'I', accessFlags := 0x411 }
/-- [I -/
def k9 : Class := { plain "[I" (some 0) with kind := .array 8 .int, interfaces := #[4, 5], accessFlags := 1041 }

def heap : Heap := #[]
def classes : Array Class := #[k0, k1, k2, k3, k4, k5, k6, k7, k8, k9]
def interned : List (Array UInt16 × Addr) := []
def slotsUsed : Nat := 0
def theMethod : MethodId := ⟨1, 1⟩
def args0 : Array Value := #[.int 5, .int 300, .int 7, .int 9]
def aboutOver (below : List Frame) : State where
  vm := { classes := classes, interned := interned.toArray }
  heap := heap
  slotsUsed := slotsUsed
  threads := #[{ frames := .invoking theMethod args0 :: below }]
def below0 : List Frame := [.native { method := ⟨0, 0⟩, args := #[] }]
def about1 : State := aboutOver below0
def p0 : Program := .bare "" "" ""
def e0 : Env := launch0.env 0 0 0
theorem w_frames : about1.frames = Frame.invoking theMethod args0 :: below0 := rfl
set_option maxRecDepth 65536 in
theorem w_args : argsFit about1.vm theMethod args0 = true := by decide +kernel
set_option maxRecDepth 65536 in
theorem w_heap : heapFits about1 = true := by decide +kernel
set_option maxRecDepth 65536 in
theorem w_runnable : about1.curStatus? = some .runnable := by decide +kernel
set_option maxRecDepth 65536 in
theorem w_alone : about1.alone = true := by decide +kernel
set_option maxRecDepth 65536 in
theorem w_named : about1.methodNamed? x = some theMethod := by decide +kernel
set_option maxRecDepth 65536 in
theorem w_hears : about1.hears theMethod below0 = true := by decide +kernel
set_option maxRecDepth 65536 in
theorem w_ripe : about1.ripe theMethod args0 below0 = true := by decide +kernel
theorem w_running : about1.status = .running := rfl
set_option maxRecDepth 65536 in
theorem w_room : about1.hasRoom e0.platform room_1 = true :=
  launch0.hasRoom_least _ room_1 (by decide +kernel) (by decide +kernel) (by decide +kernel) (by decide +kernel) (by decide +kernel) (by decide +kernel)
theorem allAtoms_all (ts : List Jvm.Cond) (a : Array Jvm.Value) (st : Jvm.State) : (allAtoms ts).before a st = ts.all (fun c => c.before a st) := by
  induction ts with
  | nil => rfl
  | cons c t ih =>
    show (Jvm.Cond.and c (allAtoms t)).before a st = _
    rw [Jvm.Cond.before_and, ih, List.all_cons]
def words1 : List Jvm.Cond := Jvm.Cond.code x code maxLocals ret :: tables_1
/-- a 'code' word, met by the world's own term for the bytes: nothing is compared byte by byte -/
theorem code_word {y : MethodName} {bytes : ByteArray} {mx : Nat} {rt : Option FieldType} {a : Array Value} {s : State} {m : MethodId} {meth : Method} {c : Code} (h1 : s.methodNamed? y = some m) (h2 : s.vm.method? m = some meth) (h3 : meth.code = some c) (h4 : c.code = bytes)
    (h5 : (c.maxLocals == mx && c.exceptionTable.isEmpty && decide (c.maxStack ≤ mostOperands) && decide (meth.sig.returnType = rt) && !meth.locks && decide (parseMethodDescriptor y.desc = some meth.sig)) = true) : (Jvm.Cond.code y bytes mx rt).before a s = true := by
  simp only [Bool.and_eq_true, beq_iff_eq, Bool.not_eq_true', decide_eq_true_eq] at h5
  obtain ⟨⟨⟨⟨⟨g1, g2⟩, g3⟩, g4⟩, g5⟩, g6⟩ := h5
  simp [Cond.before, Cond.holds, Cond.value, h1, h2, h3, h4, g1, g2, g3, g4, g5, g6]
def isCode : Jvm.Cond → Bool
  | .code _ _ _ _ => true
  | _ => false
theorem all_split {L : List Jvm.Cond} {P : Jvm.Cond → Bool} (h1 : L.all (fun c => isCode c || P c) = true) (h2 : ∀ c ∈ L.filter isCode, P c = true) : L.all P = true := by
  refine List.all_eq_true.mpr fun c hc => ?_
  have h := List.all_eq_true.mp h1 c hc
  rcases Bool.eq_false_or_eq_true (isCode c) with hi | hi
  · exact h2 c (List.mem_filter.mpr ⟨hc, hi⟩)
  · simpa [hi] using h
set_option maxRecDepth 65536 in
theorem w_c0 : (Jvm.Cond.code x code maxLocals ret).before args0 about1 = true := code_word (m := ⟨1, 1⟩) (meth := k1m1) (c := k1c1) (by decide +kernel) rfl rfl rfl (by decide +kernel)
set_option maxRecDepth 65536 in
theorem w_c1 : (Jvm.Cond.code ({ cls := "com/example/crisp_calls/crispcalls/function/Indexes$Stride", name := "<init>", desc := "(III)V" } : Jvm.MethodName) prog_6_method_1_code (4 : Nat) (Option.none : Option Jvm.ClassFile.FieldType)).before args0 about1 = true := code_word (m := ⟨3, 0⟩) (meth := k3m0) (c := k3c0) (by decide +kernel) rfl rfl rfl (by decide +kernel)
set_option maxRecDepth 65536 in
theorem w_c2 : (Jvm.Cond.code ({ cls := "java/lang/Record", name := "<init>", desc := "()V" } : Jvm.MethodName) jdk_30_method_1_code (1 : Nat) (Option.none : Option Jvm.ClassFile.FieldType)).before args0 about1 = true := code_word (m := ⟨2, 0⟩) (meth := k2m0) (c := k2c0) (by decide +kernel) rfl rfl rfl (by decide +kernel)
set_option maxRecDepth 65536 in
theorem w_c3 : (Jvm.Cond.code ({ cls := "java/lang/Object", name := "<init>", desc := "()V" } : Jvm.MethodName) object_method_1_code (1 : Nat) (Option.none : Option Jvm.ClassFile.FieldType)).before args0 about1 = true := code_word (m := ⟨0, 0⟩) (meth := k0m0) (c := k0c0) (by decide +kernel) rfl rfl rfl (by decide +kernel)
set_option maxRecDepth 65536 in
theorem w_c4 : (Jvm.Cond.code ({ cls := "com/example/crisp_calls/crispcalls/function/Indexes$Stride", name := "index", desc := "(I)I" } : Jvm.MethodName) prog_6_method_2_code (2 : Nat) (Option.some Jvm.ClassFile.FieldType.int)).before args0 about1 = true := code_word (m := ⟨3, 1⟩) (meth := k3m1) (c := k3c1) (by decide +kernel) rfl rfl rfl (by decide +kernel)
def codes1 : List Jvm.Cond := [Jvm.Cond.code x code maxLocals ret, Jvm.Cond.code ({ cls := "com/example/crisp_calls/crispcalls/function/Indexes$Stride", name := "<init>", desc := "(III)V" } : Jvm.MethodName) prog_6_method_1_code (4 : Nat) (Option.none : Option Jvm.ClassFile.FieldType), Jvm.Cond.code ({ cls := "java/lang/Record", name := "<init>", desc := "()V" } : Jvm.MethodName) jdk_30_method_1_code (1 : Nat) (Option.none : Option Jvm.ClassFile.FieldType), Jvm.Cond.code ({ cls := "java/lang/Object", name := "<init>", desc := "()V" } : Jvm.MethodName) object_method_1_code (1 : Nat) (Option.none : Option Jvm.ClassFile.FieldType), Jvm.Cond.code ({ cls := "com/example/crisp_calls/crispcalls/function/Indexes$Stride", name := "index", desc := "(I)I" } : Jvm.MethodName) prog_6_method_2_code (2 : Nat) (Option.some Jvm.ClassFile.FieldType.int)]
set_option maxRecDepth 65536 in
theorem codes_eq : words1.filter isCode = codes1 := rfl
theorem w_codes : ∀ c ∈ words1.filter isCode, c.before args0 about1 = true := by
  rw [codes_eq]
  intro c hc
  simp only [codes1, List.mem_cons, List.not_mem_nil, or_false] at hc
  rcases hc with rfl | rfl | rfl | rfl | rfl
  · exact w_c0
  · exact w_c1
  · exact w_c2
  · exact w_c3
  · exact w_c4
set_option maxRecDepth 65536 in
theorem w_t1 : (words1.take 24).all (fun c => isCode c || c.before args0 about1) = true := by decide +kernel
set_option maxRecDepth 65536 in
theorem w_t2 : (words1.drop 24).all (fun c => isCode c || c.before args0 about1) = true := by decide +kernel
theorem w_tables : (allAtoms (Jvm.Cond.code x code maxLocals ret :: tables_1)).before args0 about1 = true := by
  rw [allAtoms_all]
  show words1.all (fun c => c.before args0 about1) = true
  refine all_split ?_ w_codes
  rw [← List.take_append_drop 24 words1, List.all_append, w_t1, w_t2]
  rfl
set_option maxRecDepth 65536 in
theorem w_case : (Jvm.Cond.and given_1 narrow_1).before args0 about1 = true := by decide +kernel
theorem w_applies : (headSpec (Jvm.Cond.code x code maxLocals ret :: tables_1) room_1).applies x e0.platform about1 = true :=
  (Spec.applies_iff w_frames).mpr ⟨w_running, w_runnable, w_alone, w_named, w_hears, w_ripe, w_room, w_tables⟩
theorem atStart : AtStart classFile x code maxLocals ret World_1 tables_1 room_1 Calls_1 rest_1 Pre_1 launch0 p0 e0 about1 theMethod args0 below0 :=
  ⟨lists_1, trivial, launch0.admits_env _ _ _, launch0.least_env, fairChoices_fair.cas, fairChoices_fair.clock, w_frames, w_args, w_heap, w_applies, trivial, trivial, w_case⟩
end start1
theorem witness_1 : WitnessClaimed_1 := ⟨start1.p0, start1.e0, start1.about1, start1.theMethod, start1.args0, start1.below0, start1.atStart⟩
end Jvm.Pilot.@@N@@
