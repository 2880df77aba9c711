import JvmDerived
import JvmDerived.Pilot.@@N@@Statement
import JvmDerived.Pilot.@@N@@Code
set_option linter.unusedVariables false
set_option linter.unusedSimpArgs false
namespace Jvm.RoadKit
open Sem ClassFile Op Lib Jvm.Stand Jvm.Free Jvm.LawKit
section New
variable {p : Program} {l : Launch} {e : Env} {R : Room} {s : State} {m : MethodId} {args : Array Value} {below : List Frame} {meth : Method} {c : Code} {T : State} {locs : List Loc} {cells slots : Nat}
theorem retI (X : Stand p l e R s m args below meth c T locs cells slots) (hx : p.tables.exec = Jvm.exec) {pc : Nat} {Ls : Array Slot} {z : Int32} {rest : List Value} (hret : meth.sig.returnType = some .int) (hd : decode c.code pc = .ok (.ireturn, 1)) {fs : List Frame}
    (hl : ∀ (f : JFrame) (acts : List Action), f.method = m → f.locked = none → f.entered = [] → (doReturn e (T.setTop f) acts (some (.int z))).1 = T.setFrames fs) : Steps p.tables e below (T.setTop (mkF m pc Ls (.int z :: rest))) (T.setFrames fs) := by
  have hm' : T.vm.method? m = some meth := X.method'
  have hn : narrow .int (.int z) = .int z := rfl
  show Steps p.tables e below (T.setTop { method := m, pc := pc, locals := Ls, stack := _ :: rest, locked := none }) _
  jvm_step X.here [X.here.top, hx, hd, hm', hret, hn]
  first | (intro acts; rw [hl _ acts rfl rfl rfl]) | rw [hl _ _ rfl rfl rfl]
  exact Steps.refl _
end New
end Jvm.RoadKit
namespace Jvm.Pilot.@@N@@
open Jvm Jvm.ClassFile Sem Op Lib Jvm.Free Jvm.Stand Jvm.LawKit Jvm.RoadKit Bundle Jvm.Pilot.@@N@@.Jvm.D
/-! The walk in a goal-driven form: own_Fin says that the run from A comes to an end at which Q holds, within the frame. -/
def own_Fin (p : Program) (e : Env) (below : List Frame) (s : State) (Q : Option Value → Heap → List Loc → Prop) (kc ks : Nat) (A : State) : Prop :=
  ∃ s₂ o, Steps p.tables e below A s₂ ∧ s₂.status = .running ∧ Ended s₂ below o ∧ ∃ v L, o = .returned v ∧ Q v s₂.heap L ∧ FrameEnd s o s₂ L kc ks
theorem own_Fin.go {p : Program} {e : Env} {below : List Frame} {s : State} {Q : Option Value → Heap → List Loc → Prop} {kc ks : Nat} {A B : State} (st : ∀ t, Steps p.tables e below B t → Steps p.tables e below A t) (h : own_Fin p e below s Q kc ks B) : own_Fin p e below s Q kc ks A := by
  obtain ⟨s₂, o, h1, h2⟩ := h
  exact ⟨s₂, o, st _ h1, h2⟩
section OwnRet
variable {p : Program} {l : Launch} {e : Env} {R : Room} {s : State} {m : MethodId} {args : Array Value} {below : List Frame} {meth : Method} {c : Code} {T : State} {locs : List Loc} {cells slots : Nat} {Q : Option Value → Heap → List Loc → Prop} {kc ks : Nat}
theorem own_end (X : Stand p l e R s m args below meth c T locs cells slots) {v : Option Value} (hv : meth.sig.returnType = none → v = none) (hlocks : meth.locks = false) (hc : cells ≤ kc) (hs : slots ≤ ks) {A : State}
    (h : ∀ fs : List Frame, (∀ (f : JFrame) (acts : List Action), f.method = m → f.locked = none → f.entered = [] → (doReturn e (T.setTop f) acts v).1 = T.setFrames fs) → Steps p.tables e below A (T.setFrames fs)) (hQ : Q v T.heap locs) : own_Fin p e below s Q kc ks A := by
  obtain ⟨fs, hr, hrun, hended, hW, hsame⟩ := X.leave (v := v) hv hlocks
  exact ⟨_, _, h fs hr, hrun, hended, _, _, rfl, hQ, ⟨_, rfl⟩, hW, hsame.mono hc hs⟩
theorem own_retN (X : Stand p l e R s m args below meth c T locs cells slots) (hx : p.tables.exec = Jvm.exec) {pc : Nat} {Ls : Array Slot} {z w : Int32} {t : FieldType} {rest : List Value} (hret : meth.sig.returnType = some t) (ht : t = .boolean ∨ t = .byte ∨ t = .char ∨ t = .short)
    (hd : decode c.code pc = .ok (.ireturn, 1)) (hlocks : meth.locks = false) (hw : nar t z = w) (hc : cells ≤ kc) (hs : slots ≤ ks) (hQ : Q (some (.int w)) T.heap locs) : own_Fin p e below s Q kc ks (T.setTop (mkF m pc Ls (.int z :: rest))) :=
  own_end X (v := some (.int w)) (fun h => by rw [hret] at h; cases h) hlocks hc hs (fun fs hr => retN X hx hret ht hd (by rw [hw]; exact hr)) hQ
theorem own_retI (X : Stand p l e R s m args below meth c T locs cells slots) (hx : p.tables.exec = Jvm.exec) {pc : Nat} {Ls : Array Slot} {z : Int32} {rest : List Value} (hret : meth.sig.returnType = some .int)
    (hd : decode c.code pc = .ok (.ireturn, 1)) (hlocks : meth.locks = false) (hc : cells ≤ kc) (hs : slots ≤ ks) (hQ : Q (some (.int z)) T.heap locs) : own_Fin p e below s Q kc ks (T.setTop (mkF m pc Ls (.int z :: rest))) :=
  own_end X (v := some (.int z)) (fun h => by rw [hret] at h; cases h) hlocks hc hs (fun fs hr => retI X hx hret hd hr) hQ
theorem own_retJ (X : Stand p l e R s m args below meth c T locs cells slots) (hx : p.tables.exec = Jvm.exec) {pc : Nat} {Ls : Array Slot} {z : Int64} (hret : meth.sig.returnType = some .long)
    (hd : decode c.code pc = .ok (.lreturn, 1)) (hlocks : meth.locks = false) (hc : cells ≤ kc) (hs : slots ≤ ks) (hQ : Q (some (.long z)) T.heap locs) : own_Fin p e below s Q kc ks (T.setTop (mkF m pc Ls [.long z])) :=
  own_end X (v := some (.long z)) (fun h => by rw [hret] at h; cases h) hlocks hc hs (fun fs hr => X.lreturnOut hx hret hd hr) hQ
theorem own_retA (X : Stand p l e R s m args below meth c T locs cells slots) (hx : p.tables.exec = Jvm.exec) {pc : Nat} {Ls : Array Slot} {a : Addr} {t : FieldType} {rest : List Value} (hret : meth.sig.returnType = some t) (ht : t.isReference = true)
    (hd : decode c.code pc = .ok (.areturn, 1)) (hlocks : meth.locks = false) (hc : cells ≤ kc) (hs : slots ≤ ks) (hQ : Q (some (.ref a)) T.heap locs) : own_Fin p e below s Q kc ks (T.setTop (mkF m pc Ls (.ref a :: rest))) :=
  own_end X (v := some (.ref a)) (fun h => by rw [hret] at h; cases h) hlocks hc hs (fun fs hr => retOut X hx hret (by cases t <;> first | rfl | (simp [FieldType.isReference] at ht)) (Or.inr (Or.inr (Or.inr (Or.inr ⟨rfl, ht, rfl⟩)))) hd hr) hQ
theorem own_ret0 (X : Stand p l e R s m args below meth c T locs cells slots) (hx : p.tables.exec = Jvm.exec) {pc : Nat} {Ls : Array Slot} (hret : meth.sig.returnType = none)
    (hd : decode c.code pc = .ok (.return_, 1)) (hlocks : meth.locks = false) (hc : cells ≤ kc) (hs : slots ≤ ks) (hQ : Q none T.heap locs) : own_Fin p e below s Q kc ks (T.setTop (mkF m pc Ls [])) :=
  own_end X (v := none) (fun _ => rfl) hlocks hc hs (fun fs hr => X.returnOut hx hret hd hr) hQ
end OwnRet
theorem own_selp {s : State} {args args' : Array Value} {C : String} {y w : MethodName} (hw : (Jvm.Cond.selects C w w).before args s = true) (hcls : w.cls = y.cls) (hpriv : s.PrivateAt y) (hinst : (Jvm.Cond.instanceMethod y).before args s = true) (hy : y.cls ≠ "java/lang/invoke/MethodHandle" ∧ y.cls ≠ "java/lang/invoke/VarHandle") : (Jvm.Cond.selects y.cls y y).before args' s = true := by
  obtain ⟨c2, r2, m2, -, -, q3, -, kP, hkP, hkPi⟩ := Cond.selects_spec hw
  exact selects_self_of_private (by rw [← hcls]; exact findClass_of_methodNamed q3) hkP hkPi hpriv hinst hy
theorem own_drec_0 : decode jdk_30_method_1_code 0 = .ok (.aload_n 0, 1) := by decide +kernel
theorem own_drec_1 : decode jdk_30_method_1_code 1 = .ok (.invokespecial 1, 3) := by decide +kernel
theorem own_drec_4 : decode jdk_30_method_1_code 4 = .ok (.return_, 1) := by decide +kernel
theorem own_pn0 : plainName "java/lang/Record" = true := by first | (simp [plainName, overriddenIn]; done) | decide +kernel
theorem own_ef_rec (m : MethodId) (oa : Addr) : entryFrame m #[(.ref oa)] 1 = mkF m 0 #[.val (.ref oa)] [] := by first | (simp [entryFrame, mkF, argsToLocals, Value.category]; done) | rfl
def own_Q_rec (Z : State) (oa : Addr) (h0 : Heap) (n0 : Nat) (v : Option Value) (h : Heap) (L : List Loc) : Prop := v = none ∧ Fr n0 L ∧ h = h0
set_option maxRecDepth 65536 in
set_option maxHeartbeats 40000000 in
theorem own_rm_rec (l : Launch) (Z : State) (a0 : Array Value) (hw : ∀ d ∈ tables_1, d.before a0 Z = true) (ws : List Jvm.Cond) (oa : Addr) (h0 : Heap) (n0 : Nat) (Z0 : n0 ≤ h0.size) :
    MetFree l (⟨"java/lang/Record", "<init>", "()V"⟩ : MethodName) (head1 (Jvm.Cond.code (⟨"java/lang/Record", "<init>", "()V"⟩ : MethodName) jdk_30_method_1_code 1 none :: ws) ({ frames := 1, cells := 0, slots := 0, locals := 12 } : Room)) (fun a U => a = #[(.ref oa)] ∧ Z.Warmed39 U.vm ∧ U.heap = h0) (fun _ _ _ _ _ => True) (fun _ U o U' => ∃ v L, o = .returned v ∧ own_Q_rec Z oa h0 n0 v U'.heap L ∧ FrameEnd U o U' L ({ frames := 1, cells := 0, slots := 0, locals := 12 } : Room).cells ({ frames := 1, cells := 0, slots := 0, locals := 12 } : Room).slots) := by
  refine MetFree.of_bodySF (plainFor_of_name own_pn0) hisR ?_
  intro p e s m args below meth c s₁ Bd hml0 hP hK
  obtain ⟨rfl, hZ, hh⟩ := hP
  have hx := Bd.exec
  have hby := Bd.bytes
  have hml : c.maxLocals = 1 := hml0
  have hown : s.vm.findClass "java/lang/Record" = some m.cls := findClass_of_methodNamed Bd.named
  have hnm := (name_of_methodNamed Bd.named Bd.method).1
  have X0 : Stand p l e ({ frames := 1, cells := 0, slots := 0, locals := 12 } : Room) s m #[(.ref oa)] below meth c s₁ [] 0 0 := Stand.of_body Bd
  have e0 : s₁.heap = h0 := by rw [← hh, Bd.state]; rfl
  have N0 := Fr.nil n0
  show own_Fin p e below s (own_Q_rec Z oa h0 n0) ({ frames := 1, cells := 0, slots := 0, locals := 12 } : Room).cells ({ frames := 1, cells := 0, slots := 0, locals := 12 } : Room).slots (s₁.setTop (entryFrame m #[(.ref oa)] 1))
  refine own_Fin.go (fun t k => castTop (own_ef_rec m oa) k) ?_
  refine own_Fin.go (fun t k => XS.aloadN X0.here hx rfl (hb hby own_drec_0) rfl rfl k) ?_
  show own_Fin _ _ _ _ _ _ _ (s₁.setTop (mkF m 1 #[.val (.ref oa)] [(.ref oa)]))
  obtain ⟨T1, X1, e1, st1⟩ := initO X0 hx hZ hown (hw _ (List.mem_of_getElem? (i := 11) rfl)) (hw _ (List.mem_of_getElem? (i := 12) rfl)) (hw _ (List.mem_of_getElem? (i := 13) rfl)) e0 (g := (mkF m 1 #[.val (.ref oa)] [(.ref oa)])) rfl (by rw [hml]; rfl) rfl (hb hby own_drec_1) (by decide) (W := 0) (by show 2 * 0 + _ ≤ _; exact Nat.le_of_eq rfl) (by decide)
  refine own_Fin.go st1 ?_
  show own_Fin _ _ _ _ _ _ _ (T1.setTop (mkF m 4 #[.val (.ref oa)] []))
  refine own_ret0 X1 hx Bd.returns (hb hby own_drec_4) Bd.notSynchronized (by decide) (by decide) ?_
  rw [e1]
  exact ⟨rfl, N0, rfl⟩
theorem own_pd0 : parseMethodDescriptor "()V" = some ⟨[], none⟩ := by decide +kernel
theorem own_dini_0 : decode prog_17_method_1_code 0 = .ok (.aload_n 0, 1) := by decide +kernel
theorem own_dini_1 : decode prog_17_method_1_code 1 = .ok (.invokespecial 1, 3) := by decide +kernel
theorem own_dini_4 : decode prog_17_method_1_code 4 = .ok (.aload_n 0, 1) := by decide +kernel
theorem own_dini_5 : decode prog_17_method_1_code 5 = .ok (.lload_n 1, 1) := by decide +kernel
theorem own_dini_6 : decode prog_17_method_1_code 6 = .ok (.putfield 7, 3) := by decide +kernel
theorem own_dini_9 : decode prog_17_method_1_code 9 = .ok (.aload_n 0, 1) := by decide +kernel
theorem own_dini_10 : decode prog_17_method_1_code 10 = .ok (.lload_n 3, 1) := by decide +kernel
theorem own_dini_11 : decode prog_17_method_1_code 11 = .ok (.putfield 13, 3) := by decide +kernel
theorem own_dini_14 : decode prog_17_method_1_code 14 = .ok (.return_, 1) := by decide +kernel
theorem own_pn1 : plainName "com/example/canopy/canopy/namenode/Lease" = true := by first | (simp [plainName, overriddenIn]; done) | decide +kernel
theorem own_ef_ini (m : MethodId) (oa : Addr) (va : Int64) (vb : Int64) : entryFrame m #[(.ref oa), (.long va), (.long vb)] 5 = mkF m 0 #[.val (.ref oa), .val (.long va), .second, .val (.long vb), .second] [] := by first | (simp [entryFrame, mkF, argsToLocals, Value.category]; done) | rfl
def own_Q_ini (Z : State) (oa : Addr) (va : Int64) (vb : Int64) (h0 : Heap) (n0 : Nat) (v : Option Value) (h : Heap) (L : List Loc) : Prop := v = none ∧ Fr n0 L ∧ Keep h0 h [oa] ∧ Exa Z h oa "com/example/canopy/canopy/namenode/Lease" ∧ Fld Z h oa "com/example/canopy/canopy/namenode/Lease" "validUntil" "J" (.long vb)
set_option maxRecDepth 65536 in
set_option maxHeartbeats 40000000 in
theorem own_rm_ini (l : Launch) (Z : State) (a0 : Array Value) (hw : ∀ d ∈ tables_1, d.before a0 Z = true) (ws : List Jvm.Cond) (oa : Addr) (va : Int64) (vb : Int64) (h0 : Heap) (n0 : Nat) (Z0 : n0 ≤ h0.size) (E_oa : Exa Z h0 oa "com/example/canopy/canopy/namenode/Lease") (F_oa_id : Fld Z h0 oa "com/example/canopy/canopy/namenode/Lease" "id" "J" (.long (0 : Int64))) (F_oa_validUntil : Fld Z h0 oa "com/example/canopy/canopy/namenode/Lease" "validUntil" "J" (.long (0 : Int64))) (g_oa : n0 ≤ oa) :
    MetFree l (⟨"com/example/canopy/canopy/namenode/Lease", "<init>", "(JJ)V"⟩ : MethodName) (head1 (Jvm.Cond.code (⟨"com/example/canopy/canopy/namenode/Lease", "<init>", "(JJ)V"⟩ : MethodName) prog_17_method_1_code 5 none :: ws) ({ frames := 2, cells := 0, slots := 0, locals := 24 } : Room)) (fun a U => a = #[(.ref oa), (.long va), (.long vb)] ∧ Z.Warmed39 U.vm ∧ U.heap = h0) (fun _ _ _ _ _ => True) (fun _ U o U' => ∃ v L, o = .returned v ∧ own_Q_ini Z oa va vb h0 n0 v U'.heap L ∧ FrameEnd U o U' L ({ frames := 2, cells := 0, slots := 0, locals := 24 } : Room).cells ({ frames := 2, cells := 0, slots := 0, locals := 24 } : Room).slots) := by
  refine MetFree.of_bodySF (plainFor_of_name own_pn1) hisR ?_
  intro p e s m args below meth c s₁ Bd hml0 hP hK
  obtain ⟨rfl, hZ, hh⟩ := hP
  have hx := Bd.exec
  have hby := Bd.bytes
  have hml : c.maxLocals = 5 := hml0
  have hown : s.vm.findClass "com/example/canopy/canopy/namenode/Lease" = some m.cls := findClass_of_methodNamed Bd.named
  have hnm := (name_of_methodNamed Bd.named Bd.method).1
  have X0 : Stand p l e ({ frames := 2, cells := 0, slots := 0, locals := 24 } : Room) s m #[(.ref oa), (.long va), (.long vb)] below meth c s₁ [] 0 0 := Stand.of_body Bd
  have e0 : s₁.heap = h0 := by rw [← hh, Bd.state]; rfl
  have N0 := Fr.nil n0
  have K0 := Keep.refl h0 [oa]
  show own_Fin p e below s (own_Q_ini Z oa va vb h0 n0) ({ frames := 2, cells := 0, slots := 0, locals := 24 } : Room).cells ({ frames := 2, cells := 0, slots := 0, locals := 24 } : Room).slots (s₁.setTop (entryFrame m #[(.ref oa), (.long va), (.long vb)] 5))
  refine own_Fin.go (fun t k => castTop (own_ef_ini m oa va vb) k) ?_
  refine own_Fin.go (fun t k => XS.aloadN X0.here hx rfl (hb hby own_dini_0) rfl rfl k) ?_
  show own_Fin _ _ _ _ _ _ _ (s₁.setTop (mkF m 1 #[.val (.ref oa), .val (.long va), .second, .val (.long vb), .second] [(.ref oa)]))
  obtain ⟨_, _, ⟨T1, L1, k1, n1⟩, -, X1, ⟨Lc1, hQ1, l1, y1, z1⟩, st1⟩ := X0.specialBack hx (y := (⟨"java/lang/Record", "<init>", "()V"⟩ : MethodName)) rfl hown (mvT hZ (hw _ (List.mem_of_getElem? (i := 6) rfl))) (mvT hZ (hw _ (List.mem_of_getElem? (i := 7) rfl))) (mvT hZ (hw _ (List.mem_of_getElem? (i := 10) rfl))) (by decide) (backOf (W := 0) (own_rm_rec l Z a0 hw [] oa  h0 n0 Z0 ) hZ (hw _ (List.mem_of_getElem? (i := 10) rfl)) (hw _ (List.mem_of_getElem? (i := 9) rfl)) (by decide) (by decide)) (g := (mkF m 1 #[.val (.ref oa), .val (.long va), .second, .val (.long vb), .second] [(.ref oa)])) rfl (by rw [hml]; rfl) (Steps.refl _) (a := oa) (argsL := []) (rest := []) (lenOf own_pd0 rfl) rfl (by show 2 * 0 + _ ≤ _; exact Nat.le_of_eq rfl) (hb hby own_dini_1) (fun _ _ => ⟨rfl, e0, (by decide : 0 + 0 ≤ _), (by decide : 0 + 0 ≤ _)⟩)
  dsimp only [Pt.U, Pt.locs, Pt.cells, Pt.slots] at X1 l1 y1 z1 st1 hQ1
  subst l1 y1 z1
  obtain ⟨rfl, N1q, e1⟩ := hQ1
  refine own_Fin.go (fun t k => st1.trans k) ?_
  have N1 := Fr.app N0 N1q
  show own_Fin _ _ _ _ _ _ _ (T1.setTop (mkF m 4 #[.val (.ref oa), .val (.long va), .second, .val (.long vb), .second] []))
  refine own_Fin.go (fun t k => XS.aloadN X1.here hx rfl (hb hby own_dini_4) rfl rfl k) ?_
  show own_Fin _ _ _ _ _ _ _ (T1.setTop (mkF m 5 #[.val (.ref oa), .val (.long va), .second, .val (.long vb), .second] [(.ref oa)]))
  refine own_Fin.go (fun t k => XS.lloadN X1.here hx rfl (hb hby own_dini_5) rfl k) ?_
  show own_Fin _ _ _ _ _ _ _ (T1.setTop (mkF m 6 #[.val (.ref oa), .val (.long va), .second, .val (.long vb), .second] [(.long va), (.ref oa)]))
  obtain ⟨T2, h2, X2, e2, W2, st2⟩ := putF X1 hx hZ hown (host := "") (Or.inl (hw _ (List.mem_of_getElem? (i := 14) rfl))) Via.refl e1 F_oa_id E_oa (Or.inr ⟨(hw _ (List.mem_of_getElem? (i := 15) rfl)), rfl, hnm⟩) (hw _ (List.mem_of_getElem? (i := 1) rfl)) (ty := .long) (by decide) rfl rfl (g := (mkF m 6 #[.val (.ref oa), .val (.long va), .second, .val (.long vb), .second] [(.long va), (.ref oa)])) rfl rfl (hb hby own_dini_6)
  refine own_Fin.go st2 ?_
  have F_oa_id_2 := Fld.same W2 F_oa_id
  have E_oa_2 := Exa.wr W2 E_oa
  have F_oa_validUntil_2 := Fld.other W2 F_oa_validUntil (Or.inr (slot_ne (Or.inr (hw _ (List.mem_of_getElem? (i := 17) rfl))) (Or.inr (hw _ (List.mem_of_getElem? (i := 15) rfl))) (by decide) (t := .long) (t' := .long) (by decide) (by decide)))
  have Z2 := Nat.le_trans Z0 (Keep.of_wr W2).1
  have K2 := K0.wr W2 (Or.inl (List.mem_of_getElem? (i := 0) rfl))
  have N2 := Fr.snoc X2 N1 g_oa
  show own_Fin _ _ _ _ _ _ _ (T2.setTop (mkF m 9 #[.val (.ref oa), .val (.long va), .second, .val (.long vb), .second] []))
  refine own_Fin.go (fun t k => XS.aloadN X2.here hx rfl (hb hby own_dini_9) rfl rfl k) ?_
  show own_Fin _ _ _ _ _ _ _ (T2.setTop (mkF m 10 #[.val (.ref oa), .val (.long va), .second, .val (.long vb), .second] [(.ref oa)]))
  refine own_Fin.go (fun t k => XS.lloadN X2.here hx rfl (hb hby own_dini_10) rfl k) ?_
  show own_Fin _ _ _ _ _ _ _ (T2.setTop (mkF m 11 #[.val (.ref oa), .val (.long va), .second, .val (.long vb), .second] [(.long vb), (.ref oa)]))
  obtain ⟨T3, h3, X3, e3, W3, st3⟩ := putF X2 hx hZ hown (host := "") (Or.inl (hw _ (List.mem_of_getElem? (i := 16) rfl))) Via.refl e2 F_oa_validUntil_2 E_oa_2 (Or.inr ⟨(hw _ (List.mem_of_getElem? (i := 17) rfl)), rfl, hnm⟩) (hw _ (List.mem_of_getElem? (i := 1) rfl)) (ty := .long) (by decide) rfl rfl (g := (mkF m 11 #[.val (.ref oa), .val (.long va), .second, .val (.long vb), .second] [(.long vb), (.ref oa)])) rfl rfl (hb hby own_dini_11)
  refine own_Fin.go st3 ?_
  have F_oa_validUntil_3 := Fld.same W3 F_oa_validUntil_2
  have E_oa_3 := Exa.wr W3 E_oa_2
  have F_oa_id_3 := Fld.other W3 F_oa_id_2 (Or.inr (slot_ne (Or.inr (hw _ (List.mem_of_getElem? (i := 15) rfl))) (Or.inr (hw _ (List.mem_of_getElem? (i := 17) rfl))) (by decide) (t := .long) (t' := .long) (by decide) (by decide)))
  have Z3 := Nat.le_trans Z2 (Keep.of_wr W3).1
  have K3 := K2.wr W3 (Or.inl (List.mem_of_getElem? (i := 0) rfl))
  have N3 := Fr.snoc X3 N2 g_oa
  show own_Fin _ _ _ _ _ _ _ (T3.setTop (mkF m 14 #[.val (.ref oa), .val (.long va), .second, .val (.long vb), .second] []))
  refine own_ret0 X3 hx Bd.returns (hb hby own_dini_14) Bd.notSynchronized (by decide) (by decide) ?_
  rw [e3]
  exact ⟨rfl, N3, K3, E_oa_3, F_oa_validUntil_3⟩
theorem own_disv_0 : decode prog_17_method_2_code 0 = .ok (.lload_n 1, 1) := by decide +kernel
theorem own_disv_1 : decode prog_17_method_2_code 1 = .ok (.aload_n 0, 1) := by decide +kernel
theorem own_disv_2 : decode prog_17_method_2_code 2 = .ok (.getfield 13, 3) := by decide +kernel
theorem own_disv_5 : decode prog_17_method_2_code 5 = .ok (.lsub, 1) := by decide +kernel
theorem own_disv_6 : decode prog_17_method_2_code 6 = .ok (.lconst 0, 1) := by decide +kernel
theorem own_disv_7 : decode prog_17_method_2_code 7 = .ok (.lcmp, 1) := by decide +kernel
theorem own_disv_8 : decode prog_17_method_2_code 8 = .ok (.ifCond .ge 7, 3) := by decide +kernel
theorem own_disv_11 : decode prog_17_method_2_code 11 = .ok (.iconst 1, 1) := by decide +kernel
theorem own_disv_12 : decode prog_17_method_2_code 12 = .ok (.goto 4, 3) := by decide +kernel
theorem own_disv_15 : decode prog_17_method_2_code 15 = .ok (.iconst 0, 1) := by decide +kernel
theorem own_disv_16 : decode prog_17_method_2_code 16 = .ok (.ireturn, 1) := by decide +kernel
theorem own_ef_isv (m : MethodId) (oa : Addr) (va : Int64) : entryFrame m #[(.ref oa), (.long va)] 3 = mkF m 0 #[.val (.ref oa), .val (.long va), .second] [] := by first | (simp [entryFrame, mkF, argsToLocals, Value.category]; done) | rfl
def own_Q_isv (Z : State) (oa : Addr) (va : Int64) (u : Int64) (h0 : Heap) (n0 : Nat) (v : Option Value) (h : Heap) (L : List Loc) : Prop := v = some (.int (if (va - u) < (0 : Int64) then (1 : Int32) else 0)) ∧ Fr n0 L ∧ h = h0
set_option maxRecDepth 65536 in
set_option maxHeartbeats 40000000 in
theorem own_rm_isv (l : Launch) (Z : State) (a0 : Array Value) (hw : ∀ d ∈ tables_1, d.before a0 Z = true) (ws : List Jvm.Cond) (oa : Addr) (va : Int64) (u : Int64) (h0 : Heap) (n0 : Nat) (Z0 : n0 ≤ h0.size) (F_oa_validUntil : Fld Z h0 oa "com/example/canopy/canopy/namenode/Lease" "validUntil" "J" (.long u)) :
    MetFree l (⟨"com/example/canopy/canopy/namenode/Lease", "isValidAt", "(J)Z"⟩ : MethodName) (head1 (Jvm.Cond.code (⟨"com/example/canopy/canopy/namenode/Lease", "isValidAt", "(J)Z"⟩ : MethodName) prog_17_method_2_code 3 (some .boolean) :: ws) ({ frames := 0, cells := 0, slots := 0, locals := 0 } : Room)) (fun a U => a = #[(.ref oa), (.long va)] ∧ Z.Warmed39 U.vm ∧ U.heap = h0) (fun _ _ _ _ _ => True) (fun _ U o U' => ∃ v L, o = .returned v ∧ own_Q_isv Z oa va u h0 n0 v U'.heap L ∧ FrameEnd U o U' L ({ frames := 0, cells := 0, slots := 0, locals := 0 } : Room).cells ({ frames := 0, cells := 0, slots := 0, locals := 0 } : Room).slots) := by
  refine MetFree.of_bodySF (plainFor_of_name own_pn1) hisR ?_
  intro p e s m args below meth c s₁ Bd hml0 hP hK
  obtain ⟨rfl, hZ, hh⟩ := hP
  have hx := Bd.exec
  have hby := Bd.bytes
  have hml : c.maxLocals = 3 := hml0
  have hown : s.vm.findClass "com/example/canopy/canopy/namenode/Lease" = some m.cls := findClass_of_methodNamed Bd.named
  have hnm := (name_of_methodNamed Bd.named Bd.method).1
  have X0 : Stand p l e ({ frames := 0, cells := 0, slots := 0, locals := 0 } : Room) s m #[(.ref oa), (.long va)] below meth c s₁ [] 0 0 := Stand.of_body Bd
  have e0 : s₁.heap = h0 := by rw [← hh, Bd.state]; rfl
  have N0 := Fr.nil n0
  show own_Fin p e below s (own_Q_isv Z oa va u h0 n0) ({ frames := 0, cells := 0, slots := 0, locals := 0 } : Room).cells ({ frames := 0, cells := 0, slots := 0, locals := 0 } : Room).slots (s₁.setTop (entryFrame m #[(.ref oa), (.long va)] 3))
  refine own_Fin.go (fun t k => castTop (own_ef_isv m oa va) k) ?_
  refine own_Fin.go (fun t k => XS.lloadN X0.here hx rfl (hb hby own_disv_0) rfl k) ?_
  show own_Fin _ _ _ _ _ _ _ (s₁.setTop (mkF m 1 #[.val (.ref oa), .val (.long va), .second] [(.long va)]))
  refine own_Fin.go (fun t k => XS.aloadN X0.here hx rfl (hb hby own_disv_1) rfl rfl k) ?_
  show own_Fin _ _ _ _ _ _ _ (s₁.setTop (mkF m 2 #[.val (.ref oa), .val (.long va), .second] [(.ref oa), (.long va)]))
  obtain ⟨T1, X1, e1, st1⟩ := getF X0 hx hZ hown (host := "") (Or.inl (hw _ (List.mem_of_getElem? (i := 16) rfl))) Via.refl e0 F_oa_validUntil (g := (mkF m 2 #[.val (.ref oa), .val (.long va), .second] [(.ref oa), (.long va)])) rfl rfl (hb hby own_disv_2)
  refine own_Fin.go st1 ?_
  show own_Fin _ _ _ _ _ _ _ (T1.setTop (mkF m 5 #[.val (.ref oa), .val (.long va), .second] [(.long u), (.long va)]))
  refine own_Fin.go (fun t k => XS.lsub X1.here hx rfl (hb hby own_disv_5) rfl k) ?_
  show own_Fin _ _ _ _ _ _ _ (T1.setTop (mkF m 6 #[.val (.ref oa), .val (.long va), .second] [(.long (va - u))]))
  refine own_Fin.go (fun t k => XS.lconst X1.here hx rfl (hb hby own_disv_6) k) ?_
  show own_Fin _ _ _ _ _ _ _ (T1.setTop (mkF m 7 #[.val (.ref oa), .val (.long va), .second] [(.long (0 : Int64)), (.long (va - u))]))
  refine own_Fin.go (fun t k => XS.lcmp X1.here hx rfl (hb hby own_disv_7) rfl k) ?_
  show own_Fin _ _ _ _ _ _ _ (T1.setTop (mkF m 8 #[.val (.ref oa), .val (.long va), .second] [(.int (lcmpW (va - u) (0 : Int64)))]))
  by_cases hc8 : (va - u) < (0 : Int64)
  · refine own_Fin.go (fun t k => XS.ifNo X1.here hx rfl (hb hby own_disv_8) rfl (Jvm.Free.XT.ll_ge_f hc8) k) ?_
    show own_Fin _ _ _ _ _ _ _ (T1.setTop (mkF m 11 #[.val (.ref oa), .val (.long va), .second] []))
    refine own_Fin.go (fun t k => XS.iconst X1.here hx rfl (hb hby own_disv_11) k) ?_
    show own_Fin _ _ _ _ _ _ _ (T1.setTop (mkF m 12 #[.val (.ref oa), .val (.long va), .second] [(.int (1 : Int32))]))
    refine own_Fin.go (fun t k => XS.goto X1.here hx rfl (pc0 := 12) (pc' := 16) rfl (hb hby own_disv_12) (by decide) (by decide) k) ?_
    show own_Fin _ _ _ _ _ _ _ (T1.setTop (mkF m 16 #[.val (.ref oa), .val (.long va), .second] [(.int (1 : Int32))]))
    refine own_retN X1 hx (t := .boolean) (w := (1 : Int32)) Bd.returns (by simp) (hb hby own_disv_16) Bd.notSynchronized rfl (by decide) (by decide) ?_
    rw [e1]
    exact ⟨by first | rw [if_pos hc8] | rw [if_neg hc8], N0, rfl⟩
  · refine own_Fin.go (fun t k => XS.ifYes X1.here hx rfl (pc0 := 8) (pc' := 15) rfl (hb hby own_disv_8) rfl (Jvm.Free.XT.ll_ge_t hc8) (by decide) (by decide) k) ?_
    show own_Fin _ _ _ _ _ _ _ (T1.setTop (mkF m 15 #[.val (.ref oa), .val (.long va), .second] []))
    refine own_Fin.go (fun t k => XS.iconst X1.here hx rfl (hb hby own_disv_15) k) ?_
    show own_Fin _ _ _ _ _ _ _ (T1.setTop (mkF m 16 #[.val (.ref oa), .val (.long va), .second] [(.int (0 : Int32))]))
    refine own_retN X1 hx (t := .boolean) (w := (0 : Int32)) Bd.returns (by simp) (hb hby own_disv_16) Bd.notSynchronized rfl (by decide) (by decide) ?_
    rw [e1]
    exact ⟨by first | rw [if_pos hc8] | rw [if_neg hc8], N0, rfl⟩
theorem own_sub (a b : Int64) : (a + b) - a = b := by rw [Int64.add_comm]; exact Int64.add_sub_cancel b a
theorem own_pd1 : parseMethodDescriptor "(JJ)V" = some ⟨[.long, .long], none⟩ := by decide +kernel
theorem own_pd2 : parseMethodDescriptor "(J)Z" = some ⟨[.long], some .boolean⟩ := by decide +kernel
theorem own_pn2 : plainName "com/example/canopy/canopy/namenode/LeaseIsValidAtPinLaw" = true := by first | (simp [plainName, overriddenIn]; done) | decide +kernel
theorem own_ef_law (m : MethodId) (va : Int64) (vb : Int64) (vc : Int64) : entryFrame m #[(.long va), (.long vb), (.long vc)] maxLocals = mkF m 0 #[.val (.long va), .second, .val (.long vb), .second, .val (.long vc), .second, .unset, .unset, .unset, .unset] [] := by first | (simp [entryFrame, mkF, argsToLocals, Value.category, maxLocals]; done) | rfl
def own_Q_law (Z : State) (va : Int64) (vb : Int64) (vc : Int64) (h0 : Heap) (n0 : Nat) (v : Option Value) (h : Heap) (L : List Loc) : Prop := v = some (.int (1 : Int32)) ∧ Fr n0 L
set_option maxRecDepth 65536 in
set_option maxHeartbeats 40000000 in
theorem own_rm_law (l : Launch) (Z : State) (a0 : Array Value) (hw : ∀ d ∈ tables_1, d.before a0 Z = true) (ws : List Jvm.Cond) (va : Int64) (vb : Int64) (vc : Int64) (h0 : Heap) (n0 : Nat) (Z0 : n0 ≤ h0.size) :
    MetFree l x (head1 (Jvm.Cond.code x code maxLocals ret :: ws) room_1) (fun a U => a = #[(.long va), (.long vb), (.long vc)] ∧ Z.Warmed39 U.vm ∧ U.heap = h0) (fun _ _ _ _ _ => True) (fun _ U o U' => ∃ v L, o = .returned v ∧ own_Q_law Z va vb vc h0 n0 v U'.heap L ∧ FrameEnd U o U' L room_1.cells room_1.slots) := by
  refine MetFree.of_bodySF (plainFor_of_name own_pn2) hisR ?_
  intro p e s m args below meth c s₁ Bd hml0 hP hK
  obtain ⟨rfl, hZ, hh⟩ := hP
  have hx := Bd.exec
  have hby := Bd.bytes
  have hml : c.maxLocals = 10 := hml0
  have hown : s.vm.findClass "com/example/canopy/canopy/namenode/LeaseIsValidAtPinLaw" = some m.cls := findClass_of_methodNamed Bd.named
  have hnm := (name_of_methodNamed Bd.named Bd.method).1
  have X0 : Stand p l e room_1 s m #[(.long va), (.long vb), (.long vc)] below meth c s₁ [] 0 0 := Stand.of_body Bd
  have e0 : s₁.heap = h0 := by rw [← hh, Bd.state]; rfl
  have N0 := Fr.nil n0
  show own_Fin p e below s (own_Q_law Z va vb vc h0 n0) room_1.cells room_1.slots (s₁.setTop (entryFrame m #[(.long va), (.long vb), (.long vc)] maxLocals))
  refine own_Fin.go (fun t k => castTop (own_ef_law m va vb vc) k) ?_
  obtain ⟨T1, h1, X1, e1, E1, A1, D1, -, st1⟩ := newO X0 hx hZ hown (hw _ (List.mem_of_getElem? (i := 0) rfl)) (hw _ (List.mem_of_getElem? (i := 1) rfl)) (hw _ (List.mem_of_getElem? (i := 2) rfl)) e0 (g := (mkF m 0 #[.val (.long va), .second, .val (.long vb), .second, .val (.long vc), .second, .unset, .unset, .unset, .unset] [])) rfl (hb hby at_0) (by decide) (by decide)
  obtain ⟨b1, g1⟩ : ∃ z, z = h0.size := ⟨_, rfl⟩
  rw [← g1] at A1 D1 st1
  refine own_Fin.go st1 ?_
  have g_b1 : n0 ≤ b1 := Nat.le_trans Z0 (Nat.le_of_eq g1.symm)
  have Z1 := Nat.le_trans Z0 E1.1
  have F_b1_id : Fld Z h1 b1 "com/example/canopy/canopy/namenode/Lease" "id" "J" (.long (0 : Int64)) := D1 (Or.inr (hw _ (List.mem_of_getElem? (i := 15) rfl))) (ty := .long) (by decide)
  have F_b1_validUntil : Fld Z h1 b1 "com/example/canopy/canopy/namenode/Lease" "validUntil" "J" (.long (0 : Int64)) := D1 (Or.inr (hw _ (List.mem_of_getElem? (i := 17) rfl))) (ty := .long) (by decide)
  show own_Fin _ _ _ _ _ _ _ (T1.setTop (mkF m 3 #[.val (.long va), .second, .val (.long vb), .second, .val (.long vc), .second, .unset, .unset, .unset, .unset] [(.ref b1)]))
  refine own_Fin.go (fun t k => XS.dup X1.here hx rfl (hb hby at_3) rfl rfl k) ?_
  show own_Fin _ _ _ _ _ _ _ (T1.setTop (mkF m 4 #[.val (.long va), .second, .val (.long vb), .second, .val (.long vc), .second, .unset, .unset, .unset, .unset] [(.ref b1), (.ref b1)]))
  refine own_Fin.go (fun t k => XS.lloadN X1.here hx rfl (hb hby at_4) rfl k) ?_
  show own_Fin _ _ _ _ _ _ _ (T1.setTop (mkF m 5 #[.val (.long va), .second, .val (.long vb), .second, .val (.long vc), .second, .unset, .unset, .unset, .unset] [(.long va), (.ref b1), (.ref b1)]))
  refine own_Fin.go (fun t k => XS.lloadN X1.here hx rfl (hb hby at_5) rfl k) ?_
  show own_Fin _ _ _ _ _ _ _ (T1.setTop (mkF m 6 #[.val (.long va), .second, .val (.long vb), .second, .val (.long vc), .second, .unset, .unset, .unset, .unset] [(.long vb), (.long va), (.ref b1), (.ref b1)]))
  obtain ⟨_, _, ⟨T2, L2, k2, n2⟩, -, X2, ⟨Lc2, hQ2, l2, y2, z2⟩, st2⟩ := X1.specialBack hx (y := (⟨"com/example/canopy/canopy/namenode/Lease", "<init>", "(JJ)V"⟩ : MethodName)) rfl hown (mvT hZ (hw _ (List.mem_of_getElem? (i := 3) rfl))) (mvT hZ (hw _ (List.mem_of_getElem? (i := 4) rfl))) (mvT hZ (hw _ (List.mem_of_getElem? (i := 5) rfl))) (by decide) (backOf (W := 1) (own_rm_ini l Z a0 hw [] b1 va vb  h1 n0 Z1 A1 F_b1_id F_b1_validUntil g_b1) hZ (hw _ (List.mem_of_getElem? (i := 5) rfl)) (hw _ (List.mem_of_getElem? (i := 2) rfl)) (by decide) (by decide)) (g := (mkF m 6 #[.val (.long va), .second, .val (.long vb), .second, .val (.long vc), .second, .unset, .unset, .unset, .unset] [(.long vb), (.long va), (.ref b1), (.ref b1)])) rfl (by rw [hml]; rfl) (Steps.refl _) (a := b1) (argsL := [(.long va), (.long vb)]) (rest := [(.ref b1)]) (lenOf own_pd1 rfl) rfl (by show 2 * 0 + _ ≤ _; exact Nat.le_of_eq rfl) (hb hby at_6) (fun _ _ => ⟨rfl, e1, (by decide : 1 + 0 ≤ _), (by decide : 2 + 0 ≤ _)⟩)
  dsimp only [Pt.U, Pt.locs, Pt.cells, Pt.slots] at X2 l2 y2 z2 st2 hQ2
  subst l2 y2 z2
  obtain ⟨rfl, N2q, K2q, c2_1, c2_2⟩ := hQ2
  refine own_Fin.go (fun t k => st2.trans k) ?_
  have N2 := Fr.app N0 N2q
  have Z2 := Nat.le_trans Z1 K2q.1
  show own_Fin _ _ _ _ _ _ _ (T2.setTop (mkF m 9 #[.val (.long va), .second, .val (.long vb), .second, .val (.long vc), .second, .unset, .unset, .unset, .unset] [(.ref b1)]))
  refine own_Fin.go (fun t k => XS.astore X2.here hx rfl (hb hby at_9) rfl rfl (l' := #[.val (.long va), .second, .val (.long vb), .second, .val (.long vc), .second, .val (.ref b1), .unset, .unset, .unset]) rfl k) ?_
  show own_Fin _ _ _ _ _ _ _ (T2.setTop (mkF m 11 #[.val (.long va), .second, .val (.long vb), .second, .val (.long vc), .second, .val (.ref b1), .unset, .unset, .unset] []))
  refine own_Fin.go (fun t k => XS.lloadN X2.here hx rfl (hb hby at_11) rfl k) ?_
  show own_Fin _ _ _ _ _ _ _ (T2.setTop (mkF m 12 #[.val (.long va), .second, .val (.long vb), .second, .val (.long vc), .second, .val (.ref b1), .unset, .unset, .unset] [(.long vb)]))
  refine own_Fin.go (fun t k => XS.lload X2.here hx rfl (hb hby at_12) rfl k) ?_
  show own_Fin _ _ _ _ _ _ _ (T2.setTop (mkF m 14 #[.val (.long va), .second, .val (.long vb), .second, .val (.long vc), .second, .val (.ref b1), .unset, .unset, .unset] [(.long vc), (.long vb)]))
  refine own_Fin.go (fun t k => XS.ladd X2.here hx rfl (hb hby at_14) rfl k) ?_
  show own_Fin _ _ _ _ _ _ _ (T2.setTop (mkF m 15 #[.val (.long va), .second, .val (.long vb), .second, .val (.long vc), .second, .val (.ref b1), .unset, .unset, .unset] [(.long (vb + vc))]))
  refine own_Fin.go (fun t k => XS.lstore X2.here hx rfl (hb hby at_15) rfl (l' := #[.val (.long va), .second, .val (.long vb), .second, .val (.long vc), .second, .val (.ref b1), .val (.long (vb + vc)), .second, .unset]) rfl k) ?_
  show own_Fin _ _ _ _ _ _ _ (T2.setTop (mkF m 17 #[.val (.long va), .second, .val (.long vb), .second, .val (.long vc), .second, .val (.ref b1), .val (.long (vb + vc)), .second, .unset] []))
  refine own_Fin.go (fun t k => XS.lload X2.here hx rfl (hb hby at_17) rfl k) ?_
  show own_Fin _ _ _ _ _ _ _ (T2.setTop (mkF m 19 #[.val (.long va), .second, .val (.long vb), .second, .val (.long vc), .second, .val (.ref b1), .val (.long (vb + vc)), .second, .unset] [(.long vc)]))
  refine own_Fin.go (fun t k => XS.lconst X2.here hx rfl (hb hby at_19) k) ?_
  show own_Fin _ _ _ _ _ _ _ (T2.setTop (mkF m 20 #[.val (.long va), .second, .val (.long vb), .second, .val (.long vc), .second, .val (.ref b1), .val (.long (vb + vc)), .second, .unset] [(.long (0 : Int64)), (.long vc)]))
  refine own_Fin.go (fun t k => XS.lcmp X2.here hx rfl (hb hby at_20) rfl k) ?_
  show own_Fin _ _ _ _ _ _ _ (T2.setTop (mkF m 21 #[.val (.long va), .second, .val (.long vb), .second, .val (.long vc), .second, .val (.ref b1), .val (.long (vb + vc)), .second, .unset] [(.int (lcmpW vc (0 : Int64)))]))
  by_cases hc21 : vc < (0 : Int64)
  · refine own_Fin.go (fun t k => XS.ifNo X2.here hx rfl (hb hby at_21) rfl (Jvm.Free.XT.ll_ge_f hc21) k) ?_
    show own_Fin _ _ _ _ _ _ _ (T2.setTop (mkF m 24 #[.val (.long va), .second, .val (.long vb), .second, .val (.long vc), .second, .val (.ref b1), .val (.long (vb + vc)), .second, .unset] []))
    refine own_Fin.go (fun t k => XS.iconst X2.here hx rfl (hb hby at_24) k) ?_
    show own_Fin _ _ _ _ _ _ _ (T2.setTop (mkF m 25 #[.val (.long va), .second, .val (.long vb), .second, .val (.long vc), .second, .val (.ref b1), .val (.long (vb + vc)), .second, .unset] [(.int (1 : Int32))]))
    refine own_Fin.go (fun t k => XS.goto X2.here hx rfl (pc0 := 25) (pc' := 29) rfl (hb hby at_25) (by decide) (by decide) k) ?_
    show own_Fin _ _ _ _ _ _ _ (T2.setTop (mkF m 29 #[.val (.long va), .second, .val (.long vb), .second, .val (.long vc), .second, .val (.ref b1), .val (.long (vb + vc)), .second, .unset] [(.int (1 : Int32))]))
    refine own_Fin.go (fun t k => XS.istore X2.here hx rfl (hb hby at_29) rfl (l' := #[.val (.long va), .second, .val (.long vb), .second, .val (.long vc), .second, .val (.ref b1), .val (.long (vb + vc)), .second, .val (.int (1 : Int32))]) rfl k) ?_
    show own_Fin _ _ _ _ _ _ _ (T2.setTop (mkF m 31 #[.val (.long va), .second, .val (.long vb), .second, .val (.long vc), .second, .val (.ref b1), .val (.long (vb + vc)), .second, .val (.int (1 : Int32))] []))
    refine own_Fin.go (fun t k => XS.aload X2.here hx rfl (hb hby at_31) rfl rfl k) ?_
    show own_Fin _ _ _ _ _ _ _ (T2.setTop (mkF m 33 #[.val (.long va), .second, .val (.long vb), .second, .val (.long vc), .second, .val (.ref b1), .val (.long (vb + vc)), .second, .val (.int (1 : Int32))] [(.ref b1)]))
    refine own_Fin.go (fun t k => XS.lload X2.here hx rfl (hb hby at_33) rfl k) ?_
    show own_Fin _ _ _ _ _ _ _ (T2.setTop (mkF m 35 #[.val (.long va), .second, .val (.long vb), .second, .val (.long vc), .second, .val (.ref b1), .val (.long (vb + vc)), .second, .val (.int (1 : Int32))] [(.long (vb + vc)), (.ref b1)]))
    obtain ⟨cq3, kq3, q3a, q3b, q3c⟩ := isOf hZ rfl c2_1
    obtain ⟨_, _, ⟨T3, L3, k3, n3⟩, -, X3, ⟨Lc3, hQ3, l3, y3, z3⟩, st3⟩ := X2.virtualBack hx (y := (⟨"com/example/canopy/canopy/namenode/Lease", "isValidAt", "(J)Z"⟩ : MethodName)) (z := (⟨"com/example/canopy/canopy/namenode/Lease", "isValidAt", "(J)Z"⟩ : MethodName)) hown (mvT hZ (hw _ (List.mem_of_getElem? (i := 18) rfl))) (mvT hZ (hw _ (List.mem_of_getElem? (i := 19) rfl))) (notFace_of_selects (args := #[]) (mvT hZ (hw _ (List.mem_of_getElem? (i := 21) rfl)))) (mvT hZ (hw _ (List.mem_of_getElem? (i := 21) rfl))) (mvT hZ (hw _ (List.mem_of_getElem? (i := 20) rfl))) (by decide) (backOf (W := 0) (own_rm_isv l Z a0 hw [] b1 (vb + vc) vb T2.heap n0 Z2 c2_2) hZ (hw _ (List.mem_of_getElem? (i := 22) rfl)) (hw _ (List.mem_of_getElem? (i := 2) rfl)) (by decide) (by decide)) q3a q3c (g := (mkF m 35 #[.val (.long va), .second, .val (.long vb), .second, .val (.long vc), .second, .val (.ref b1), .val (.long (vb + vc)), .second, .val (.int (1 : Int32))] [(.long (vb + vc)), (.ref b1)])) rfl (by rw [hml]; rfl) (Steps.refl _) (argsL := [(.long (vb + vc))]) (rest := []) (lenOf own_pd2 rfl) rfl (by show 2 * 0 + _ ≤ _; exact Nat.le_of_eq rfl) (hb hby at_35) (fun _ _ => ⟨rfl, rfl, (by decide : 1 + 0 ≤ _), (by decide : 2 + 0 ≤ _)⟩)
    dsimp only [Pt.U, Pt.locs, Pt.cells, Pt.slots] at X3 l3 y3 z3 st3 hQ3
    subst l3 y3 z3
    obtain ⟨rfl, N3q, e3⟩ := hQ3
    refine own_Fin.go (fun t k => st3.trans k) ?_
    have N3 := Fr.app N2 N3q
    show own_Fin _ _ _ _ _ _ _ (T3.setTop (mkF m 38 #[.val (.long va), .second, .val (.long vb), .second, .val (.long vc), .second, .val (.ref b1), .val (.long (vb + vc)), .second, .val (.int (1 : Int32))] [(.int (if ((vb + vc) - vb) < (0 : Int64) then (1 : Int32) else 0))]))
    refine own_Fin.go (fun t k => XS.iload X3.here hx rfl (hb hby at_38) rfl k) ?_
    show own_Fin _ _ _ _ _ _ _ (T3.setTop (mkF m 40 #[.val (.long va), .second, .val (.long vb), .second, .val (.long vc), .second, .val (.ref b1), .val (.long (vb + vc)), .second, .val (.int (1 : Int32))] [(.int (1 : Int32)), (.int (if ((vb + vc) - vb) < (0 : Int64) then (1 : Int32) else 0))]))
    have hc40 : (if ((vb + vc) - vb) < (0 : Int64) then (1 : Int32) else 0) = (1 : Int32) := by rw [own_sub]; first | rw [if_pos hc21] | rw [if_neg hc21]
    refine own_Fin.go (fun t k => XS.icmpNo X3.here hx rfl (hb hby at_40) rfl (Jvm.Free.XT.ii_ne_f hc40) k) ?_
    show own_Fin _ _ _ _ _ _ _ (T3.setTop (mkF m 43 #[.val (.long va), .second, .val (.long vb), .second, .val (.long vc), .second, .val (.ref b1), .val (.long (vb + vc)), .second, .val (.int (1 : Int32))] []))
    refine own_Fin.go (fun t k => XS.iconst X3.here hx rfl (hb hby at_43) k) ?_
    show own_Fin _ _ _ _ _ _ _ (T3.setTop (mkF m 44 #[.val (.long va), .second, .val (.long vb), .second, .val (.long vc), .second, .val (.ref b1), .val (.long (vb + vc)), .second, .val (.int (1 : Int32))] [(.int (1 : Int32))]))
    refine own_Fin.go (fun t k => XS.goto X3.here hx rfl (pc0 := 44) (pc' := 48) rfl (hb hby at_44) (by decide) (by decide) k) ?_
    show own_Fin _ _ _ _ _ _ _ (T3.setTop (mkF m 48 #[.val (.long va), .second, .val (.long vb), .second, .val (.long vc), .second, .val (.ref b1), .val (.long (vb + vc)), .second, .val (.int (1 : Int32))] [(.int (1 : Int32))]))
    refine own_retN X3 hx (t := .boolean) (w := (1 : Int32)) Bd.returns (by simp) (hb hby at_48) Bd.notSynchronized rfl (by decide) (by decide) ?_
    rw [e3]
    exact ⟨rfl, N3⟩
  · refine own_Fin.go (fun t k => XS.ifYes X2.here hx rfl (pc0 := 21) (pc' := 28) rfl (hb hby at_21) rfl (Jvm.Free.XT.ll_ge_t hc21) (by decide) (by decide) k) ?_
    show own_Fin _ _ _ _ _ _ _ (T2.setTop (mkF m 28 #[.val (.long va), .second, .val (.long vb), .second, .val (.long vc), .second, .val (.ref b1), .val (.long (vb + vc)), .second, .unset] []))
    refine own_Fin.go (fun t k => XS.iconst X2.here hx rfl (hb hby at_28) k) ?_
    show own_Fin _ _ _ _ _ _ _ (T2.setTop (mkF m 29 #[.val (.long va), .second, .val (.long vb), .second, .val (.long vc), .second, .val (.ref b1), .val (.long (vb + vc)), .second, .unset] [(.int (0 : Int32))]))
    refine own_Fin.go (fun t k => XS.istore X2.here hx rfl (hb hby at_29) rfl (l' := #[.val (.long va), .second, .val (.long vb), .second, .val (.long vc), .second, .val (.ref b1), .val (.long (vb + vc)), .second, .val (.int (0 : Int32))]) rfl k) ?_
    show own_Fin _ _ _ _ _ _ _ (T2.setTop (mkF m 31 #[.val (.long va), .second, .val (.long vb), .second, .val (.long vc), .second, .val (.ref b1), .val (.long (vb + vc)), .second, .val (.int (0 : Int32))] []))
    refine own_Fin.go (fun t k => XS.aload X2.here hx rfl (hb hby at_31) rfl rfl k) ?_
    show own_Fin _ _ _ _ _ _ _ (T2.setTop (mkF m 33 #[.val (.long va), .second, .val (.long vb), .second, .val (.long vc), .second, .val (.ref b1), .val (.long (vb + vc)), .second, .val (.int (0 : Int32))] [(.ref b1)]))
    refine own_Fin.go (fun t k => XS.lload X2.here hx rfl (hb hby at_33) rfl k) ?_
    show own_Fin _ _ _ _ _ _ _ (T2.setTop (mkF m 35 #[.val (.long va), .second, .val (.long vb), .second, .val (.long vc), .second, .val (.ref b1), .val (.long (vb + vc)), .second, .val (.int (0 : Int32))] [(.long (vb + vc)), (.ref b1)]))
    obtain ⟨cq4, kq4, q4a, q4b, q4c⟩ := isOf hZ rfl c2_1
    obtain ⟨_, _, ⟨T4, L4, k4, n4⟩, -, X4, ⟨Lc4, hQ4, l4, y4, z4⟩, st4⟩ := X2.virtualBack hx (y := (⟨"com/example/canopy/canopy/namenode/Lease", "isValidAt", "(J)Z"⟩ : MethodName)) (z := (⟨"com/example/canopy/canopy/namenode/Lease", "isValidAt", "(J)Z"⟩ : MethodName)) hown (mvT hZ (hw _ (List.mem_of_getElem? (i := 18) rfl))) (mvT hZ (hw _ (List.mem_of_getElem? (i := 19) rfl))) (notFace_of_selects (args := #[]) (mvT hZ (hw _ (List.mem_of_getElem? (i := 21) rfl)))) (mvT hZ (hw _ (List.mem_of_getElem? (i := 21) rfl))) (mvT hZ (hw _ (List.mem_of_getElem? (i := 20) rfl))) (by decide) (backOf (W := 0) (own_rm_isv l Z a0 hw [] b1 (vb + vc) vb T2.heap n0 Z2 c2_2) hZ (hw _ (List.mem_of_getElem? (i := 22) rfl)) (hw _ (List.mem_of_getElem? (i := 2) rfl)) (by decide) (by decide)) q4a q4c (g := (mkF m 35 #[.val (.long va), .second, .val (.long vb), .second, .val (.long vc), .second, .val (.ref b1), .val (.long (vb + vc)), .second, .val (.int (0 : Int32))] [(.long (vb + vc)), (.ref b1)])) rfl (by rw [hml]; rfl) (Steps.refl _) (argsL := [(.long (vb + vc))]) (rest := []) (lenOf own_pd2 rfl) rfl (by show 2 * 0 + _ ≤ _; exact Nat.le_of_eq rfl) (hb hby at_35) (fun _ _ => ⟨rfl, rfl, (by decide : 1 + 0 ≤ _), (by decide : 2 + 0 ≤ _)⟩)
    dsimp only [Pt.U, Pt.locs, Pt.cells, Pt.slots] at X4 l4 y4 z4 st4 hQ4
    subst l4 y4 z4
    obtain ⟨rfl, N4q, e4⟩ := hQ4
    refine own_Fin.go (fun t k => st4.trans k) ?_
    have N4 := Fr.app N2 N4q
    show own_Fin _ _ _ _ _ _ _ (T4.setTop (mkF m 38 #[.val (.long va), .second, .val (.long vb), .second, .val (.long vc), .second, .val (.ref b1), .val (.long (vb + vc)), .second, .val (.int (0 : Int32))] [(.int (if ((vb + vc) - vb) < (0 : Int64) then (1 : Int32) else 0))]))
    refine own_Fin.go (fun t k => XS.iload X4.here hx rfl (hb hby at_38) rfl k) ?_
    show own_Fin _ _ _ _ _ _ _ (T4.setTop (mkF m 40 #[.val (.long va), .second, .val (.long vb), .second, .val (.long vc), .second, .val (.ref b1), .val (.long (vb + vc)), .second, .val (.int (0 : Int32))] [(.int (0 : Int32)), (.int (if ((vb + vc) - vb) < (0 : Int64) then (1 : Int32) else 0))]))
    have hc40 : (if ((vb + vc) - vb) < (0 : Int64) then (1 : Int32) else 0) = (0 : Int32) := by rw [own_sub]; first | rw [if_pos hc21] | rw [if_neg hc21]
    refine own_Fin.go (fun t k => XS.icmpNo X4.here hx rfl (hb hby at_40) rfl (Jvm.Free.XT.ii_ne_f hc40) k) ?_
    show own_Fin _ _ _ _ _ _ _ (T4.setTop (mkF m 43 #[.val (.long va), .second, .val (.long vb), .second, .val (.long vc), .second, .val (.ref b1), .val (.long (vb + vc)), .second, .val (.int (0 : Int32))] []))
    refine own_Fin.go (fun t k => XS.iconst X4.here hx rfl (hb hby at_43) k) ?_
    show own_Fin _ _ _ _ _ _ _ (T4.setTop (mkF m 44 #[.val (.long va), .second, .val (.long vb), .second, .val (.long vc), .second, .val (.ref b1), .val (.long (vb + vc)), .second, .val (.int (0 : Int32))] [(.int (1 : Int32))]))
    refine own_Fin.go (fun t k => XS.goto X4.here hx rfl (pc0 := 44) (pc' := 48) rfl (hb hby at_44) (by decide) (by decide) k) ?_
    show own_Fin _ _ _ _ _ _ _ (T4.setTop (mkF m 48 #[.val (.long va), .second, .val (.long vb), .second, .val (.long vc), .second, .val (.ref b1), .val (.long (vb + vc)), .second, .val (.int (0 : Int32))] [(.int (1 : Int32))]))
    refine own_retN X4 hx (t := .boolean) (w := (1 : Int32)) Bd.returns (by simp) (hb hby at_48) Bd.notSynchronized rfl (by decide) (by decide) ?_
    rw [e4]
    exact ⟨rfl, N4⟩
set_option maxRecDepth 65536 in
set_option maxHeartbeats 40000000 in
theorem comes_1 {Post : Tables → Env → Array Value → State → Outcome → State → Prop} (hpost : ∀ tb e args s v u, (limb_1_1.after args s (.returned v) u = true ∧ limb_1_2.after args s (.returned v) u = true ∧ True) → FrameEnd s (.returned v) u (Jvm.fieldLocs frame_1_writes args s ++ Jvm.arrayLocs frame_1_arrays args s ++ Jvm.staticLocs frame_1_statics s) 16 128 → Post tb e args s (.returned v) u) :
    ArmFor flags0 classFile x code maxLocals ret World_1 tables_1 room_1 Calls_1 rest_1 Pre_1 Post := by
  intro l hfl _ _ p e ha hc hk s m args below hf hA hF happ hP
  obtain ⟨hcalls, hrest, hpre⟩ := hP
  obtain ⟨-, -, -, hnamed, -, -, -, hat⟩ := (Spec.applies_iff hf).mp happ
  obtain ⟨hg, hn⟩ := and_e (Cond.before_iff.mp (show (Jvm.Cond.and given_1 narrow_1).before args s = true from hpre))
  obtain ⟨hg0, hr0⟩ := and_e hg
  obtain ⟨hg1, hr1⟩ := and_e hr0
  obtain ⟨hg2, hr2⟩ := and_e hr1
  obtain ⟨w0, w1, w2, rfl⟩ : ∃ w0 w1 w2 : Value, args = #[w0, w1, w2] := by
    have hs : args.size = 3 := by simpa [Cond.value, given_1] using hg0
    obtain ⟨L⟩ := args
    match L, hs with
    | [w0, w1, w2], _ => exact ⟨w0, w1, w2, rfl⟩
  have hw := fun d (hd : d ∈ tables_1) => atoms_spec (ws := Jvm.Cond.code x code maxLocals ret :: tables_1) hat d (List.mem_cons_of_mem _ hd)
  have hfit : Fit s := fun {y c} hc i hi => by
    obtain ⟨ha, rfl⟩ := Array.getElem?_eq_some_iff.mp hc
    have q := List.all_eq_true.mp ((Array.all_eq_true_iff_forall_mem.mp hF) _ (Array.getElem_mem ha)) i (List.mem_range.mpr hi)
    simpa [Array.getElem?_eq_getElem hi] using q
  obtain ⟨i0, ei0⟩ := isL_v hg1
  obtain rfl : w0 = (.long i0) := Option.some.inj ei0
  obtain ⟨i1, ei1⟩ := isL_v hg2
  obtain rfl : w1 = (.long i1) := Option.some.inj ei1
  obtain ⟨i2, ei2⟩ := isL_v hr2
  obtain rfl : w2 = (.long i2) := Option.some.inj ei2
  obtain ⟨n, o, h1, h2, h3, _, L, rfl, ⟨rfl, N⟩, hq⟩ := own_rm_law l s _ hw tables_1 i0 i1 i2  s.heap s.heap.size (Nat.le_refl _)  p e ha hc hk s m _ below hf ((Spec.applies_iff_loose hf).mp happ).1 ⟨rfl, State.Warmed39.refl s, rfl⟩ trivial
  refine ⟨n, _, h1, h2, h3, hpost _ _ _ _ _ _ ⟨Cond.after_iff.mpr rfl, Cond.after_iff.mpr (eq_i res_at (Term.int_eval (1)) rfl), trivial⟩ ⟨hq.1, hq.2.1, (hq.2.2.sift fun y hy => Or.inr (N y hy)).mono (by decide) (by decide)⟩⟩
theorem main_1_1 : Claimed_1_1 := comes_1 fun _ _ _ _ _ _ h hF => ⟨h.1, hF⟩
theorem main_1_2 : Claimed_1_2 := comes_1 fun _ _ _ _ _ _ h hF => ⟨h.2.1, hF⟩
end Jvm.Pilot.@@N@@
namespace Jvm.Pilot.@@N@@
open Jvm Jvm.ClassFile Sem Op Lib Jvm.Free Jvm.Stand Jvm.Pilot.@@N@@.Jvm.D
/-! MADE BY PROGRAM (witnessworld.py) out of the Statement's table words and the real class files: 10 classes; the members and pool entries that the words name. The judged class is class 1, her method 1. -/
namespace start1
open Jvm.ClassFile
def u (s : String) : CpInfo := .utf8 (stringToUtf16 s)
/-- a pool by its gaps: so many unusable entries, then the entry; so many at the end -/
def gap : Nat → List CpInfo → List CpInfo
  | 0, r => r
  | n + 1, r => .unusable :: gap n r
def poolList (es : List (Nat × CpInfo)) (last : Nat) : List CpInfo := es.foldr (fun e r => gap e.1 (e.2 :: r)) (gap last [])
def pool (es : List (Nat × CpInfo)) (last : Nat) : Array CpInfo := ⟨poolList es last⟩
def fileOf (pool : Array CpInfo) (this : Nat) (attrs : Array Attribute := #[]) (ms : Array MethodInfo := #[]) (fl : Nat := 33) (sup : Nat := 0) (ifs : Array Nat := #[]) (fds : Array FieldInfo := #[]) : ClassFile where
  minorVersion := 0
  majorVersion := 65
  constantPool := pool
  accessFlags := fl
  thisClass := this
  superClass := sup
  interfaces := ifs
  fields := fds
  methods := ms
  attributes := attrs
def plain (name : String) (sup : Option ClassId) : Class where
  name := name
  kind := .ordinary
  loader := none
  accessFlags := 33
  super := sup
  interfaces := #[]
  cf := none
  fields := #[]
  methods := #[]
  instanceTypes := #[]
  staticTypes := #[]
  resolved := #[]
  callSites := []
  init := .initialized
  statics := none
  mirror := none

def pool0 : Array CpInfo := pool [(5, u "<init>"), (0, u "()V"), (1, .class_ 10), (1, u "java/lang/Object")] 113

def k0c0 : Code := { maxStack := 0, maxLocals := 1, code := object_method_1_code, exceptionTable := #[], attributes := #[] }
def k0m0 : Method := { name := "<init>", desc := "()V", sig := { parameters := [], returnType := none }, accessFlags := 1, code := some k0c0 }
/-- java/lang/Object -/
def k0 : Class := { plain "java/lang/Object" none with
  accessFlags := 33
  interfaces := #[]
  cf := some (fileOf pool0 8 #[] #[{ accessFlags := 1, nameIndex := 5, descriptorIndex := 6, attributes := #[] }] 33 0 #[] #[])
  fields := #[]
  methods := #[k0m0]
  instanceTypes := #[]
  staticTypes := #[]
  resolved := Array.replicate 124 none
  statics := none }

def pool1 : Array CpInfo := pool [(2, .class_ 4), (1, u "java/lang/Object"), (0, u "<init>"), (0, u "()V"), (0, .class_ 8), (0, u "com/example/canopy/canopy/namenode/Lease"), (0, .methodref 7 10), (0, .nameAndType 5 11), (0, u "(JJ)V"), (0, .methodref 7 13), (0, .nameAndType 14 15), (0, u "isValidAt"), (0, u "(J)Z"), (0, .class_ 17), (0, u "com/example/canopy/canopy/namenode/LeaseIsValidAtPinLaw"), (2, u "law"), (0, u "(JJJ)Z")] 3

def k1m0 : Method := { name := "<init>", desc := "()V", sig := { parameters := [], returnType := none }, accessFlags := 2, code := none }
def k1c1 : Code := { maxStack := 6, maxLocals := 10, code := code, exceptionTable := #[], attributes := #[] }
def k1m1 : Method := { name := "law", desc := "(JJJ)Z", sig := { parameters := [.long, .long, .long], returnType := some .boolean }, accessFlags := 9, code := some k1c1 }
/-- com/example/canopy/canopy/namenode/LeaseIsValidAtPinLaw -/
def k1 : Class := { plain "com/example/canopy/canopy/namenode/LeaseIsValidAtPinLaw" (some 0) with
  accessFlags := 49
  interfaces := #[]
  cf := some (fileOf pool1 16 #[] #[{ accessFlags := 2, nameIndex := 5, descriptorIndex := 6, attributes := #[] }, { accessFlags := 9, nameIndex := 20, descriptorIndex := 21, attributes := #[] }] 49 2 #[] #[])
  fields := #[]
  methods := #[k1m0, k1m1]
  instanceTypes := #[]
  staticTypes := #[]
  resolved := Array.replicate 25 none
  statics := none }

def pool2 : Array CpInfo := pool [(1, .methodref 2 3), (0, .class_ 4), (0, .nameAndType 5 6), (0, u "java/lang/Object"), (0, u "<init>"), (0, u "()V"), (0, .class_ 8), (0, u "java/lang/Record")] 13

def k2c0 : Code := { maxStack := 1, maxLocals := 1, code := jdk_30_method_1_code, exceptionTable := #[], attributes := #[] }
def k2m0 : Method := { name := "<init>", desc := "()V", sig := { parameters := [], returnType := none }, accessFlags := 4, code := some k2c0 }
/-- java/lang/Record -/
def k2 : Class := { plain "java/lang/Record" (some 0) with
  accessFlags := 1057
  interfaces := #[]
  cf := some (fileOf pool2 7 #[] #[{ accessFlags := 4, nameIndex := 5, descriptorIndex := 6, attributes := #[] }] 1057 2 #[] #[])
  fields := #[]
  methods := #[k2m0]
  instanceTypes := #[]
  staticTypes := #[]
  resolved := Array.replicate 22 none
  statics := none }

def pool3 : Array CpInfo := pool [(1, .methodref 2 3), (0, .class_ 4), (0, .nameAndType 5 6), (0, u "java/lang/Record"), (0, u "<init>"), (0, u "()V"), (0, .fieldref 8 9), (0, .class_ 10), (0, .nameAndType 11 12), (0, u "com/example/canopy/canopy/namenode/Lease"), (0, u "id"), (0, u "J"), (0, .fieldref 8 14), (0, .nameAndType 15 12), (0, u "validUntil"), (12, u "(JJ)V"), (3, u "isValidAt"), (0, u "(J)Z")] 26

def k3c0 : Code := { maxStack := 3, maxLocals := 5, code := prog_17_method_1_code, exceptionTable := #[], attributes := #[] }
def k3m0 : Method := { name := "<init>", desc := "(JJ)V", sig := { parameters := [.long, .long], returnType := none }, accessFlags := 0, code := some k3c0 }
def k3c1 : Code := { maxStack := 4, maxLocals := 3, code := prog_17_method_2_code, exceptionTable := #[], attributes := #[] }
def k3m1 : Method := { name := "isValidAt", desc := "(J)Z", sig := { parameters := [.long], returnType := some .boolean }, accessFlags := 0, code := some k3c1 }
/-- com/example/canopy/canopy/namenode/Lease -/
def k3 : Class := { plain "com/example/canopy/canopy/namenode/Lease" (some 2) with
  accessFlags := 48
  interfaces := #[]
  cf := some (fileOf pool3 8 #[] #[{ accessFlags := 0, nameIndex := 5, descriptorIndex := 28, attributes := #[] }, { accessFlags := 0, nameIndex := 32, descriptorIndex := 33, attributes := #[] }] 48 2 #[] #[{ accessFlags := 18, nameIndex := 11, descriptorIndex := 12, attributes := #[] }, { accessFlags := 18, nameIndex := 15, descriptorIndex := 12, attributes := #[] }])
  fields := #[{ name := "id", type := .long, accessFlags := 18, slot := 0, constantValue := 0 }, { name := "validUntil", type := .long, accessFlags := 18, slot := 1, constantValue := 0 }]
  methods := #[k3m0, k3m1]
  instanceTypes := #[.long, .long]
  staticTypes := #[]
  resolved := Array.replicate 60 none
  statics := none }

def pool4 : Array CpInfo := pool [(1, u "java/lang/Cloneable"), (0, .class_ 1), (0, u "java/lang/Object"), (0, .class_ 3)] 3

/-- java/lang/Cloneable -/
def k4 : Class := { plain "java/lang/Cloneable" (some 0) with
  accessFlags := 1537
  interfaces := #[]
  cf := some (fileOf pool4 2 #[] #[] 1537 4 #[] #[])
  fields := #[]
  methods := #[]
  instanceTypes := #[]
  staticTypes := #[]
  resolved := Array.replicate 8 none
  statics := none }

def pool5 : Array CpInfo := pool [(1, u "java/io/Serializable"), (0, .class_ 1), (0, u "java/lang/Object"), (0, .class_ 3)] 3

/-- java/io/Serializable -/
def k5 : Class := { plain "java/io/Serializable" (some 0) with
  accessFlags := 1537
  interfaces := #[]
  cf := some (fileOf pool5 2 #[] #[] 1537 4 #[] #[])
  fields := #[]
  methods := #[]
  instanceTypes := #[]
  staticTypes := #[]
  resolved := Array.replicate 8 none
  statics := none }

/-- the primitive byte -/
def k6 : Class := { plain "byte" none with kind := .primitive 'B', accessFlags := 0x411 }
/-- [B -/
def k7 : Class := { plain "[B" (some 0) with kind := .array 6 .byte, interfaces := #[4, 5], accessFlags := 1041 }

/-- the primitive int -/
def k8 : Class := { plain "int" none with kind := .primitive 'I', accessFlags := 0x411 }
/-- [I -/
def k9 : Class := { plain "[I" (some 0) with kind := .array 8 .int, interfaces := #[4, 5], accessFlags := 1041 }

def heap : Heap := #[]
def classes : Array Class := #[k0, k1, k2, k3, k4, k5, k6, k7, k8, k9]
def interned : List (Array UInt16 × Addr) := []
def slotsUsed : Nat := 0
def theMethod : MethodId := ⟨1, 1⟩
def args0 : Array Value := #[.long 5, .long 300, .long 7]
def aboutOver (below : List Frame) : State where
  vm := { classes := classes, interned := interned.toArray }
  heap := heap
  slotsUsed := slotsUsed
  threads := #[{ frames := .invoking theMethod args0 :: below }]
def below0 : List Frame := [.native { method := ⟨0, 0⟩, args := #[] }]
def about1 : State := aboutOver below0
def p0 : Program := .bare "" "" ""
def e0 : Env := launch0.env 0 0 0
theorem w_frames : about1.frames = Frame.invoking theMethod args0 :: below0 := rfl
set_option maxRecDepth 65536 in
theorem w_args : argsFit about1.vm theMethod args0 = true := by decide +kernel
set_option maxRecDepth 65536 in
theorem w_heap : heapFits about1 = true := by decide +kernel
set_option maxRecDepth 65536 in
theorem w_runnable : about1.curStatus? = some .runnable := by decide +kernel
set_option maxRecDepth 65536 in
theorem w_alone : about1.alone = true := by decide +kernel
set_option maxRecDepth 65536 in
theorem w_named : about1.methodNamed? x = some theMethod := by decide +kernel
set_option maxRecDepth 65536 in
theorem w_hears : about1.hears theMethod below0 = true := by decide +kernel
set_option maxRecDepth 65536 in
theorem w_ripe : about1.ripe theMethod args0 below0 = true := by decide +kernel
theorem w_running : about1.status = .running := rfl
set_option maxRecDepth 65536 in
theorem w_room : about1.hasRoom e0.platform room_1 = true :=
  launch0.hasRoom_least _ room_1 (by decide +kernel) (by decide +kernel) (by decide +kernel) (by decide +kernel) (by decide +kernel) (by decide +kernel)
theorem allAtoms_all (ts : List Jvm.Cond) (a : Array Jvm.Value) (st : Jvm.State) : (allAtoms ts).before a st = ts.all (fun c => c.before a st) := by
  induction ts with
  | nil => rfl
  | cons c t ih =>
    show (Jvm.Cond.and c (allAtoms t)).before a st = _
    rw [Jvm.Cond.before_and, ih, List.all_cons]
def words1 : List Jvm.Cond := Jvm.Cond.code x code maxLocals ret :: tables_1
/-- a 'code' word, met by the world's own term for the bytes: nothing is compared byte by byte -/
theorem code_word {y : MethodName} {bytes : ByteArray} {mx : Nat} {rt : Option FieldType} {a : Array Value} {s : State} {m : MethodId} {meth : Method} {c : Code} (h1 : s.methodNamed? y = some m) (h2 : s.vm.method? m = some meth) (h3 : meth.code = some c) (h4 : c.code = bytes)
    (h5 : (c.maxLocals == mx && c.exceptionTable.isEmpty && decide (c.maxStack ≤ mostOperands) && decide (meth.sig.returnType = rt) && !meth.locks && decide (parseMethodDescriptor y.desc = some meth.sig)) = true) : (Jvm.Cond.code y bytes mx rt).before a s = true := by
  simp only [Bool.and_eq_true, beq_iff_eq, Bool.not_eq_true', decide_eq_true_eq] at h5
  obtain ⟨⟨⟨⟨⟨g1, g2⟩, g3⟩, g4⟩, g5⟩, g6⟩ := h5
  simp [Cond.before, Cond.holds, Cond.value, h1, h2, h3, h4, g1, g2, g3, g4, g5, g6]
def isCode : Jvm.Cond → Bool
  | .code _ _ _ _ => true
  | _ => false
theorem all_split {L : List Jvm.Cond} {P : Jvm.Cond → Bool} (h1 : L.all (fun c => isCode c || P c) = true) (h2 : ∀ c ∈ L.filter isCode, P c = true) : L.all P = true := by
  refine List.all_eq_true.mpr fun c hc => ?_
  have h := List.all_eq_true.mp h1 c hc
  rcases Bool.eq_false_or_eq_true (isCode c) with hi | hi
  · exact h2 c (List.mem_filter.mpr ⟨hc, hi⟩)
  · simpa [hi] using h
set_option maxRecDepth 65536 in
theorem w_c0 : (Jvm.Cond.code x code maxLocals ret).before args0 about1 = true := code_word (m := ⟨1, 1⟩) (meth := k1m1) (c := k1c1) (by decide +kernel) rfl rfl rfl (by decide +kernel)
set_option maxRecDepth 65536 in
theorem w_c1 : (Jvm.Cond.code ({ cls := "com/example/canopy/canopy/namenode/Lease", name := "<init>", desc := "(JJ)V" } : Jvm.MethodName) prog_17_method_1_code (5 : Nat) (Option.none : Option Jvm.ClassFile.FieldType)).before args0 about1 = true := code_word (m := ⟨3, 0⟩) (meth := k3m0) (c := k3c0) (by decide +kernel) rfl rfl rfl (by decide +kernel)
set_option maxRecDepth 65536 in
theorem w_c2 : (Jvm.Cond.code ({ cls := "java/lang/Record", name := "<init>", desc := "()V" } : Jvm.MethodName) jdk_30_method_1_code (1 : Nat) (Option.none : Option Jvm.ClassFile.FieldType)).before args0 about1 = true := code_word (m := ⟨2, 0⟩) (meth := k2m0) (c := k2c0) (by decide +kernel) rfl rfl rfl (by decide +kernel)
set_option maxRecDepth 65536 in
theorem w_c3 : (Jvm.Cond.code ({ cls := "java/lang/Object", name := "<init>", desc := "()V" } : Jvm.MethodName) object_method_1_code (1 : Nat) (Option.none : Option Jvm.ClassFile.FieldType)).before args0 about1 = true := code_word (m := ⟨0, 0⟩) (meth := k0m0) (c := k0c0) (by decide +kernel) rfl rfl rfl (by decide +kernel)
set_option maxRecDepth 65536 in
theorem w_c4 : (Jvm.Cond.code ({ cls := "com/example/canopy/canopy/namenode/Lease", name := "isValidAt", desc := "(J)Z" } : Jvm.MethodName) prog_17_method_2_code (3 : Nat) (Option.some Jvm.ClassFile.FieldType.boolean)).before args0 about1 = true := code_word (m := ⟨3, 1⟩) (meth := k3m1) (c := k3c1) (by decide +kernel) rfl rfl rfl (by decide +kernel)
def codes1 : List Jvm.Cond := [Jvm.Cond.code x code maxLocals ret, Jvm.Cond.code ({ cls := "com/example/canopy/canopy/namenode/Lease", name := "<init>", desc := "(JJ)V" } : Jvm.MethodName) prog_17_method_1_code (5 : Nat) (Option.none : Option Jvm.ClassFile.FieldType), Jvm.Cond.code ({ cls := "java/lang/Record", name := "<init>", desc := "()V" } : Jvm.MethodName) jdk_30_method_1_code (1 : Nat) (Option.none : Option Jvm.ClassFile.FieldType), Jvm.Cond.code ({ cls := "java/lang/Object", name := "<init>", desc := "()V" } : Jvm.MethodName) object_method_1_code (1 : Nat) (Option.none : Option Jvm.ClassFile.FieldType), Jvm.Cond.code ({ cls := "com/example/canopy/canopy/namenode/Lease", name := "isValidAt", desc := "(J)Z" } : Jvm.MethodName) prog_17_method_2_code (3 : Nat) (Option.some Jvm.ClassFile.FieldType.boolean)]
set_option maxRecDepth 65536 in
theorem codes_eq : words1.filter isCode = codes1 := rfl
theorem w_codes : ∀ c ∈ words1.filter isCode, c.before args0 about1 = true := by
  rw [codes_eq]
  intro c hc
  simp only [codes1, List.mem_cons, List.not_mem_nil, or_false] at hc
  rcases hc with rfl | rfl | rfl | rfl | rfl
  · exact w_c0
  · exact w_c1
  · exact w_c2
  · exact w_c3
  · exact w_c4
set_option maxRecDepth 65536 in
theorem w_t1 : words1.all (fun c => isCode c || c.before args0 about1) = true := by decide +kernel
theorem w_tables : (allAtoms (Jvm.Cond.code x code maxLocals ret :: tables_1)).before args0 about1 = true := by
  rw [allAtoms_all]
  show words1.all (fun c => c.before args0 about1) = true
  refine all_split ?_ w_codes
  rw [w_t1]
set_option maxRecDepth 65536 in
theorem w_case : (Jvm.Cond.and given_1 narrow_1).before args0 about1 = true := by decide +kernel
theorem w_applies : (headSpec (Jvm.Cond.code x code maxLocals ret :: tables_1) room_1).applies x e0.platform about1 = true :=
  (Spec.applies_iff w_frames).mpr ⟨w_running, w_runnable, w_alone, w_named, w_hears, w_ripe, w_room, w_tables⟩
theorem atStart : AtStart classFile x code maxLocals ret World_1 tables_1 room_1 Calls_1 rest_1 Pre_1 launch0 p0 e0 about1 theMethod args0 below0 :=
  ⟨lists_1, trivial, launch0.admits_env _ _ _, launch0.least_env, fairChoices_fair.cas, fairChoices_fair.clock, w_frames, w_args, w_heap, w_applies, trivial, trivial, w_case⟩
end start1
theorem witness_1 : WitnessClaimed_1 := ⟨start1.p0, start1.e0, start1.about1, start1.theMethod, start1.args0, start1.below0, start1.atStart⟩
end Jvm.Pilot.@@N@@
