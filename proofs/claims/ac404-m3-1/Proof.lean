import JvmDerived
import JvmDerived.Pilot.@@N@@Statement
import JvmDerived.Pilot.@@N@@Code
set_option linter.unusedVariables false
set_option linter.unusedSimpArgs false
namespace Jvm.RoadKit
open Sem ClassFile Op Lib Jvm.Stand Jvm.Free Jvm.LawKit
section New
variable {p : Program} {l : Launch} {e : Env} {R : Room} {s : State} {m : MethodId} {args : Array Value} {below : List Frame} {meth : Method} {c : Code} {T : State} {locs : List Loc} {cells slots : Nat}
theorem retI (X : Stand p l e R s m args below meth c T locs cells slots) (hx : p.tables.exec = Jvm.exec) {pc : Nat} {Ls : Array Slot} {z : Int32} {rest : List Value} (hret : meth.sig.returnType = some .int) (hd : decode c.code pc = .ok (.ireturn, 1)) {fs : List Frame}
    (hl : ∀ (f : JFrame) (acts : List Action), f.method = m → f.locked = none → f.entered = [] → (doReturn e (T.setTop f) acts (some (.int z))).1 = T.setFrames fs) : Steps p.tables e below (T.setTop (mkF m pc Ls (.int z :: rest))) (T.setFrames fs) := by
  have hm' : T.vm.method? m = some meth := X.method'
  have hn : narrow .int (.int z) = .int z := rfl
  show Steps p.tables e below (T.setTop { method := m, pc := pc, locals := Ls, stack := _ :: rest, locked := none }) _
  jvm_step X.here [X.here.top, hx, hd, hm', hret, hn]
  first | (intro acts; rw [hl _ acts rfl rfl rfl]) | rw [hl _ _ rfl rfl rfl]
  exact Steps.refl _
end New
end Jvm.RoadKit
namespace Jvm.Pilot.@@N@@
open Jvm Jvm.ClassFile Sem Op Lib Jvm.Free Jvm.Stand Jvm.LawKit Jvm.RoadKit Bundle Jvm.Pilot.@@N@@.Jvm.D
/-! The walk in a goal-driven form: own_Fin says that the run from A comes to an end at which Q holds, within the frame. -/
def own_Fin (p : Program) (e : Env) (below : List Frame) (s : State) (Q : Option Value → Heap → List Loc → Prop) (kc ks : Nat) (A : State) : Prop :=
  ∃ s₂ o, Steps p.tables e below A s₂ ∧ s₂.status = .running ∧ Ended s₂ below o ∧ ∃ v L, o = .returned v ∧ Q v s₂.heap L ∧ FrameEnd s o s₂ L kc ks
theorem own_Fin.go {p : Program} {e : Env} {below : List Frame} {s : State} {Q : Option Value → Heap → List Loc → Prop} {kc ks : Nat} {A B : State} (st : ∀ t, Steps p.tables e below B t → Steps p.tables e below A t) (h : own_Fin p e below s Q kc ks B) : own_Fin p e below s Q kc ks A := by
  obtain ⟨s₂, o, h1, h2⟩ := h
  exact ⟨s₂, o, st _ h1, h2⟩
section OwnRet
variable {p : Program} {l : Launch} {e : Env} {R : Room} {s : State} {m : MethodId} {args : Array Value} {below : List Frame} {meth : Method} {c : Code} {T : State} {locs : List Loc} {cells slots : Nat} {Q : Option Value → Heap → List Loc → Prop} {kc ks : Nat}
theorem own_end (X : Stand p l e R s m args below meth c T locs cells slots) {v : Option Value} (hv : meth.sig.returnType = none → v = none) (hlocks : meth.locks = false) (hc : cells ≤ kc) (hs : slots ≤ ks) {A : State}
    (h : ∀ fs : List Frame, (∀ (f : JFrame) (acts : List Action), f.method = m → f.locked = none → f.entered = [] → (doReturn e (T.setTop f) acts v).1 = T.setFrames fs) → Steps p.tables e below A (T.setFrames fs)) (hQ : Q v T.heap locs) : own_Fin p e below s Q kc ks A := by
  obtain ⟨fs, hr, hrun, hended, hW, hsame⟩ := X.leave (v := v) hv hlocks
  exact ⟨_, _, h fs hr, hrun, hended, _, _, rfl, hQ, ⟨_, rfl⟩, hW, hsame.mono hc hs⟩
theorem own_retN (X : Stand p l e R s m args below meth c T locs cells slots) (hx : p.tables.exec = Jvm.exec) {pc : Nat} {Ls : Array Slot} {z w : Int32} {t : FieldType} {rest : List Value} (hret : meth.sig.returnType = some t) (ht : t = .boolean ∨ t = .byte ∨ t = .char ∨ t = .short)
    (hd : decode c.code pc = .ok (.ireturn, 1)) (hlocks : meth.locks = false) (hw : nar t z = w) (hc : cells ≤ kc) (hs : slots ≤ ks) (hQ : Q (some (.int w)) T.heap locs) : own_Fin p e below s Q kc ks (T.setTop (mkF m pc Ls (.int z :: rest))) :=
  own_end X (v := some (.int w)) (fun h => by rw [hret] at h; cases h) hlocks hc hs (fun fs hr => retN X hx hret ht hd (by rw [hw]; exact hr)) hQ
theorem own_retI (X : Stand p l e R s m args below meth c T locs cells slots) (hx : p.tables.exec = Jvm.exec) {pc : Nat} {Ls : Array Slot} {z : Int32} {rest : List Value} (hret : meth.sig.returnType = some .int)
    (hd : decode c.code pc = .ok (.ireturn, 1)) (hlocks : meth.locks = false) (hc : cells ≤ kc) (hs : slots ≤ ks) (hQ : Q (some (.int z)) T.heap locs) : own_Fin p e below s Q kc ks (T.setTop (mkF m pc Ls (.int z :: rest))) :=
  own_end X (v := some (.int z)) (fun h => by rw [hret] at h; cases h) hlocks hc hs (fun fs hr => retI X hx hret hd hr) hQ
theorem own_retJ (X : Stand p l e R s m args below meth c T locs cells slots) (hx : p.tables.exec = Jvm.exec) {pc : Nat} {Ls : Array Slot} {z : Int64} (hret : meth.sig.returnType = some .long)
    (hd : decode c.code pc = .ok (.lreturn, 1)) (hlocks : meth.locks = false) (hc : cells ≤ kc) (hs : slots ≤ ks) (hQ : Q (some (.long z)) T.heap locs) : own_Fin p e below s Q kc ks (T.setTop (mkF m pc Ls [.long z])) :=
  own_end X (v := some (.long z)) (fun h => by rw [hret] at h; cases h) hlocks hc hs (fun fs hr => X.lreturnOut hx hret hd hr) hQ
theorem own_retA (X : Stand p l e R s m args below meth c T locs cells slots) (hx : p.tables.exec = Jvm.exec) {pc : Nat} {Ls : Array Slot} {a : Addr} {t : FieldType} {rest : List Value} (hret : meth.sig.returnType = some t) (ht : t.isReference = true)
    (hd : decode c.code pc = .ok (.areturn, 1)) (hlocks : meth.locks = false) (hc : cells ≤ kc) (hs : slots ≤ ks) (hQ : Q (some (.ref a)) T.heap locs) : own_Fin p e below s Q kc ks (T.setTop (mkF m pc Ls (.ref a :: rest))) :=
  own_end X (v := some (.ref a)) (fun h => by rw [hret] at h; cases h) hlocks hc hs (fun fs hr => retOut X hx hret (by cases t <;> first | rfl | (simp [FieldType.isReference] at ht)) (Or.inr (Or.inr (Or.inr (Or.inr ⟨rfl, ht, rfl⟩)))) hd hr) hQ
theorem own_ret0 (X : Stand p l e R s m args below meth c T locs cells slots) (hx : p.tables.exec = Jvm.exec) {pc : Nat} {Ls : Array Slot} (hret : meth.sig.returnType = none)
    (hd : decode c.code pc = .ok (.return_, 1)) (hlocks : meth.locks = false) (hc : cells ≤ kc) (hs : slots ≤ ks) (hQ : Q none T.heap locs) : own_Fin p e below s Q kc ks (T.setTop (mkF m pc Ls [])) :=
  own_end X (v := none) (fun _ => rfl) hlocks hc hs (fun fs hr => X.returnOut hx hret hd hr) hQ
end OwnRet
theorem own_selp {s : State} {args args' : Array Value} {C : String} {y w : MethodName} (hw : (Jvm.Cond.selects C w w).before args s = true) (hcls : w.cls = y.cls) (hpriv : s.PrivateAt y) (hinst : (Jvm.Cond.instanceMethod y).before args s = true) (hy : y.cls ≠ "java/lang/invoke/MethodHandle" ∧ y.cls ≠ "java/lang/invoke/VarHandle") : (Jvm.Cond.selects y.cls y y).before args' s = true := by
  obtain ⟨c2, r2, m2, -, -, q3, -, kP, hkP, hkPi⟩ := Cond.selects_spec hw
  exact selects_self_of_private (by rw [← hcls]; exact findClass_of_methodNamed q3) hkP hkPi hpriv hinst hy
theorem own_eqInt {args : Array Value} {first s : State} {o : Option Outcome} {idx : List Nat} {t : Term} {n : Int32} (h : (Jvm.Cond.eq t (.int n)).value args first o s idx = some true) : t.eval args first o idx s = some (.int n) := by
  cases ht : t.eval args first o idx s with
  | none => simp [Jvm.Cond.value, ht] at h
  | some x => cases x <;> simp [Jvm.Cond.value, ht, Term.eval] at h ⊢; exact h
theorem own_fld {args : Array Value} {first s : State} {o : Option Outcome} {idx : List Nat} {t : Term} {C n d : String} {a : Addr} {v : Value} (ht : t.eval args first o idx s = some (.ref a)) (h : (Term.field t C n d).eval args first o idx s = some v) : s.fieldOf? a C n d = some v := by
  rw [← fld_at ht]; exact h
def own_min (a b : Int64) : Int64 := if b < a then b else a
def own_max (a b : Int64) : Int64 := if a < b then b else a
def own_viol (o x b : Addr) : Int32 := if o = x then 1 else if o = b then 1 else 0
theorem own_dmi_0 : decode jdk_29_method_70_code 0 = .ok (.lload_n 0, 1) := by decide +kernel
theorem own_dmi_1 : decode jdk_29_method_70_code 1 = .ok (.lload_n 2, 1) := by decide +kernel
theorem own_dmi_2 : decode jdk_29_method_70_code 2 = .ok (.lcmp, 1) := by decide +kernel
theorem own_dmi_3 : decode jdk_29_method_70_code 3 = .ok (.ifCond .gt 7, 3) := by decide +kernel
theorem own_dmi_6 : decode jdk_29_method_70_code 6 = .ok (.lload_n 0, 1) := by decide +kernel
theorem own_dmi_7 : decode jdk_29_method_70_code 7 = .ok (.goto 4, 3) := by decide +kernel
theorem own_dmi_10 : decode jdk_29_method_70_code 10 = .ok (.lload_n 2, 1) := by decide +kernel
theorem own_dmi_11 : decode jdk_29_method_70_code 11 = .ok (.lreturn, 1) := by decide +kernel
theorem own_ef_mi (m : MethodId) (va : Int64) (vb : Int64) : entryFrame m #[(.long va), (.long vb)] 4 = mkF m 0 #[.val (.long va), .second, .val (.long vb), .second] [] := by first | (simp [entryFrame, mkF, argsToLocals, Value.category]; done) | rfl
def own_Q_mi (Z : State) (va : Int64) (vb : Int64) (h0 : Heap) (n0 : Nat) (v : Option Value) (h : Heap) (L : List Loc) : Prop := v = some (.long (own_min va vb)) ∧ Fr n0 L ∧ h = h0
set_option maxRecDepth 65536 in
set_option maxHeartbeats 40000000 in
theorem own_rm_mi (l : Launch) (Z : State) (a0 : Array Value) (hw : ∀ d ∈ tables_1, d.before a0 Z = true) (ws : List Jvm.Cond) (va : Int64) (vb : Int64) (h0 : Heap) (n0 : Nat) (Z0 : n0 ≤ h0.size) :
    MetFree l (⟨"java/lang/Math", "min", "(JJ)J"⟩ : MethodName) (head1 (Jvm.Cond.code (⟨"java/lang/Math", "min", "(JJ)J"⟩ : MethodName) jdk_29_method_70_code 4 (some .long) :: ws) ({ frames := 0, cells := 0, slots := 0, locals := 0 } : Room)) (fun a U => a = #[(.long va), (.long vb)] ∧ Z.Warmed39 U.vm ∧ U.heap = h0) (fun _ _ _ _ _ => True) (fun _ U o U' => ∃ v L, o = .returned v ∧ own_Q_mi Z va vb h0 n0 v U'.heap L ∧ FrameEnd U o U' L ({ frames := 0, cells := 0, slots := 0, locals := 0 } : Room).cells ({ frames := 0, cells := 0, slots := 0, locals := 0 } : Room).slots) := by
  refine MetFree.of_bodySF (Jvm.Free.JP.mathPlain rfl (by decide +kernel)) hisR ?_
  intro p e s m args below meth c s₁ Bd hml0 hP hK
  obtain ⟨rfl, hZ, hh⟩ := hP
  have hx := Bd.exec
  have hby := Bd.bytes
  have hml : c.maxLocals = 4 := hml0
  have hown : s.vm.findClass "java/lang/Math" = some m.cls := findClass_of_methodNamed Bd.named
  have hnm := (name_of_methodNamed Bd.named Bd.method).1
  have X0 : Stand p l e ({ frames := 0, cells := 0, slots := 0, locals := 0 } : Room) s m #[(.long va), (.long vb)] below meth c s₁ [] 0 0 := Stand.of_body Bd
  have e0 : s₁.heap = h0 := by rw [← hh, Bd.state]; rfl
  have N0 := Fr.nil n0
  show own_Fin p e below s (own_Q_mi Z va vb h0 n0) ({ frames := 0, cells := 0, slots := 0, locals := 0 } : Room).cells ({ frames := 0, cells := 0, slots := 0, locals := 0 } : Room).slots (s₁.setTop (entryFrame m #[(.long va), (.long vb)] 4))
  refine own_Fin.go (fun t k => castTop (own_ef_mi m va vb) k) ?_
  refine own_Fin.go (fun t k => XS.lloadN X0.here hx rfl (hb hby own_dmi_0) rfl k) ?_
  show own_Fin _ _ _ _ _ _ _ (s₁.setTop (mkF m 1 #[.val (.long va), .second, .val (.long vb), .second] [(.long va)]))
  refine own_Fin.go (fun t k => XS.lloadN X0.here hx rfl (hb hby own_dmi_1) rfl k) ?_
  show own_Fin _ _ _ _ _ _ _ (s₁.setTop (mkF m 2 #[.val (.long va), .second, .val (.long vb), .second] [(.long vb), (.long va)]))
  refine own_Fin.go (fun t k => XS.lcmp X0.here hx rfl (hb hby own_dmi_2) rfl k) ?_
  show own_Fin _ _ _ _ _ _ _ (s₁.setTop (mkF m 3 #[.val (.long va), .second, .val (.long vb), .second] [(.int (lcmpW va vb))]))
  by_cases hc3 : vb < va
  · refine own_Fin.go (fun t k => XS.ifYes X0.here hx rfl (pc0 := 3) (pc' := 10) rfl (hb hby own_dmi_3) rfl (Jvm.Free.XT.ll_gt_t hc3) (by decide) (by decide) k) ?_
    show own_Fin _ _ _ _ _ _ _ (s₁.setTop (mkF m 10 #[.val (.long va), .second, .val (.long vb), .second] []))
    refine own_Fin.go (fun t k => XS.lloadN X0.here hx rfl (hb hby own_dmi_10) rfl k) ?_
    show own_Fin _ _ _ _ _ _ _ (s₁.setTop (mkF m 11 #[.val (.long va), .second, .val (.long vb), .second] [(.long vb)]))
    refine own_retJ X0 hx Bd.returns (hb hby own_dmi_11) Bd.notSynchronized (by decide) (by decide) ?_
    rw [e0]
    exact ⟨by simp only [own_min, if_pos hc3], N0, rfl⟩
  · refine own_Fin.go (fun t k => XS.ifNo X0.here hx rfl (hb hby own_dmi_3) rfl (Jvm.Free.XT.ll_gt_f hc3) k) ?_
    show own_Fin _ _ _ _ _ _ _ (s₁.setTop (mkF m 6 #[.val (.long va), .second, .val (.long vb), .second] []))
    refine own_Fin.go (fun t k => XS.lloadN X0.here hx rfl (hb hby own_dmi_6) rfl k) ?_
    show own_Fin _ _ _ _ _ _ _ (s₁.setTop (mkF m 7 #[.val (.long va), .second, .val (.long vb), .second] [(.long va)]))
    refine own_Fin.go (fun t k => XS.goto X0.here hx rfl (pc0 := 7) (pc' := 11) rfl (hb hby own_dmi_7) (by decide) (by decide) k) ?_
    show own_Fin _ _ _ _ _ _ _ (s₁.setTop (mkF m 11 #[.val (.long va), .second, .val (.long vb), .second] [(.long va)]))
    refine own_retJ X0 hx Bd.returns (hb hby own_dmi_11) Bd.notSynchronized (by decide) (by decide) ?_
    rw [e0]
    exact ⟨by simp only [own_min, if_neg hc3], N0, rfl⟩
theorem own_dma_0 : decode jdk_29_method_66_code 0 = .ok (.lload_n 0, 1) := by decide +kernel
theorem own_dma_1 : decode jdk_29_method_66_code 1 = .ok (.lload_n 2, 1) := by decide +kernel
theorem own_dma_2 : decode jdk_29_method_66_code 2 = .ok (.lcmp, 1) := by decide +kernel
theorem own_dma_3 : decode jdk_29_method_66_code 3 = .ok (.ifCond .lt 7, 3) := by decide +kernel
theorem own_dma_6 : decode jdk_29_method_66_code 6 = .ok (.lload_n 0, 1) := by decide +kernel
theorem own_dma_7 : decode jdk_29_method_66_code 7 = .ok (.goto 4, 3) := by decide +kernel
theorem own_dma_10 : decode jdk_29_method_66_code 10 = .ok (.lload_n 2, 1) := by decide +kernel
theorem own_dma_11 : decode jdk_29_method_66_code 11 = .ok (.lreturn, 1) := by decide +kernel
theorem own_ef_ma (m : MethodId) (va : Int64) (vb : Int64) : entryFrame m #[(.long va), (.long vb)] 4 = mkF m 0 #[.val (.long va), .second, .val (.long vb), .second] [] := by first | (simp [entryFrame, mkF, argsToLocals, Value.category]; done) | rfl
def own_Q_ma (Z : State) (va : Int64) (vb : Int64) (h0 : Heap) (n0 : Nat) (v : Option Value) (h : Heap) (L : List Loc) : Prop := v = some (.long (own_max va vb)) ∧ Fr n0 L ∧ h = h0
set_option maxRecDepth 65536 in
set_option maxHeartbeats 40000000 in
theorem own_rm_ma (l : Launch) (Z : State) (a0 : Array Value) (hw : ∀ d ∈ tables_1, d.before a0 Z = true) (ws : List Jvm.Cond) (va : Int64) (vb : Int64) (h0 : Heap) (n0 : Nat) (Z0 : n0 ≤ h0.size) :
    MetFree l (⟨"java/lang/Math", "max", "(JJ)J"⟩ : MethodName) (head1 (Jvm.Cond.code (⟨"java/lang/Math", "max", "(JJ)J"⟩ : MethodName) jdk_29_method_66_code 4 (some .long) :: ws) ({ frames := 0, cells := 0, slots := 0, locals := 0 } : Room)) (fun a U => a = #[(.long va), (.long vb)] ∧ Z.Warmed39 U.vm ∧ U.heap = h0) (fun _ _ _ _ _ => True) (fun _ U o U' => ∃ v L, o = .returned v ∧ own_Q_ma Z va vb h0 n0 v U'.heap L ∧ FrameEnd U o U' L ({ frames := 0, cells := 0, slots := 0, locals := 0 } : Room).cells ({ frames := 0, cells := 0, slots := 0, locals := 0 } : Room).slots) := by
  refine MetFree.of_bodySF (Jvm.Free.JP.mathPlain rfl (by decide +kernel)) hisR ?_
  intro p e s m args below meth c s₁ Bd hml0 hP hK
  obtain ⟨rfl, hZ, hh⟩ := hP
  have hx := Bd.exec
  have hby := Bd.bytes
  have hml : c.maxLocals = 4 := hml0
  have hown : s.vm.findClass "java/lang/Math" = some m.cls := findClass_of_methodNamed Bd.named
  have hnm := (name_of_methodNamed Bd.named Bd.method).1
  have X0 : Stand p l e ({ frames := 0, cells := 0, slots := 0, locals := 0 } : Room) s m #[(.long va), (.long vb)] below meth c s₁ [] 0 0 := Stand.of_body Bd
  have e0 : s₁.heap = h0 := by rw [← hh, Bd.state]; rfl
  have N0 := Fr.nil n0
  show own_Fin p e below s (own_Q_ma Z va vb h0 n0) ({ frames := 0, cells := 0, slots := 0, locals := 0 } : Room).cells ({ frames := 0, cells := 0, slots := 0, locals := 0 } : Room).slots (s₁.setTop (entryFrame m #[(.long va), (.long vb)] 4))
  refine own_Fin.go (fun t k => castTop (own_ef_ma m va vb) k) ?_
  refine own_Fin.go (fun t k => XS.lloadN X0.here hx rfl (hb hby own_dma_0) rfl k) ?_
  show own_Fin _ _ _ _ _ _ _ (s₁.setTop (mkF m 1 #[.val (.long va), .second, .val (.long vb), .second] [(.long va)]))
  refine own_Fin.go (fun t k => XS.lloadN X0.here hx rfl (hb hby own_dma_1) rfl k) ?_
  show own_Fin _ _ _ _ _ _ _ (s₁.setTop (mkF m 2 #[.val (.long va), .second, .val (.long vb), .second] [(.long vb), (.long va)]))
  refine own_Fin.go (fun t k => XS.lcmp X0.here hx rfl (hb hby own_dma_2) rfl k) ?_
  show own_Fin _ _ _ _ _ _ _ (s₁.setTop (mkF m 3 #[.val (.long va), .second, .val (.long vb), .second] [(.int (lcmpW va vb))]))
  by_cases hc3 : va < vb
  · refine own_Fin.go (fun t k => XS.ifYes X0.here hx rfl (pc0 := 3) (pc' := 10) rfl (hb hby own_dma_3) rfl (Jvm.Free.XT.ll_lt_t hc3) (by decide) (by decide) k) ?_
    show own_Fin _ _ _ _ _ _ _ (s₁.setTop (mkF m 10 #[.val (.long va), .second, .val (.long vb), .second] []))
    refine own_Fin.go (fun t k => XS.lloadN X0.here hx rfl (hb hby own_dma_10) rfl k) ?_
    show own_Fin _ _ _ _ _ _ _ (s₁.setTop (mkF m 11 #[.val (.long va), .second, .val (.long vb), .second] [(.long vb)]))
    refine own_retJ X0 hx Bd.returns (hb hby own_dma_11) Bd.notSynchronized (by decide) (by decide) ?_
    rw [e0]
    exact ⟨by simp only [own_max, if_pos hc3], N0, rfl⟩
  · refine own_Fin.go (fun t k => XS.ifNo X0.here hx rfl (hb hby own_dma_3) rfl (Jvm.Free.XT.ll_lt_f hc3) k) ?_
    show own_Fin _ _ _ _ _ _ _ (s₁.setTop (mkF m 6 #[.val (.long va), .second, .val (.long vb), .second] []))
    refine own_Fin.go (fun t k => XS.lloadN X0.here hx rfl (hb hby own_dma_6) rfl k) ?_
    show own_Fin _ _ _ _ _ _ _ (s₁.setTop (mkF m 7 #[.val (.long va), .second, .val (.long vb), .second] [(.long va)]))
    refine own_Fin.go (fun t k => XS.goto X0.here hx rfl (pc0 := 7) (pc' := 11) rfl (hb hby own_dma_7) (by decide) (by decide) k) ?_
    show own_Fin _ _ _ _ _ _ _ (s₁.setTop (mkF m 11 #[.val (.long va), .second, .val (.long vb), .second] [(.long va)]))
    refine own_retJ X0 hx Bd.returns (hb hby own_dma_11) Bd.notSynchronized (by decide) (by decide) ?_
    rw [e0]
    exact ⟨by simp only [own_max, if_neg hc3], N0, rfl⟩
theorem own_div_0 : decode prog_9_method_4_code 0 = .ok (.aload_n 0, 1) := by decide +kernel
theorem own_div_1 : decode prog_9_method_4_code 1 = .ok (.getstatic 7, 3) := by decide +kernel
theorem own_div_4 : decode prog_9_method_4_code 4 = .ok (.if_acmp .eq 10, 3) := by decide +kernel
theorem own_div_7 : decode prog_9_method_4_code 7 = .ok (.aload_n 0, 1) := by decide +kernel
theorem own_div_8 : decode prog_9_method_4_code 8 = .ok (.getstatic 10, 3) := by decide +kernel
theorem own_div_11 : decode prog_9_method_4_code 11 = .ok (.if_acmp .ne 7, 3) := by decide +kernel
theorem own_div_14 : decode prog_9_method_4_code 14 = .ok (.iconst 1, 1) := by decide +kernel
theorem own_div_15 : decode prog_9_method_4_code 15 = .ok (.goto 4, 3) := by decide +kernel
theorem own_div_18 : decode prog_9_method_4_code 18 = .ok (.iconst 0, 1) := by decide +kernel
theorem own_div_19 : decode prog_9_method_4_code 19 = .ok (.ireturn, 1) := by decide +kernel
theorem own_pn0 : plainName "com/example/latebound/latebound/analysis/latency/FlowLatency$Verdict" = true := by first | (simp [plainName, overriddenIn]; done) | decide +kernel
theorem own_ef_iv (m : MethodId) (oa : Addr) : entryFrame m #[(.ref oa)] 1 = mkF m 0 #[.val (.ref oa)] [] := by first | (simp [entryFrame, mkF, argsToLocals, Value.category]; done) | rfl
def own_Q_iv (Z : State) (oa : Addr) (ox : Addr) (ob : Addr) (h0 : Heap) (n0 : Nat) (v : Option Value) (h : Heap) (L : List Loc) : Prop := v = some (.int (own_viol oa ox ob)) ∧ Fr n0 L ∧ h = h0
set_option maxRecDepth 65536 in
set_option maxHeartbeats 40000000 in
theorem own_rm_iv (l : Launch) (Z : State) (a0 : Array Value) (hw : ∀ d ∈ tables_1, d.before a0 Z = true) (ws : List Jvm.Cond) (oa : Addr) (ox : Addr) (ob : Addr) (h0 : Heap) (n0 : Nat) (Z0 : n0 ≤ h0.size) (S_EXCEEDED : Sta Z h0 "com/example/latebound/latebound/analysis/latency/FlowLatency$Verdict" "EXCEEDED" "Lcom/example/latebound/latebound/analysis/latency/FlowLatency$Verdict;" (.ref ox)) (S_BELOW : Sta Z h0 "com/example/latebound/latebound/analysis/latency/FlowLatency$Verdict" "BELOW" "Lcom/example/latebound/latebound/analysis/latency/FlowLatency$Verdict;" (.ref ob)) :
    MetFree l (⟨"com/example/latebound/latebound/analysis/latency/FlowLatency$Verdict", "isViolation", "()Z"⟩ : MethodName) (head1 (Jvm.Cond.code (⟨"com/example/latebound/latebound/analysis/latency/FlowLatency$Verdict", "isViolation", "()Z"⟩ : MethodName) prog_9_method_4_code 1 (some .boolean) :: ws) ({ frames := 0, cells := 0, slots := 0, locals := 0 } : Room)) (fun a U => a = #[(.ref oa)] ∧ Z.Warmed39 U.vm ∧ U.heap = h0) (fun _ _ _ _ _ => True) (fun _ U o U' => ∃ v L, o = .returned v ∧ own_Q_iv Z oa ox ob h0 n0 v U'.heap L ∧ FrameEnd U o U' L ({ frames := 0, cells := 0, slots := 0, locals := 0 } : Room).cells ({ frames := 0, cells := 0, slots := 0, locals := 0 } : Room).slots) := by
  refine MetFree.of_bodySF (plainFor_of_name own_pn0) hisR ?_
  intro p e s m args below meth c s₁ Bd hml0 hP hK
  obtain ⟨rfl, hZ, hh⟩ := hP
  have hx := Bd.exec
  have hby := Bd.bytes
  have hml : c.maxLocals = 1 := hml0
  have hown : s.vm.findClass "com/example/latebound/latebound/analysis/latency/FlowLatency$Verdict" = some m.cls := findClass_of_methodNamed Bd.named
  have hnm := (name_of_methodNamed Bd.named Bd.method).1
  have X0 : Stand p l e ({ frames := 0, cells := 0, slots := 0, locals := 0 } : Room) s m #[(.ref oa)] below meth c s₁ [] 0 0 := Stand.of_body Bd
  have e0 : s₁.heap = h0 := by rw [← hh, Bd.state]; rfl
  have N0 := Fr.nil n0
  show own_Fin p e below s (own_Q_iv Z oa ox ob h0 n0) ({ frames := 0, cells := 0, slots := 0, locals := 0 } : Room).cells ({ frames := 0, cells := 0, slots := 0, locals := 0 } : Room).slots (s₁.setTop (entryFrame m #[(.ref oa)] 1))
  refine own_Fin.go (fun t k => castTop (own_ef_iv m oa) k) ?_
  refine own_Fin.go (fun t k => XS.aloadN X0.here hx rfl (hb hby own_div_0) rfl rfl k) ?_
  show own_Fin _ _ _ _ _ _ _ (s₁.setTop (mkF m 1 #[.val (.ref oa)] [(.ref oa)]))
  obtain ⟨T1, X1, e1, st1⟩ := getS2 X0 hx hZ hown (host := "") (Or.inl (hw _ (List.mem_of_getElem? (i := 15) rfl))) Via.refl e0 S_EXCEEDED (g := (mkF m 1 #[.val (.ref oa)] [(.ref oa)])) rfl (hb hby own_div_1)
  refine own_Fin.go st1 ?_
  show own_Fin _ _ _ _ _ _ _ (T1.setTop (mkF m 4 #[.val (.ref oa)] [(.ref ox), (.ref oa)]))
  by_cases ha4 : oa = ox
  · refine own_Fin.go (fun t k => Jvm.RoadKit.acmp (g := (mkF m 4 #[.val (.ref oa)] [(.ref ox), (.ref oa)])) X1 hx rfl rfl rfl (pc0 := 4) (pc' := 14) (same := true) rfl (hb hby own_div_4) rfl (decide_eq_true (congrArg Value.ref ha4)) (by decide) (by decide) k) ?_
    show own_Fin _ _ _ _ _ _ _ (T1.setTop (mkF m 14 #[.val (.ref oa)] []))
    refine own_Fin.go (fun t k => XS.iconst X1.here hx rfl (hb hby own_div_14) k) ?_
    show own_Fin _ _ _ _ _ _ _ (T1.setTop (mkF m 15 #[.val (.ref oa)] [(.int (1 : Int32))]))
    refine own_Fin.go (fun t k => XS.goto X1.here hx rfl (pc0 := 15) (pc' := 19) rfl (hb hby own_div_15) (by decide) (by decide) k) ?_
    show own_Fin _ _ _ _ _ _ _ (T1.setTop (mkF m 19 #[.val (.ref oa)] [(.int (1 : Int32))]))
    refine own_retN X1 hx (t := .boolean) (w := (1 : Int32)) Bd.returns (by simp) (hb hby own_div_19) Bd.notSynchronized rfl (by decide) (by decide) ?_
    rw [e1]
    exact ⟨by simp only [own_viol, if_pos ha4], N0, rfl⟩
  · refine own_Fin.go (fun t k => Jvm.RoadKit.acmp (g := (mkF m 4 #[.val (.ref oa)] [(.ref ox), (.ref oa)])) X1 hx rfl rfl rfl (pc0 := 4) (pc' := 7) (same := false) rfl (hb hby own_div_4) rfl (decide_eq_false fun q => ha4 (Value.ref.inj q)) (by decide) (by decide) k) ?_
    show own_Fin _ _ _ _ _ _ _ (T1.setTop (mkF m 7 #[.val (.ref oa)] []))
    refine own_Fin.go (fun t k => XS.aloadN X1.here hx rfl (hb hby own_div_7) rfl rfl k) ?_
    show own_Fin _ _ _ _ _ _ _ (T1.setTop (mkF m 8 #[.val (.ref oa)] [(.ref oa)]))
    obtain ⟨T2, X2, e2, st2⟩ := getS2 X1 hx hZ hown (host := "") (Or.inl (hw _ (List.mem_of_getElem? (i := 17) rfl))) Via.refl e1 S_BELOW (g := (mkF m 8 #[.val (.ref oa)] [(.ref oa)])) rfl (hb hby own_div_8)
    refine own_Fin.go st2 ?_
    show own_Fin _ _ _ _ _ _ _ (T2.setTop (mkF m 11 #[.val (.ref oa)] [(.ref ob), (.ref oa)]))
    by_cases ha11 : oa = ob
    · refine own_Fin.go (fun t k => Jvm.RoadKit.acmp (g := (mkF m 11 #[.val (.ref oa)] [(.ref ob), (.ref oa)])) X2 hx rfl rfl rfl (pc0 := 11) (pc' := 14) (same := true) rfl (hb hby own_div_11) rfl (decide_eq_true (congrArg Value.ref ha11)) (by decide) (by decide) k) ?_
      show own_Fin _ _ _ _ _ _ _ (T2.setTop (mkF m 14 #[.val (.ref oa)] []))
      refine own_Fin.go (fun t k => XS.iconst X2.here hx rfl (hb hby own_div_14) k) ?_
      show own_Fin _ _ _ _ _ _ _ (T2.setTop (mkF m 15 #[.val (.ref oa)] [(.int (1 : Int32))]))
      refine own_Fin.go (fun t k => XS.goto X2.here hx rfl (pc0 := 15) (pc' := 19) rfl (hb hby own_div_15) (by decide) (by decide) k) ?_
      show own_Fin _ _ _ _ _ _ _ (T2.setTop (mkF m 19 #[.val (.ref oa)] [(.int (1 : Int32))]))
      refine own_retN X2 hx (t := .boolean) (w := (1 : Int32)) Bd.returns (by simp) (hb hby own_div_19) Bd.notSynchronized rfl (by decide) (by decide) ?_
      rw [e2]
      exact ⟨by simp only [own_viol, if_neg ha4, if_pos ha11], N0, rfl⟩
    · refine own_Fin.go (fun t k => Jvm.RoadKit.acmp (g := (mkF m 11 #[.val (.ref oa)] [(.ref ob), (.ref oa)])) X2 hx rfl rfl rfl (pc0 := 11) (pc' := 18) (same := false) rfl (hb hby own_div_11) rfl (decide_eq_false fun q => ha11 (Value.ref.inj q)) (by decide) (by decide) k) ?_
      show own_Fin _ _ _ _ _ _ _ (T2.setTop (mkF m 18 #[.val (.ref oa)] []))
      refine own_Fin.go (fun t k => XS.iconst X2.here hx rfl (hb hby own_div_18) k) ?_
      show own_Fin _ _ _ _ _ _ _ (T2.setTop (mkF m 19 #[.val (.ref oa)] [(.int (0 : Int32))]))
      refine own_retN X2 hx (t := .boolean) (w := (0 : Int32)) Bd.returns (by simp) (hb hby own_div_19) Bd.notSynchronized rfl (by decide) (by decide) ?_
      rw [e2]
      exact ⟨by simp only [own_viol, if_neg ha4, if_neg ha11], N0, rfl⟩
theorem own_pd0 : parseMethodDescriptor "(JJ)J" = some ⟨[.long, .long], some .long⟩ := by decide +kernel
theorem own_pd1 : parseMethodDescriptor "()Z" = some ⟨[], some .boolean⟩ := by decide +kernel
theorem own_pn1 : plainName "com/example/latebound/latebound/analysis/latency/VerdictIsViolationPinLaw" = true := by first | (simp [plainName, overriddenIn]; done) | decide +kernel
theorem own_ef_law (m : MethodId) (va : Int64) (vb : Int64) (vc : Int64) (vd : Int64) (ve : Int32) : entryFrame m #[(.long va), (.long vb), (.long vc), (.long vd), (.int ve)] maxLocals = mkF m 0 #[.val (.long va), .second, .val (.long vb), .second, .val (.long vc), .second, .val (.long vd), .second, .val (.int ve), .unset, .unset, .unset, .unset, .unset, .unset, .unset, .unset, .unset, .unset, .unset] [] := by first | (simp [entryFrame, mkF, argsToLocals, Value.category, maxLocals]; done) | rfl
def own_Q_law (Z : State) (va : Int64) (vb : Int64) (vc : Int64) (vd : Int64) (ve : Int32) (oUNCHECKED : Addr) (oEXCEEDED : Addr) (oBELOW : Addr) (oOK : Addr) (h0 : Heap) (n0 : Nat) (v : Option Value) (h : Heap) (L : List Loc) : Prop := v = some (.int (1 : Int32)) ∧ Fr n0 L
set_option maxRecDepth 65536 in
set_option maxHeartbeats 40000000 in
theorem own_rm_law (l : Launch) (Z : State) (a0 : Array Value) (hw : ∀ d ∈ tables_1, d.before a0 Z = true) (ws : List Jvm.Cond) (va : Int64) (vb : Int64) (vc : Int64) (vd : Int64) (ve : Int32) (oUNCHECKED : Addr) (oEXCEEDED : Addr) (oBELOW : Addr) (oOK : Addr) (h0 : Heap) (n0 : Nat) (Z0 : n0 ≤ h0.size) (S_UNCHECKED : Sta Z h0 "com/example/latebound/latebound/analysis/latency/FlowLatency$Verdict" "UNCHECKED" "Lcom/example/latebound/latebound/analysis/latency/FlowLatency$Verdict;" (.ref oUNCHECKED)) (E_oUNCHECKED : Exa Z h0 oUNCHECKED "com/example/latebound/latebound/analysis/latency/FlowLatency$Verdict") (S_EXCEEDED : Sta Z h0 "com/example/latebound/latebound/analysis/latency/FlowLatency$Verdict" "EXCEEDED" "Lcom/example/latebound/latebound/analysis/latency/FlowLatency$Verdict;" (.ref oEXCEEDED)) (E_oEXCEEDED : Exa Z h0 oEXCEEDED "com/example/latebound/latebound/analysis/latency/FlowLatency$Verdict") (S_BELOW : Sta Z h0 "com/example/latebound/latebound/analysis/latency/FlowLatency$Verdict" "BELOW" "Lcom/example/latebound/latebound/analysis/latency/FlowLatency$Verdict;" (.ref oBELOW)) (E_oBELOW : Exa Z h0 oBELOW "com/example/latebound/latebound/analysis/latency/FlowLatency$Verdict") (S_OK : Sta Z h0 "com/example/latebound/latebound/analysis/latency/FlowLatency$Verdict" "OK" "Lcom/example/latebound/latebound/analysis/latency/FlowLatency$Verdict;" (.ref oOK)) (E_oOK : Exa Z h0 oOK "com/example/latebound/latebound/analysis/latency/FlowLatency$Verdict") (F_oUNCHECKED_ordinal : Fld Z h0 oUNCHECKED "java/lang/Enum" "ordinal" "I" (.int (3 : Int32))) (F_oEXCEEDED_ordinal : Fld Z h0 oEXCEEDED "java/lang/Enum" "ordinal" "I" (.int (1 : Int32))) (F_oBELOW_ordinal : Fld Z h0 oBELOW "java/lang/Enum" "ordinal" "I" (.int (2 : Int32))) (F_oOK_ordinal : Fld Z h0 oOK "java/lang/Enum" "ordinal" "I" (.int (0 : Int32))) (ne_oUNCHECKED_oEXCEEDED : oUNCHECKED ≠ oEXCEEDED) (ne_oUNCHECKED_oBELOW : oUNCHECKED ≠ oBELOW) (ne_oUNCHECKED_oOK : oUNCHECKED ≠ oOK) (ne_oEXCEEDED_oBELOW : oEXCEEDED ≠ oBELOW) (ne_oEXCEEDED_oOK : oEXCEEDED ≠ oOK) (ne_oBELOW_oOK : oBELOW ≠ oOK) :
    MetFree l x (head1 (Jvm.Cond.code x code maxLocals ret :: ws) room_1) (fun a U => a = #[(.long va), (.long vb), (.long vc), (.long vd), (.int ve)] ∧ Z.Warmed39 U.vm ∧ U.heap = h0) (fun _ _ _ _ _ => True) (fun _ U o U' => ∃ v L, o = .returned v ∧ own_Q_law Z va vb vc vd ve oUNCHECKED oEXCEEDED oBELOW oOK h0 n0 v U'.heap L ∧ FrameEnd U o U' L room_1.cells room_1.slots) := by
  refine MetFree.of_bodySF (plainFor_of_name own_pn1) hisR ?_
  intro p e s m args below meth c s₁ Bd hml0 hP hK
  obtain ⟨rfl, hZ, hh⟩ := hP
  have hx := Bd.exec
  have hby := Bd.bytes
  have hml : c.maxLocals = 20 := hml0
  have hown : s.vm.findClass "com/example/latebound/latebound/analysis/latency/VerdictIsViolationPinLaw" = some m.cls := findClass_of_methodNamed Bd.named
  have hnm := (name_of_methodNamed Bd.named Bd.method).1
  have X0 : Stand p l e room_1 s m #[(.long va), (.long vb), (.long vc), (.long vd), (.int ve)] below meth c s₁ [] 0 0 := Stand.of_body Bd
  have e0 : s₁.heap = h0 := by rw [← hh, Bd.state]; rfl
  have N0 := Fr.nil n0
  show own_Fin p e below s (own_Q_law Z va vb vc vd ve oUNCHECKED oEXCEEDED oBELOW oOK h0 n0) room_1.cells room_1.slots (s₁.setTop (entryFrame m #[(.long va), (.long vb), (.long vc), (.long vd), (.int ve)] maxLocals))
  refine own_Fin.go (fun t k => castTop (own_ef_law m va vb vc vd ve) k) ?_
  refine own_Fin.go (fun t k => XS.lloadN X0.here hx rfl (hb hby at_0) rfl k) ?_
  show own_Fin _ _ _ _ _ _ _ (s₁.setTop (mkF m 1 #[.val (.long va), .second, .val (.long vb), .second, .val (.long vc), .second, .val (.long vd), .second, .val (.int ve), .unset, .unset, .unset, .unset, .unset, .unset, .unset, .unset, .unset, .unset, .unset] [(.long va)]))
  refine own_Fin.go (fun t k => XS.lloadN X0.here hx rfl (hb hby at_1) rfl k) ?_
  show own_Fin _ _ _ _ _ _ _ (s₁.setTop (mkF m 2 #[.val (.long va), .second, .val (.long vb), .second, .val (.long vc), .second, .val (.long vd), .second, .val (.int ve), .unset, .unset, .unset, .unset, .unset, .unset, .unset, .unset, .unset, .unset, .unset] [(.long vb), (.long va)]))
  obtain ⟨_, _, ⟨T1, L1, k1, n1⟩, -, X1, ⟨Lc1, hQ1, l1, y1, z1⟩, st1⟩ := Jvm.LawKit.callS X0 hx (y := (⟨"java/lang/Math", "min", "(JJ)J"⟩ : MethodName)) hown (mvT hZ (hw _ (List.mem_of_getElem? (i := 0) rfl))) (mvT hZ (hw _ (List.mem_of_getElem? (i := 1) rfl))) (mvT hZ (hw _ (List.mem_of_getElem? (i := 2) rfl))) (mvT hZ (hw _ (List.mem_of_getElem? (i := 3) rfl))) (by decide) (backOf (W := 0) (own_rm_mi l Z a0 hw [] va vb  h0 n0 Z0 ) hZ (hw _ (List.mem_of_getElem? (i := 3) rfl)) (hw _ (List.mem_of_getElem? (i := 2) rfl)) (by decide) (by decide)) (g := (mkF m 2 #[.val (.long va), .second, .val (.long vb), .second, .val (.long vc), .second, .val (.long vd), .second, .val (.int ve), .unset, .unset, .unset, .unset, .unset, .unset, .unset, .unset, .unset, .unset, .unset] [(.long vb), (.long va)])) rfl (by rw [hml]; rfl) (argsL := [(.long va), (.long vb)]) (rest := []) (lenOf own_pd0 rfl) rfl (by show 2 * 0 + _ ≤ _; exact Nat.le_of_eq rfl) (hb hby at_2) (fun _ _ => ⟨rfl, e0, (by decide : 0 + 0 ≤ _), (by decide : 0 + 0 ≤ _)⟩)
  dsimp only [Pt.U, Pt.locs, Pt.cells, Pt.slots] at X1 l1 y1 z1 st1 hQ1
  subst l1 y1 z1
  obtain ⟨rfl, N1q, e1⟩ := hQ1
  refine own_Fin.go (fun t k => st1 t k) ?_
  have N1 := Fr.app N0 N1q
  show own_Fin _ _ _ _ _ _ _ (T1.setTop (mkF m 5 #[.val (.long va), .second, .val (.long vb), .second, .val (.long vc), .second, .val (.long vd), .second, .val (.int ve), .unset, .unset, .unset, .unset, .unset, .unset, .unset, .unset, .unset, .unset, .unset] [(.long (own_min va vb))]))
  refine own_Fin.go (fun t k => XS.lstore X1.here hx rfl (hb hby at_5) rfl (l' := #[.val (.long va), .second, .val (.long vb), .second, .val (.long vc), .second, .val (.long vd), .second, .val (.int ve), .val (.long (own_min va vb)), .second, .unset, .unset, .unset, .unset, .unset, .unset, .unset, .unset, .unset]) rfl k) ?_
  show own_Fin _ _ _ _ _ _ _ (T1.setTop (mkF m 7 #[.val (.long va), .second, .val (.long vb), .second, .val (.long vc), .second, .val (.long vd), .second, .val (.int ve), .val (.long (own_min va vb)), .second, .unset, .unset, .unset, .unset, .unset, .unset, .unset, .unset, .unset] []))
  refine own_Fin.go (fun t k => XS.lloadN X1.here hx rfl (hb hby at_7) rfl k) ?_
  show own_Fin _ _ _ _ _ _ _ (T1.setTop (mkF m 8 #[.val (.long va), .second, .val (.long vb), .second, .val (.long vc), .second, .val (.long vd), .second, .val (.int ve), .val (.long (own_min va vb)), .second, .unset, .unset, .unset, .unset, .unset, .unset, .unset, .unset, .unset] [(.long va)]))
  refine own_Fin.go (fun t k => XS.lloadN X1.here hx rfl (hb hby at_8) rfl k) ?_
  show own_Fin _ _ _ _ _ _ _ (T1.setTop (mkF m 9 #[.val (.long va), .second, .val (.long vb), .second, .val (.long vc), .second, .val (.long vd), .second, .val (.int ve), .val (.long (own_min va vb)), .second, .unset, .unset, .unset, .unset, .unset, .unset, .unset, .unset, .unset] [(.long vb), (.long va)]))
  obtain ⟨_, _, ⟨T2, L2, k2, n2⟩, -, X2, ⟨Lc2, hQ2, l2, y2, z2⟩, st2⟩ := Jvm.LawKit.callS X1 hx (y := (⟨"java/lang/Math", "max", "(JJ)J"⟩ : MethodName)) hown (mvT hZ (hw _ (List.mem_of_getElem? (i := 4) rfl))) (mvT hZ (hw _ (List.mem_of_getElem? (i := 5) rfl))) (mvT hZ (hw _ (List.mem_of_getElem? (i := 2) rfl))) (mvT hZ (hw _ (List.mem_of_getElem? (i := 6) rfl))) (by decide) (backOf (W := 0) (own_rm_ma l Z a0 hw [] va vb  h0 n0 Z0 ) hZ (hw _ (List.mem_of_getElem? (i := 6) rfl)) (hw _ (List.mem_of_getElem? (i := 2) rfl)) (by decide) (by decide)) (g := (mkF m 9 #[.val (.long va), .second, .val (.long vb), .second, .val (.long vc), .second, .val (.long vd), .second, .val (.int ve), .val (.long (own_min va vb)), .second, .unset, .unset, .unset, .unset, .unset, .unset, .unset, .unset, .unset] [(.long vb), (.long va)])) rfl (by rw [hml]; rfl) (argsL := [(.long va), (.long vb)]) (rest := []) (lenOf own_pd0 rfl) rfl (by show 2 * 0 + _ ≤ _; exact Nat.le_of_eq rfl) (hb hby at_9) (fun _ _ => ⟨rfl, e1, (by decide : 0 + 0 ≤ _), (by decide : 0 + 0 ≤ _)⟩)
  dsimp only [Pt.U, Pt.locs, Pt.cells, Pt.slots] at X2 l2 y2 z2 st2 hQ2
  subst l2 y2 z2
  obtain ⟨rfl, N2q, e2⟩ := hQ2
  refine own_Fin.go (fun t k => st2 t k) ?_
  have N2 := Fr.app N1 N2q
  show own_Fin _ _ _ _ _ _ _ (T2.setTop (mkF m 12 #[.val (.long va), .second, .val (.long vb), .second, .val (.long vc), .second, .val (.long vd), .second, .val (.int ve), .val (.long (own_min va vb)), .second, .unset, .unset, .unset, .unset, .unset, .unset, .unset, .unset, .unset] [(.long (own_max va vb))]))
  refine own_Fin.go (fun t k => XS.lstore X2.here hx rfl (hb hby at_12) rfl (l' := #[.val (.long va), .second, .val (.long vb), .second, .val (.long vc), .second, .val (.long vd), .second, .val (.int ve), .val (.long (own_min va vb)), .second, .val (.long (own_max va vb)), .second, .unset, .unset, .unset, .unset, .unset, .unset, .unset]) rfl k) ?_
  show own_Fin _ _ _ _ _ _ _ (T2.setTop (mkF m 14 #[.val (.long va), .second, .val (.long vb), .second, .val (.long vc), .second, .val (.long vd), .second, .val (.int ve), .val (.long (own_min va vb)), .second, .val (.long (own_max va vb)), .second, .unset, .unset, .unset, .unset, .unset, .unset, .unset] []))
  refine own_Fin.go (fun t k => XS.lload X2.here hx rfl (hb hby at_14) rfl k) ?_
  show own_Fin _ _ _ _ _ _ _ (T2.setTop (mkF m 16 #[.val (.long va), .second, .val (.long vb), .second, .val (.long vc), .second, .val (.long vd), .second, .val (.int ve), .val (.long (own_min va vb)), .second, .val (.long (own_max va vb)), .second, .unset, .unset, .unset, .unset, .unset, .unset, .unset] [(.long vc)]))
  refine own_Fin.go (fun t k => XS.lload X2.here hx rfl (hb hby at_16) rfl k) ?_
  show own_Fin _ _ _ _ _ _ _ (T2.setTop (mkF m 18 #[.val (.long va), .second, .val (.long vb), .second, .val (.long vc), .second, .val (.long vd), .second, .val (.int ve), .val (.long (own_min va vb)), .second, .val (.long (own_max va vb)), .second, .unset, .unset, .unset, .unset, .unset, .unset, .unset] [(.long vd), (.long vc)]))
  obtain ⟨_, _, ⟨T3, L3, k3, n3⟩, -, X3, ⟨Lc3, hQ3, l3, y3, z3⟩, st3⟩ := Jvm.LawKit.callS X2 hx (y := (⟨"java/lang/Math", "min", "(JJ)J"⟩ : MethodName)) hown (mvT hZ (hw _ (List.mem_of_getElem? (i := 0) rfl))) (mvT hZ (hw _ (List.mem_of_getElem? (i := 1) rfl))) (mvT hZ (hw _ (List.mem_of_getElem? (i := 2) rfl))) (mvT hZ (hw _ (List.mem_of_getElem? (i := 3) rfl))) (by decide) (backOf (W := 0) (own_rm_mi l Z a0 hw [] vc vd  h0 n0 Z0 ) hZ (hw _ (List.mem_of_getElem? (i := 3) rfl)) (hw _ (List.mem_of_getElem? (i := 2) rfl)) (by decide) (by decide)) (g := (mkF m 18 #[.val (.long va), .second, .val (.long vb), .second, .val (.long vc), .second, .val (.long vd), .second, .val (.int ve), .val (.long (own_min va vb)), .second, .val (.long (own_max va vb)), .second, .unset, .unset, .unset, .unset, .unset, .unset, .unset] [(.long vd), (.long vc)])) rfl (by rw [hml]; rfl) (argsL := [(.long vc), (.long vd)]) (rest := []) (lenOf own_pd0 rfl) rfl (by show 2 * 0 + _ ≤ _; exact Nat.le_of_eq rfl) (hb hby at_18) (fun _ _ => ⟨rfl, e2, (by decide : 0 + 0 ≤ _), (by decide : 0 + 0 ≤ _)⟩)
  dsimp only [Pt.U, Pt.locs, Pt.cells, Pt.slots] at X3 l3 y3 z3 st3 hQ3
  subst l3 y3 z3
  obtain ⟨rfl, N3q, e3⟩ := hQ3
  refine own_Fin.go (fun t k => st3 t k) ?_
  have N3 := Fr.app N2 N3q
  show own_Fin _ _ _ _ _ _ _ (T3.setTop (mkF m 21 #[.val (.long va), .second, .val (.long vb), .second, .val (.long vc), .second, .val (.long vd), .second, .val (.int ve), .val (.long (own_min va vb)), .second, .val (.long (own_max va vb)), .second, .unset, .unset, .unset, .unset, .unset, .unset, .unset] [(.long (own_min vc vd))]))
  refine own_Fin.go (fun t k => XS.lstore X3.here hx rfl (hb hby at_21) rfl (l' := #[.val (.long va), .second, .val (.long vb), .second, .val (.long vc), .second, .val (.long vd), .second, .val (.int ve), .val (.long (own_min va vb)), .second, .val (.long (own_max va vb)), .second, .val (.long (own_min vc vd)), .second, .unset, .unset, .unset, .unset, .unset]) rfl k) ?_
  show own_Fin _ _ _ _ _ _ _ (T3.setTop (mkF m 23 #[.val (.long va), .second, .val (.long vb), .second, .val (.long vc), .second, .val (.long vd), .second, .val (.int ve), .val (.long (own_min va vb)), .second, .val (.long (own_max va vb)), .second, .val (.long (own_min vc vd)), .second, .unset, .unset, .unset, .unset, .unset] []))
  refine own_Fin.go (fun t k => XS.lload X3.here hx rfl (hb hby at_23) rfl k) ?_
  show own_Fin _ _ _ _ _ _ _ (T3.setTop (mkF m 25 #[.val (.long va), .second, .val (.long vb), .second, .val (.long vc), .second, .val (.long vd), .second, .val (.int ve), .val (.long (own_min va vb)), .second, .val (.long (own_max va vb)), .second, .val (.long (own_min vc vd)), .second, .unset, .unset, .unset, .unset, .unset] [(.long vc)]))
  refine own_Fin.go (fun t k => XS.lload X3.here hx rfl (hb hby at_25) rfl k) ?_
  show own_Fin _ _ _ _ _ _ _ (T3.setTop (mkF m 27 #[.val (.long va), .second, .val (.long vb), .second, .val (.long vc), .second, .val (.long vd), .second, .val (.int ve), .val (.long (own_min va vb)), .second, .val (.long (own_max va vb)), .second, .val (.long (own_min vc vd)), .second, .unset, .unset, .unset, .unset, .unset] [(.long vd), (.long vc)]))
  obtain ⟨_, _, ⟨T4, L4, k4, n4⟩, -, X4, ⟨Lc4, hQ4, l4, y4, z4⟩, st4⟩ := Jvm.LawKit.callS X3 hx (y := (⟨"java/lang/Math", "max", "(JJ)J"⟩ : MethodName)) hown (mvT hZ (hw _ (List.mem_of_getElem? (i := 4) rfl))) (mvT hZ (hw _ (List.mem_of_getElem? (i := 5) rfl))) (mvT hZ (hw _ (List.mem_of_getElem? (i := 2) rfl))) (mvT hZ (hw _ (List.mem_of_getElem? (i := 6) rfl))) (by decide) (backOf (W := 0) (own_rm_ma l Z a0 hw [] vc vd  h0 n0 Z0 ) hZ (hw _ (List.mem_of_getElem? (i := 6) rfl)) (hw _ (List.mem_of_getElem? (i := 2) rfl)) (by decide) (by decide)) (g := (mkF m 27 #[.val (.long va), .second, .val (.long vb), .second, .val (.long vc), .second, .val (.long vd), .second, .val (.int ve), .val (.long (own_min va vb)), .second, .val (.long (own_max va vb)), .second, .val (.long (own_min vc vd)), .second, .unset, .unset, .unset, .unset, .unset] [(.long vd), (.long vc)])) rfl (by rw [hml]; rfl) (argsL := [(.long vc), (.long vd)]) (rest := []) (lenOf own_pd0 rfl) rfl (by show 2 * 0 + _ ≤ _; exact Nat.le_of_eq rfl) (hb hby at_27) (fun _ _ => ⟨rfl, e3, (by decide : 0 + 0 ≤ _), (by decide : 0 + 0 ≤ _)⟩)
  dsimp only [Pt.U, Pt.locs, Pt.cells, Pt.slots] at X4 l4 y4 z4 st4 hQ4
  subst l4 y4 z4
  obtain ⟨rfl, N4q, e4⟩ := hQ4
  refine own_Fin.go (fun t k => st4 t k) ?_
  have N4 := Fr.app N3 N4q
  show own_Fin _ _ _ _ _ _ _ (T4.setTop (mkF m 30 #[.val (.long va), .second, .val (.long vb), .second, .val (.long vc), .second, .val (.long vd), .second, .val (.int ve), .val (.long (own_min va vb)), .second, .val (.long (own_max va vb)), .second, .val (.long (own_min vc vd)), .second, .unset, .unset, .unset, .unset, .unset] [(.long (own_max vc vd))]))
  refine own_Fin.go (fun t k => XS.lstore X4.here hx rfl (hb hby at_30) rfl (l' := #[.val (.long va), .second, .val (.long vb), .second, .val (.long vc), .second, .val (.long vd), .second, .val (.int ve), .val (.long (own_min va vb)), .second, .val (.long (own_max va vb)), .second, .val (.long (own_min vc vd)), .second, .val (.long (own_max vc vd)), .second, .unset, .unset, .unset]) rfl k) ?_
  show own_Fin _ _ _ _ _ _ _ (T4.setTop (mkF m 32 #[.val (.long va), .second, .val (.long vb), .second, .val (.long vc), .second, .val (.long vd), .second, .val (.int ve), .val (.long (own_min va vb)), .second, .val (.long (own_max va vb)), .second, .val (.long (own_min vc vd)), .second, .val (.long (own_max vc vd)), .second, .unset, .unset, .unset] []))
  refine own_Fin.go (fun t k => XS.iload X4.here hx rfl (hb hby at_32) rfl k) ?_
  show own_Fin _ _ _ _ _ _ _ (T4.setTop (mkF m 34 #[.val (.long va), .second, .val (.long vb), .second, .val (.long vc), .second, .val (.long vd), .second, .val (.int ve), .val (.long (own_min va vb)), .second, .val (.long (own_max va vb)), .second, .val (.long (own_min vc vd)), .second, .val (.long (own_max vc vd)), .second, .unset, .unset, .unset] [(.int ve)]))
  refine own_Fin.go (fun t k => XS.iconst X4.here hx rfl (hb hby at_34) k) ?_
  show own_Fin _ _ _ _ _ _ _ (T4.setTop (mkF m 35 #[.val (.long va), .second, .val (.long vb), .second, .val (.long vc), .second, .val (.long vd), .second, .val (.int ve), .val (.long (own_min va vb)), .second, .val (.long (own_max va vb)), .second, .val (.long (own_min vc vd)), .second, .val (.long (own_max vc vd)), .second, .unset, .unset, .unset] [(.int (1 : Int32)), (.int ve)]))
  refine own_Fin.go (fun t k => XS.iand X4.here hx rfl (hb hby at_35) rfl k) ?_
  show own_Fin _ _ _ _ _ _ _ (T4.setTop (mkF m 36 #[.val (.long va), .second, .val (.long vb), .second, .val (.long vc), .second, .val (.long vd), .second, .val (.int ve), .val (.long (own_min va vb)), .second, .val (.long (own_max va vb)), .second, .val (.long (own_min vc vd)), .second, .val (.long (own_max vc vd)), .second, .unset, .unset, .unset] [(.int (ve &&& (1 : Int32)))]))
  by_cases hc36 : (ve &&& (1 : Int32)) = (0 : Int32)
  · refine own_Fin.go (fun t k => XS.ifNo X4.here hx rfl (hb hby at_36) rfl (Jvm.Free.XT.i0_ne_f hc36) k) ?_
    show own_Fin _ _ _ _ _ _ _ (T4.setTop (mkF m 39 #[.val (.long va), .second, .val (.long vb), .second, .val (.long vc), .second, .val (.long vd), .second, .val (.int ve), .val (.long (own_min va vb)), .second, .val (.long (own_max va vb)), .second, .val (.long (own_min vc vd)), .second, .val (.long (own_max vc vd)), .second, .unset, .unset, .unset] []))
    refine own_Fin.go (fun t k => XS.iconst X4.here hx rfl (hb hby at_39) k) ?_
    show own_Fin _ _ _ _ _ _ _ (T4.setTop (mkF m 40 #[.val (.long va), .second, .val (.long vb), .second, .val (.long vc), .second, .val (.long vd), .second, .val (.int ve), .val (.long (own_min va vb)), .second, .val (.long (own_max va vb)), .second, .val (.long (own_min vc vd)), .second, .val (.long (own_max vc vd)), .second, .unset, .unset, .unset] [(.int (1 : Int32))]))
    refine own_Fin.go (fun t k => XS.goto X4.here hx rfl (pc0 := 40) (pc' := 44) rfl (hb hby at_40) (by decide) (by decide) k) ?_
    show own_Fin _ _ _ _ _ _ _ (T4.setTop (mkF m 44 #[.val (.long va), .second, .val (.long vb), .second, .val (.long vc), .second, .val (.long vd), .second, .val (.int ve), .val (.long (own_min va vb)), .second, .val (.long (own_max va vb)), .second, .val (.long (own_min vc vd)), .second, .val (.long (own_max vc vd)), .second, .unset, .unset, .unset] [(.int (1 : Int32))]))
    refine own_Fin.go (fun t k => XS.istore X4.here hx rfl (hb hby at_44) rfl (l' := #[.val (.long va), .second, .val (.long vb), .second, .val (.long vc), .second, .val (.long vd), .second, .val (.int ve), .val (.long (own_min va vb)), .second, .val (.long (own_max va vb)), .second, .val (.long (own_min vc vd)), .second, .val (.long (own_max vc vd)), .second, .val (.int (1 : Int32)), .unset, .unset]) rfl k) ?_
    show own_Fin _ _ _ _ _ _ _ (T4.setTop (mkF m 46 #[.val (.long va), .second, .val (.long vb), .second, .val (.long vc), .second, .val (.long vd), .second, .val (.int ve), .val (.long (own_min va vb)), .second, .val (.long (own_max va vb)), .second, .val (.long (own_min vc vd)), .second, .val (.long (own_max vc vd)), .second, .val (.int (1 : Int32)), .unset, .unset] []))
    refine own_Fin.go (fun t k => XS.iload X4.here hx rfl (hb hby at_46) rfl k) ?_
    show own_Fin _ _ _ _ _ _ _ (T4.setTop (mkF m 48 #[.val (.long va), .second, .val (.long vb), .second, .val (.long vc), .second, .val (.long vd), .second, .val (.int ve), .val (.long (own_min va vb)), .second, .val (.long (own_max va vb)), .second, .val (.long (own_min vc vd)), .second, .val (.long (own_max vc vd)), .second, .val (.int (1 : Int32)), .unset, .unset] [(.int (1 : Int32))]))
    refine own_Fin.go (fun t k => XS.ifYes X4.here hx rfl (pc0 := 48) (pc' := 59) rfl (hb hby at_48) rfl (by decide) (by decide) (by decide) k) ?_
    show own_Fin _ _ _ _ _ _ _ (T4.setTop (mkF m 59 #[.val (.long va), .second, .val (.long vb), .second, .val (.long vc), .second, .val (.long vd), .second, .val (.int ve), .val (.long (own_min va vb)), .second, .val (.long (own_max va vb)), .second, .val (.long (own_min vc vd)), .second, .val (.long (own_max vc vd)), .second, .val (.int (1 : Int32)), .unset, .unset] []))
    refine own_Fin.go (fun t k => XS.lload X4.here hx rfl (hb hby at_59) rfl k) ?_
    show own_Fin _ _ _ _ _ _ _ (T4.setTop (mkF m 61 #[.val (.long va), .second, .val (.long vb), .second, .val (.long vc), .second, .val (.long vd), .second, .val (.int ve), .val (.long (own_min va vb)), .second, .val (.long (own_max va vb)), .second, .val (.long (own_min vc vd)), .second, .val (.long (own_max vc vd)), .second, .val (.int (1 : Int32)), .unset, .unset] [(.long (own_max va vb))]))
    refine own_Fin.go (fun t k => XS.lload X4.here hx rfl (hb hby at_61) rfl k) ?_
    show own_Fin _ _ _ _ _ _ _ (T4.setTop (mkF m 63 #[.val (.long va), .second, .val (.long vb), .second, .val (.long vc), .second, .val (.long vd), .second, .val (.int ve), .val (.long (own_min va vb)), .second, .val (.long (own_max va vb)), .second, .val (.long (own_min vc vd)), .second, .val (.long (own_max vc vd)), .second, .val (.int (1 : Int32)), .unset, .unset] [(.long (own_max vc vd)), (.long (own_max va vb))]))
    refine own_Fin.go (fun t k => XS.lcmp X4.here hx rfl (hb hby at_63) rfl k) ?_
    show own_Fin _ _ _ _ _ _ _ (T4.setTop (mkF m 64 #[.val (.long va), .second, .val (.long vb), .second, .val (.long vc), .second, .val (.long vd), .second, .val (.int ve), .val (.long (own_min va vb)), .second, .val (.long (own_max va vb)), .second, .val (.long (own_min vc vd)), .second, .val (.long (own_max vc vd)), .second, .val (.int (1 : Int32)), .unset, .unset] [(.int (lcmpW (own_max va vb) (own_max vc vd)))]))
    by_cases hc64 : (own_max vc vd) < (own_max va vb)
    · refine own_Fin.go (fun t k => XS.ifNo X4.here hx rfl (hb hby at_64) rfl (Jvm.Free.XT.ll_le_f hc64) k) ?_
      show own_Fin _ _ _ _ _ _ _ (T4.setTop (mkF m 67 #[.val (.long va), .second, .val (.long vb), .second, .val (.long vc), .second, .val (.long vd), .second, .val (.int ve), .val (.long (own_min va vb)), .second, .val (.long (own_max va vb)), .second, .val (.long (own_min vc vd)), .second, .val (.long (own_max vc vd)), .second, .val (.int (1 : Int32)), .unset, .unset] []))
      obtain ⟨T5, X5, e5, st5⟩ := getS2 X4 hx hZ hown (host := "") (Or.inl (hw _ (List.mem_of_getElem? (i := 19) rfl))) Via.refl e4 S_EXCEEDED (g := (mkF m 67 #[.val (.long va), .second, .val (.long vb), .second, .val (.long vc), .second, .val (.long vd), .second, .val (.int ve), .val (.long (own_min va vb)), .second, .val (.long (own_max va vb)), .second, .val (.long (own_min vc vd)), .second, .val (.long (own_max vc vd)), .second, .val (.int (1 : Int32)), .unset, .unset] [])) rfl (hb hby at_67)
      refine own_Fin.go st5 ?_
      show own_Fin _ _ _ _ _ _ _ (T5.setTop (mkF m 70 #[.val (.long va), .second, .val (.long vb), .second, .val (.long vc), .second, .val (.long vd), .second, .val (.int ve), .val (.long (own_min va vb)), .second, .val (.long (own_max va vb)), .second, .val (.long (own_min vc vd)), .second, .val (.long (own_max vc vd)), .second, .val (.int (1 : Int32)), .unset, .unset] [(.ref oEXCEEDED)]))
      refine own_Fin.go (fun t k => XS.astore X5.here hx rfl (hb hby at_70) rfl rfl (l' := #[.val (.long va), .second, .val (.long vb), .second, .val (.long vc), .second, .val (.long vd), .second, .val (.int ve), .val (.long (own_min va vb)), .second, .val (.long (own_max va vb)), .second, .val (.long (own_min vc vd)), .second, .val (.long (own_max vc vd)), .second, .val (.int (1 : Int32)), .val (.ref oEXCEEDED), .unset]) rfl k) ?_
      show own_Fin _ _ _ _ _ _ _ (T5.setTop (mkF m 72 #[.val (.long va), .second, .val (.long vb), .second, .val (.long vc), .second, .val (.long vd), .second, .val (.int ve), .val (.long (own_min va vb)), .second, .val (.long (own_max va vb)), .second, .val (.long (own_min vc vd)), .second, .val (.long (own_max vc vd)), .second, .val (.int (1 : Int32)), .val (.ref oEXCEEDED), .unset] []))
      refine own_Fin.go (fun t k => XS.goto X5.here hx rfl (pc0 := 72) (pc' := 96) rfl (hb hby at_72) (by decide) (by decide) k) ?_
      show own_Fin _ _ _ _ _ _ _ (T5.setTop (mkF m 96 #[.val (.long va), .second, .val (.long vb), .second, .val (.long vc), .second, .val (.long vd), .second, .val (.int ve), .val (.long (own_min va vb)), .second, .val (.long (own_max va vb)), .second, .val (.long (own_min vc vd)), .second, .val (.long (own_max vc vd)), .second, .val (.int (1 : Int32)), .val (.ref oEXCEEDED), .unset] []))
      refine own_Fin.go (fun t k => XS.iload X5.here hx rfl (hb hby at_96) rfl k) ?_
      show own_Fin _ _ _ _ _ _ _ (T5.setTop (mkF m 98 #[.val (.long va), .second, .val (.long vb), .second, .val (.long vc), .second, .val (.long vd), .second, .val (.int ve), .val (.long (own_min va vb)), .second, .val (.long (own_max va vb)), .second, .val (.long (own_min vc vd)), .second, .val (.long (own_max vc vd)), .second, .val (.int (1 : Int32)), .val (.ref oEXCEEDED), .unset] [(.int (1 : Int32))]))
      refine own_Fin.go (fun t k => XS.ifNo X5.here hx rfl (hb hby at_98) rfl (by decide) k) ?_
      show own_Fin _ _ _ _ _ _ _ (T5.setTop (mkF m 101 #[.val (.long va), .second, .val (.long vb), .second, .val (.long vc), .second, .val (.long vd), .second, .val (.int ve), .val (.long (own_min va vb)), .second, .val (.long (own_max va vb)), .second, .val (.long (own_min vc vd)), .second, .val (.long (own_max vc vd)), .second, .val (.int (1 : Int32)), .val (.ref oEXCEEDED), .unset] []))
      refine own_Fin.go (fun t k => XS.lload X5.here hx rfl (hb hby at_101) rfl k) ?_
      show own_Fin _ _ _ _ _ _ _ (T5.setTop (mkF m 103 #[.val (.long va), .second, .val (.long vb), .second, .val (.long vc), .second, .val (.long vd), .second, .val (.int ve), .val (.long (own_min va vb)), .second, .val (.long (own_max va vb)), .second, .val (.long (own_min vc vd)), .second, .val (.long (own_max vc vd)), .second, .val (.int (1 : Int32)), .val (.ref oEXCEEDED), .unset] [(.long (own_min va vb))]))
      refine own_Fin.go (fun t k => XS.lload X5.here hx rfl (hb hby at_103) rfl k) ?_
      show own_Fin _ _ _ _ _ _ _ (T5.setTop (mkF m 105 #[.val (.long va), .second, .val (.long vb), .second, .val (.long vc), .second, .val (.long vd), .second, .val (.int ve), .val (.long (own_min va vb)), .second, .val (.long (own_max va vb)), .second, .val (.long (own_min vc vd)), .second, .val (.long (own_max vc vd)), .second, .val (.int (1 : Int32)), .val (.ref oEXCEEDED), .unset] [(.long (own_min vc vd)), (.long (own_min va vb))]))
      refine own_Fin.go (fun t k => XS.lcmp X5.here hx rfl (hb hby at_105) rfl k) ?_
      show own_Fin _ _ _ _ _ _ _ (T5.setTop (mkF m 106 #[.val (.long va), .second, .val (.long vb), .second, .val (.long vc), .second, .val (.long vd), .second, .val (.int ve), .val (.long (own_min va vb)), .second, .val (.long (own_max va vb)), .second, .val (.long (own_min vc vd)), .second, .val (.long (own_max vc vd)), .second, .val (.int (1 : Int32)), .val (.ref oEXCEEDED), .unset] [(.int (lcmpW (own_min va vb) (own_min vc vd)))]))
      by_cases hc106 : (own_min va vb) < (own_min vc vd)
      · refine own_Fin.go (fun t k => XS.ifYes X5.here hx rfl (pc0 := 106) (pc' := 117) rfl (hb hby at_106) rfl (Jvm.Free.XT.ll_lt_t hc106) (by decide) (by decide) k) ?_
        show own_Fin _ _ _ _ _ _ _ (T5.setTop (mkF m 117 #[.val (.long va), .second, .val (.long vb), .second, .val (.long vc), .second, .val (.long vd), .second, .val (.int ve), .val (.long (own_min va vb)), .second, .val (.long (own_max va vb)), .second, .val (.long (own_min vc vd)), .second, .val (.long (own_max vc vd)), .second, .val (.int (1 : Int32)), .val (.ref oEXCEEDED), .unset] []))
        refine own_Fin.go (fun t k => XS.iconst X5.here hx rfl (hb hby at_117) k) ?_
        show own_Fin _ _ _ _ _ _ _ (T5.setTop (mkF m 118 #[.val (.long va), .second, .val (.long vb), .second, .val (.long vc), .second, .val (.long vd), .second, .val (.int ve), .val (.long (own_min va vb)), .second, .val (.long (own_max va vb)), .second, .val (.long (own_min vc vd)), .second, .val (.long (own_max vc vd)), .second, .val (.int (1 : Int32)), .val (.ref oEXCEEDED), .unset] [(.int (1 : Int32))]))
        refine own_Fin.go (fun t k => XS.goto X5.here hx rfl (pc0 := 118) (pc' := 122) rfl (hb hby at_118) (by decide) (by decide) k) ?_
        show own_Fin _ _ _ _ _ _ _ (T5.setTop (mkF m 122 #[.val (.long va), .second, .val (.long vb), .second, .val (.long vc), .second, .val (.long vd), .second, .val (.int ve), .val (.long (own_min va vb)), .second, .val (.long (own_max va vb)), .second, .val (.long (own_min vc vd)), .second, .val (.long (own_max vc vd)), .second, .val (.int (1 : Int32)), .val (.ref oEXCEEDED), .unset] [(.int (1 : Int32))]))
        refine own_Fin.go (fun t k => XS.istore X5.here hx rfl (hb hby at_122) rfl (l' := #[.val (.long va), .second, .val (.long vb), .second, .val (.long vc), .second, .val (.long vd), .second, .val (.int ve), .val (.long (own_min va vb)), .second, .val (.long (own_max va vb)), .second, .val (.long (own_min vc vd)), .second, .val (.long (own_max vc vd)), .second, .val (.int (1 : Int32)), .val (.ref oEXCEEDED), .val (.int (1 : Int32))]) rfl k) ?_
        show own_Fin _ _ _ _ _ _ _ (T5.setTop (mkF m 124 #[.val (.long va), .second, .val (.long vb), .second, .val (.long vc), .second, .val (.long vd), .second, .val (.int ve), .val (.long (own_min va vb)), .second, .val (.long (own_max va vb)), .second, .val (.long (own_min vc vd)), .second, .val (.long (own_max vc vd)), .second, .val (.int (1 : Int32)), .val (.ref oEXCEEDED), .val (.int (1 : Int32))] []))
        refine own_Fin.go (fun t k => XS.aload X5.here hx rfl (hb hby at_124) rfl rfl k) ?_
        show own_Fin _ _ _ _ _ _ _ (T5.setTop (mkF m 126 #[.val (.long va), .second, .val (.long vb), .second, .val (.long vc), .second, .val (.long vd), .second, .val (.int ve), .val (.long (own_min va vb)), .second, .val (.long (own_max va vb)), .second, .val (.long (own_min vc vd)), .second, .val (.long (own_max vc vd)), .second, .val (.int (1 : Int32)), .val (.ref oEXCEEDED), .val (.int (1 : Int32))] [(.ref oEXCEEDED)]))
        obtain ⟨cq6, kq6, q6a, q6b, q6c⟩ := isOf hZ e5 E_oEXCEEDED
        obtain ⟨_, _, ⟨T6, L6, k6, n6⟩, -, X6, ⟨Lc6, hQ6, l6, y6, z6⟩, st6⟩ := X5.virtualBack hx (y := (⟨"com/example/latebound/latebound/analysis/latency/FlowLatency$Verdict", "isViolation", "()Z"⟩ : MethodName)) (z := (⟨"com/example/latebound/latebound/analysis/latency/FlowLatency$Verdict", "isViolation", "()Z"⟩ : MethodName)) hown (mvT hZ (hw _ (List.mem_of_getElem? (i := 10) rfl))) (mvT hZ (hw _ (List.mem_of_getElem? (i := 11) rfl))) (notFace_of_selects (args := #[]) (mvT hZ (hw _ (List.mem_of_getElem? (i := 13) rfl)))) (mvT hZ (hw _ (List.mem_of_getElem? (i := 13) rfl))) (mvT hZ (hw _ (List.mem_of_getElem? (i := 12) rfl))) (by decide) (backOf (W := 0) (own_rm_iv l Z a0 hw [] oEXCEEDED oEXCEEDED oBELOW h0 n0 Z0 S_EXCEEDED S_BELOW) hZ (hw _ (List.mem_of_getElem? (i := 14) rfl)) (hw _ (List.mem_of_getElem? (i := 8) rfl)) (by decide) (by decide)) q6a q6c (g := (mkF m 126 #[.val (.long va), .second, .val (.long vb), .second, .val (.long vc), .second, .val (.long vd), .second, .val (.int ve), .val (.long (own_min va vb)), .second, .val (.long (own_max va vb)), .second, .val (.long (own_min vc vd)), .second, .val (.long (own_max vc vd)), .second, .val (.int (1 : Int32)), .val (.ref oEXCEEDED), .val (.int (1 : Int32))] [(.ref oEXCEEDED)])) rfl (by rw [hml]; rfl) (Steps.refl _) (argsL := []) (rest := []) (lenOf own_pd1 rfl) rfl (by show 2 * 0 + _ ≤ _; exact Nat.le_of_eq rfl) (hb hby at_126) (fun _ _ => ⟨rfl, e5, (by decide : 0 + 0 ≤ _), (by decide : 0 + 0 ≤ _)⟩)
        dsimp only [Pt.U, Pt.locs, Pt.cells, Pt.slots] at X6 l6 y6 z6 st6 hQ6
        subst l6 y6 z6
        obtain ⟨rfl, N6q, e6⟩ := hQ6
        refine own_Fin.go (fun t k => st6.trans k) ?_
        have N6 := Fr.app N4 N6q
        show own_Fin _ _ _ _ _ _ _ (T6.setTop (mkF m 129 #[.val (.long va), .second, .val (.long vb), .second, .val (.long vc), .second, .val (.long vd), .second, .val (.int ve), .val (.long (own_min va vb)), .second, .val (.long (own_max va vb)), .second, .val (.long (own_min vc vd)), .second, .val (.long (own_max vc vd)), .second, .val (.int (1 : Int32)), .val (.ref oEXCEEDED), .val (.int (1 : Int32))] [(.int (own_viol oEXCEEDED oEXCEEDED oBELOW))]))
        refine own_Fin.go (fun t k => XS.iload X6.here hx rfl (hb hby at_129) rfl k) ?_
        show own_Fin _ _ _ _ _ _ _ (T6.setTop (mkF m 131 #[.val (.long va), .second, .val (.long vb), .second, .val (.long vc), .second, .val (.long vd), .second, .val (.int ve), .val (.long (own_min va vb)), .second, .val (.long (own_max va vb)), .second, .val (.long (own_min vc vd)), .second, .val (.long (own_max vc vd)), .second, .val (.int (1 : Int32)), .val (.ref oEXCEEDED), .val (.int (1 : Int32))] [(.int (1 : Int32)), (.int (own_viol oEXCEEDED oEXCEEDED oBELOW))]))
        have hc131 : (own_viol oEXCEEDED oEXCEEDED oBELOW) = (1 : Int32) := if_pos rfl
        refine own_Fin.go (fun t k => XS.icmpNo X6.here hx rfl (hb hby at_131) rfl (Jvm.Free.XT.ii_ne_f hc131) k) ?_
        show own_Fin _ _ _ _ _ _ _ (T6.setTop (mkF m 134 #[.val (.long va), .second, .val (.long vb), .second, .val (.long vc), .second, .val (.long vd), .second, .val (.int ve), .val (.long (own_min va vb)), .second, .val (.long (own_max va vb)), .second, .val (.long (own_min vc vd)), .second, .val (.long (own_max vc vd)), .second, .val (.int (1 : Int32)), .val (.ref oEXCEEDED), .val (.int (1 : Int32))] []))
        refine own_Fin.go (fun t k => XS.iconst X6.here hx rfl (hb hby at_134) k) ?_
        show own_Fin _ _ _ _ _ _ _ (T6.setTop (mkF m 135 #[.val (.long va), .second, .val (.long vb), .second, .val (.long vc), .second, .val (.long vd), .second, .val (.int ve), .val (.long (own_min va vb)), .second, .val (.long (own_max va vb)), .second, .val (.long (own_min vc vd)), .second, .val (.long (own_max vc vd)), .second, .val (.int (1 : Int32)), .val (.ref oEXCEEDED), .val (.int (1 : Int32))] [(.int (1 : Int32))]))
        refine own_Fin.go (fun t k => XS.goto X6.here hx rfl (pc0 := 135) (pc' := 139) rfl (hb hby at_135) (by decide) (by decide) k) ?_
        show own_Fin _ _ _ _ _ _ _ (T6.setTop (mkF m 139 #[.val (.long va), .second, .val (.long vb), .second, .val (.long vc), .second, .val (.long vd), .second, .val (.int ve), .val (.long (own_min va vb)), .second, .val (.long (own_max va vb)), .second, .val (.long (own_min vc vd)), .second, .val (.long (own_max vc vd)), .second, .val (.int (1 : Int32)), .val (.ref oEXCEEDED), .val (.int (1 : Int32))] [(.int (1 : Int32))]))
        refine own_retN X6 hx (t := .boolean) (w := (1 : Int32)) Bd.returns (by simp) (hb hby at_139) Bd.notSynchronized rfl (by decide) (by decide) ?_
        rw [e6]
        exact ⟨rfl, N6⟩
      · refine own_Fin.go (fun t k => XS.ifNo X5.here hx rfl (hb hby at_106) rfl (Jvm.Free.XT.ll_lt_f hc106) k) ?_
        show own_Fin _ _ _ _ _ _ _ (T5.setTop (mkF m 109 #[.val (.long va), .second, .val (.long vb), .second, .val (.long vc), .second, .val (.long vd), .second, .val (.int ve), .val (.long (own_min va vb)), .second, .val (.long (own_max va vb)), .second, .val (.long (own_min vc vd)), .second, .val (.long (own_max vc vd)), .second, .val (.int (1 : Int32)), .val (.ref oEXCEEDED), .unset] []))
        refine own_Fin.go (fun t k => XS.lload X5.here hx rfl (hb hby at_109) rfl k) ?_
        show own_Fin _ _ _ _ _ _ _ (T5.setTop (mkF m 111 #[.val (.long va), .second, .val (.long vb), .second, .val (.long vc), .second, .val (.long vd), .second, .val (.int ve), .val (.long (own_min va vb)), .second, .val (.long (own_max va vb)), .second, .val (.long (own_min vc vd)), .second, .val (.long (own_max vc vd)), .second, .val (.int (1 : Int32)), .val (.ref oEXCEEDED), .unset] [(.long (own_max va vb))]))
        refine own_Fin.go (fun t k => XS.lload X5.here hx rfl (hb hby at_111) rfl k) ?_
        show own_Fin _ _ _ _ _ _ _ (T5.setTop (mkF m 113 #[.val (.long va), .second, .val (.long vb), .second, .val (.long vc), .second, .val (.long vd), .second, .val (.int ve), .val (.long (own_min va vb)), .second, .val (.long (own_max va vb)), .second, .val (.long (own_min vc vd)), .second, .val (.long (own_max vc vd)), .second, .val (.int (1 : Int32)), .val (.ref oEXCEEDED), .unset] [(.long (own_max vc vd)), (.long (own_max va vb))]))
        refine own_Fin.go (fun t k => XS.lcmp X5.here hx rfl (hb hby at_113) rfl k) ?_
        show own_Fin _ _ _ _ _ _ _ (T5.setTop (mkF m 114 #[.val (.long va), .second, .val (.long vb), .second, .val (.long vc), .second, .val (.long vd), .second, .val (.int ve), .val (.long (own_min va vb)), .second, .val (.long (own_max va vb)), .second, .val (.long (own_min vc vd)), .second, .val (.long (own_max vc vd)), .second, .val (.int (1 : Int32)), .val (.ref oEXCEEDED), .unset] [(.int (lcmpW (own_max va vb) (own_max vc vd)))]))
        have hc114 : (own_max vc vd) < (own_max va vb) := hc64
        refine own_Fin.go (fun t k => XS.ifNo X5.here hx rfl (hb hby at_114) rfl (Jvm.Free.XT.ll_le_f hc114) k) ?_
        show own_Fin _ _ _ _ _ _ _ (T5.setTop (mkF m 117 #[.val (.long va), .second, .val (.long vb), .second, .val (.long vc), .second, .val (.long vd), .second, .val (.int ve), .val (.long (own_min va vb)), .second, .val (.long (own_max va vb)), .second, .val (.long (own_min vc vd)), .second, .val (.long (own_max vc vd)), .second, .val (.int (1 : Int32)), .val (.ref oEXCEEDED), .unset] []))
        refine own_Fin.go (fun t k => XS.iconst X5.here hx rfl (hb hby at_117) k) ?_
        show own_Fin _ _ _ _ _ _ _ (T5.setTop (mkF m 118 #[.val (.long va), .second, .val (.long vb), .second, .val (.long vc), .second, .val (.long vd), .second, .val (.int ve), .val (.long (own_min va vb)), .second, .val (.long (own_max va vb)), .second, .val (.long (own_min vc vd)), .second, .val (.long (own_max vc vd)), .second, .val (.int (1 : Int32)), .val (.ref oEXCEEDED), .unset] [(.int (1 : Int32))]))
        refine own_Fin.go (fun t k => XS.goto X5.here hx rfl (pc0 := 118) (pc' := 122) rfl (hb hby at_118) (by decide) (by decide) k) ?_
        show own_Fin _ _ _ _ _ _ _ (T5.setTop (mkF m 122 #[.val (.long va), .second, .val (.long vb), .second, .val (.long vc), .second, .val (.long vd), .second, .val (.int ve), .val (.long (own_min va vb)), .second, .val (.long (own_max va vb)), .second, .val (.long (own_min vc vd)), .second, .val (.long (own_max vc vd)), .second, .val (.int (1 : Int32)), .val (.ref oEXCEEDED), .unset] [(.int (1 : Int32))]))
        refine own_Fin.go (fun t k => XS.istore X5.here hx rfl (hb hby at_122) rfl (l' := #[.val (.long va), .second, .val (.long vb), .second, .val (.long vc), .second, .val (.long vd), .second, .val (.int ve), .val (.long (own_min va vb)), .second, .val (.long (own_max va vb)), .second, .val (.long (own_min vc vd)), .second, .val (.long (own_max vc vd)), .second, .val (.int (1 : Int32)), .val (.ref oEXCEEDED), .val (.int (1 : Int32))]) rfl k) ?_
        show own_Fin _ _ _ _ _ _ _ (T5.setTop (mkF m 124 #[.val (.long va), .second, .val (.long vb), .second, .val (.long vc), .second, .val (.long vd), .second, .val (.int ve), .val (.long (own_min va vb)), .second, .val (.long (own_max va vb)), .second, .val (.long (own_min vc vd)), .second, .val (.long (own_max vc vd)), .second, .val (.int (1 : Int32)), .val (.ref oEXCEEDED), .val (.int (1 : Int32))] []))
        refine own_Fin.go (fun t k => XS.aload X5.here hx rfl (hb hby at_124) rfl rfl k) ?_
        show own_Fin _ _ _ _ _ _ _ (T5.setTop (mkF m 126 #[.val (.long va), .second, .val (.long vb), .second, .val (.long vc), .second, .val (.long vd), .second, .val (.int ve), .val (.long (own_min va vb)), .second, .val (.long (own_max va vb)), .second, .val (.long (own_min vc vd)), .second, .val (.long (own_max vc vd)), .second, .val (.int (1 : Int32)), .val (.ref oEXCEEDED), .val (.int (1 : Int32))] [(.ref oEXCEEDED)]))
        obtain ⟨cq7, kq7, q7a, q7b, q7c⟩ := isOf hZ e5 E_oEXCEEDED
        obtain ⟨_, _, ⟨T7, L7, k7, n7⟩, -, X7, ⟨Lc7, hQ7, l7, y7, z7⟩, st7⟩ := X5.virtualBack hx (y := (⟨"com/example/latebound/latebound/analysis/latency/FlowLatency$Verdict", "isViolation", "()Z"⟩ : MethodName)) (z := (⟨"com/example/latebound/latebound/analysis/latency/FlowLatency$Verdict", "isViolation", "()Z"⟩ : MethodName)) hown (mvT hZ (hw _ (List.mem_of_getElem? (i := 10) rfl))) (mvT hZ (hw _ (List.mem_of_getElem? (i := 11) rfl))) (notFace_of_selects (args := #[]) (mvT hZ (hw _ (List.mem_of_getElem? (i := 13) rfl)))) (mvT hZ (hw _ (List.mem_of_getElem? (i := 13) rfl))) (mvT hZ (hw _ (List.mem_of_getElem? (i := 12) rfl))) (by decide) (backOf (W := 0) (own_rm_iv l Z a0 hw [] oEXCEEDED oEXCEEDED oBELOW h0 n0 Z0 S_EXCEEDED S_BELOW) hZ (hw _ (List.mem_of_getElem? (i := 14) rfl)) (hw _ (List.mem_of_getElem? (i := 8) rfl)) (by decide) (by decide)) q7a q7c (g := (mkF m 126 #[.val (.long va), .second, .val (.long vb), .second, .val (.long vc), .second, .val (.long vd), .second, .val (.int ve), .val (.long (own_min va vb)), .second, .val (.long (own_max va vb)), .second, .val (.long (own_min vc vd)), .second, .val (.long (own_max vc vd)), .second, .val (.int (1 : Int32)), .val (.ref oEXCEEDED), .val (.int (1 : Int32))] [(.ref oEXCEEDED)])) rfl (by rw [hml]; rfl) (Steps.refl _) (argsL := []) (rest := []) (lenOf own_pd1 rfl) rfl (by show 2 * 0 + _ ≤ _; exact Nat.le_of_eq rfl) (hb hby at_126) (fun _ _ => ⟨rfl, e5, (by decide : 0 + 0 ≤ _), (by decide : 0 + 0 ≤ _)⟩)
        dsimp only [Pt.U, Pt.locs, Pt.cells, Pt.slots] at X7 l7 y7 z7 st7 hQ7
        subst l7 y7 z7
        obtain ⟨rfl, N7q, e7⟩ := hQ7
        refine own_Fin.go (fun t k => st7.trans k) ?_
        have N7 := Fr.app N4 N7q
        show own_Fin _ _ _ _ _ _ _ (T7.setTop (mkF m 129 #[.val (.long va), .second, .val (.long vb), .second, .val (.long vc), .second, .val (.long vd), .second, .val (.int ve), .val (.long (own_min va vb)), .second, .val (.long (own_max va vb)), .second, .val (.long (own_min vc vd)), .second, .val (.long (own_max vc vd)), .second, .val (.int (1 : Int32)), .val (.ref oEXCEEDED), .val (.int (1 : Int32))] [(.int (own_viol oEXCEEDED oEXCEEDED oBELOW))]))
        refine own_Fin.go (fun t k => XS.iload X7.here hx rfl (hb hby at_129) rfl k) ?_
        show own_Fin _ _ _ _ _ _ _ (T7.setTop (mkF m 131 #[.val (.long va), .second, .val (.long vb), .second, .val (.long vc), .second, .val (.long vd), .second, .val (.int ve), .val (.long (own_min va vb)), .second, .val (.long (own_max va vb)), .second, .val (.long (own_min vc vd)), .second, .val (.long (own_max vc vd)), .second, .val (.int (1 : Int32)), .val (.ref oEXCEEDED), .val (.int (1 : Int32))] [(.int (1 : Int32)), (.int (own_viol oEXCEEDED oEXCEEDED oBELOW))]))
        have hc131 : (own_viol oEXCEEDED oEXCEEDED oBELOW) = (1 : Int32) := if_pos rfl
        refine own_Fin.go (fun t k => XS.icmpNo X7.here hx rfl (hb hby at_131) rfl (Jvm.Free.XT.ii_ne_f hc131) k) ?_
        show own_Fin _ _ _ _ _ _ _ (T7.setTop (mkF m 134 #[.val (.long va), .second, .val (.long vb), .second, .val (.long vc), .second, .val (.long vd), .second, .val (.int ve), .val (.long (own_min va vb)), .second, .val (.long (own_max va vb)), .second, .val (.long (own_min vc vd)), .second, .val (.long (own_max vc vd)), .second, .val (.int (1 : Int32)), .val (.ref oEXCEEDED), .val (.int (1 : Int32))] []))
        refine own_Fin.go (fun t k => XS.iconst X7.here hx rfl (hb hby at_134) k) ?_
        show own_Fin _ _ _ _ _ _ _ (T7.setTop (mkF m 135 #[.val (.long va), .second, .val (.long vb), .second, .val (.long vc), .second, .val (.long vd), .second, .val (.int ve), .val (.long (own_min va vb)), .second, .val (.long (own_max va vb)), .second, .val (.long (own_min vc vd)), .second, .val (.long (own_max vc vd)), .second, .val (.int (1 : Int32)), .val (.ref oEXCEEDED), .val (.int (1 : Int32))] [(.int (1 : Int32))]))
        refine own_Fin.go (fun t k => XS.goto X7.here hx rfl (pc0 := 135) (pc' := 139) rfl (hb hby at_135) (by decide) (by decide) k) ?_
        show own_Fin _ _ _ _ _ _ _ (T7.setTop (mkF m 139 #[.val (.long va), .second, .val (.long vb), .second, .val (.long vc), .second, .val (.long vd), .second, .val (.int ve), .val (.long (own_min va vb)), .second, .val (.long (own_max va vb)), .second, .val (.long (own_min vc vd)), .second, .val (.long (own_max vc vd)), .second, .val (.int (1 : Int32)), .val (.ref oEXCEEDED), .val (.int (1 : Int32))] [(.int (1 : Int32))]))
        refine own_retN X7 hx (t := .boolean) (w := (1 : Int32)) Bd.returns (by simp) (hb hby at_139) Bd.notSynchronized rfl (by decide) (by decide) ?_
        rw [e7]
        exact ⟨rfl, N7⟩
    · refine own_Fin.go (fun t k => XS.ifYes X4.here hx rfl (pc0 := 64) (pc' := 75) rfl (hb hby at_64) rfl (Jvm.Free.XT.ll_le_t hc64) (by decide) (by decide) k) ?_
      show own_Fin _ _ _ _ _ _ _ (T4.setTop (mkF m 75 #[.val (.long va), .second, .val (.long vb), .second, .val (.long vc), .second, .val (.long vd), .second, .val (.int ve), .val (.long (own_min va vb)), .second, .val (.long (own_max va vb)), .second, .val (.long (own_min vc vd)), .second, .val (.long (own_max vc vd)), .second, .val (.int (1 : Int32)), .unset, .unset] []))
      refine own_Fin.go (fun t k => XS.lload X4.here hx rfl (hb hby at_75) rfl k) ?_
      show own_Fin _ _ _ _ _ _ _ (T4.setTop (mkF m 77 #[.val (.long va), .second, .val (.long vb), .second, .val (.long vc), .second, .val (.long vd), .second, .val (.int ve), .val (.long (own_min va vb)), .second, .val (.long (own_max va vb)), .second, .val (.long (own_min vc vd)), .second, .val (.long (own_max vc vd)), .second, .val (.int (1 : Int32)), .unset, .unset] [(.long (own_min va vb))]))
      refine own_Fin.go (fun t k => XS.lload X4.here hx rfl (hb hby at_77) rfl k) ?_
      show own_Fin _ _ _ _ _ _ _ (T4.setTop (mkF m 79 #[.val (.long va), .second, .val (.long vb), .second, .val (.long vc), .second, .val (.long vd), .second, .val (.int ve), .val (.long (own_min va vb)), .second, .val (.long (own_max va vb)), .second, .val (.long (own_min vc vd)), .second, .val (.long (own_max vc vd)), .second, .val (.int (1 : Int32)), .unset, .unset] [(.long (own_min vc vd)), (.long (own_min va vb))]))
      refine own_Fin.go (fun t k => XS.lcmp X4.here hx rfl (hb hby at_79) rfl k) ?_
      show own_Fin _ _ _ _ _ _ _ (T4.setTop (mkF m 80 #[.val (.long va), .second, .val (.long vb), .second, .val (.long vc), .second, .val (.long vd), .second, .val (.int ve), .val (.long (own_min va vb)), .second, .val (.long (own_max va vb)), .second, .val (.long (own_min vc vd)), .second, .val (.long (own_max vc vd)), .second, .val (.int (1 : Int32)), .unset, .unset] [(.int (lcmpW (own_min va vb) (own_min vc vd)))]))
      by_cases hc80 : (own_min va vb) < (own_min vc vd)
      · refine own_Fin.go (fun t k => XS.ifNo X4.here hx rfl (hb hby at_80) rfl (Jvm.Free.XT.ll_ge_f hc80) k) ?_
        show own_Fin _ _ _ _ _ _ _ (T4.setTop (mkF m 83 #[.val (.long va), .second, .val (.long vb), .second, .val (.long vc), .second, .val (.long vd), .second, .val (.int ve), .val (.long (own_min va vb)), .second, .val (.long (own_max va vb)), .second, .val (.long (own_min vc vd)), .second, .val (.long (own_max vc vd)), .second, .val (.int (1 : Int32)), .unset, .unset] []))
        obtain ⟨T8, X8, e8, st8⟩ := getS2 X4 hx hZ hown (host := "") (Or.inl (hw _ (List.mem_of_getElem? (i := 20) rfl))) Via.refl e4 S_BELOW (g := (mkF m 83 #[.val (.long va), .second, .val (.long vb), .second, .val (.long vc), .second, .val (.long vd), .second, .val (.int ve), .val (.long (own_min va vb)), .second, .val (.long (own_max va vb)), .second, .val (.long (own_min vc vd)), .second, .val (.long (own_max vc vd)), .second, .val (.int (1 : Int32)), .unset, .unset] [])) rfl (hb hby at_83)
        refine own_Fin.go st8 ?_
        show own_Fin _ _ _ _ _ _ _ (T8.setTop (mkF m 86 #[.val (.long va), .second, .val (.long vb), .second, .val (.long vc), .second, .val (.long vd), .second, .val (.int ve), .val (.long (own_min va vb)), .second, .val (.long (own_max va vb)), .second, .val (.long (own_min vc vd)), .second, .val (.long (own_max vc vd)), .second, .val (.int (1 : Int32)), .unset, .unset] [(.ref oBELOW)]))
        refine own_Fin.go (fun t k => XS.astore X8.here hx rfl (hb hby at_86) rfl rfl (l' := #[.val (.long va), .second, .val (.long vb), .second, .val (.long vc), .second, .val (.long vd), .second, .val (.int ve), .val (.long (own_min va vb)), .second, .val (.long (own_max va vb)), .second, .val (.long (own_min vc vd)), .second, .val (.long (own_max vc vd)), .second, .val (.int (1 : Int32)), .val (.ref oBELOW), .unset]) rfl k) ?_
        show own_Fin _ _ _ _ _ _ _ (T8.setTop (mkF m 88 #[.val (.long va), .second, .val (.long vb), .second, .val (.long vc), .second, .val (.long vd), .second, .val (.int ve), .val (.long (own_min va vb)), .second, .val (.long (own_max va vb)), .second, .val (.long (own_min vc vd)), .second, .val (.long (own_max vc vd)), .second, .val (.int (1 : Int32)), .val (.ref oBELOW), .unset] []))
        refine own_Fin.go (fun t k => XS.goto X8.here hx rfl (pc0 := 88) (pc' := 96) rfl (hb hby at_88) (by decide) (by decide) k) ?_
        show own_Fin _ _ _ _ _ _ _ (T8.setTop (mkF m 96 #[.val (.long va), .second, .val (.long vb), .second, .val (.long vc), .second, .val (.long vd), .second, .val (.int ve), .val (.long (own_min va vb)), .second, .val (.long (own_max va vb)), .second, .val (.long (own_min vc vd)), .second, .val (.long (own_max vc vd)), .second, .val (.int (1 : Int32)), .val (.ref oBELOW), .unset] []))
        refine own_Fin.go (fun t k => XS.iload X8.here hx rfl (hb hby at_96) rfl k) ?_
        show own_Fin _ _ _ _ _ _ _ (T8.setTop (mkF m 98 #[.val (.long va), .second, .val (.long vb), .second, .val (.long vc), .second, .val (.long vd), .second, .val (.int ve), .val (.long (own_min va vb)), .second, .val (.long (own_max va vb)), .second, .val (.long (own_min vc vd)), .second, .val (.long (own_max vc vd)), .second, .val (.int (1 : Int32)), .val (.ref oBELOW), .unset] [(.int (1 : Int32))]))
        refine own_Fin.go (fun t k => XS.ifNo X8.here hx rfl (hb hby at_98) rfl (by decide) k) ?_
        show own_Fin _ _ _ _ _ _ _ (T8.setTop (mkF m 101 #[.val (.long va), .second, .val (.long vb), .second, .val (.long vc), .second, .val (.long vd), .second, .val (.int ve), .val (.long (own_min va vb)), .second, .val (.long (own_max va vb)), .second, .val (.long (own_min vc vd)), .second, .val (.long (own_max vc vd)), .second, .val (.int (1 : Int32)), .val (.ref oBELOW), .unset] []))
        refine own_Fin.go (fun t k => XS.lload X8.here hx rfl (hb hby at_101) rfl k) ?_
        show own_Fin _ _ _ _ _ _ _ (T8.setTop (mkF m 103 #[.val (.long va), .second, .val (.long vb), .second, .val (.long vc), .second, .val (.long vd), .second, .val (.int ve), .val (.long (own_min va vb)), .second, .val (.long (own_max va vb)), .second, .val (.long (own_min vc vd)), .second, .val (.long (own_max vc vd)), .second, .val (.int (1 : Int32)), .val (.ref oBELOW), .unset] [(.long (own_min va vb))]))
        refine own_Fin.go (fun t k => XS.lload X8.here hx rfl (hb hby at_103) rfl k) ?_
        show own_Fin _ _ _ _ _ _ _ (T8.setTop (mkF m 105 #[.val (.long va), .second, .val (.long vb), .second, .val (.long vc), .second, .val (.long vd), .second, .val (.int ve), .val (.long (own_min va vb)), .second, .val (.long (own_max va vb)), .second, .val (.long (own_min vc vd)), .second, .val (.long (own_max vc vd)), .second, .val (.int (1 : Int32)), .val (.ref oBELOW), .unset] [(.long (own_min vc vd)), (.long (own_min va vb))]))
        refine own_Fin.go (fun t k => XS.lcmp X8.here hx rfl (hb hby at_105) rfl k) ?_
        show own_Fin _ _ _ _ _ _ _ (T8.setTop (mkF m 106 #[.val (.long va), .second, .val (.long vb), .second, .val (.long vc), .second, .val (.long vd), .second, .val (.int ve), .val (.long (own_min va vb)), .second, .val (.long (own_max va vb)), .second, .val (.long (own_min vc vd)), .second, .val (.long (own_max vc vd)), .second, .val (.int (1 : Int32)), .val (.ref oBELOW), .unset] [(.int (lcmpW (own_min va vb) (own_min vc vd)))]))
        have hc106 : (own_min va vb) < (own_min vc vd) := hc80
        refine own_Fin.go (fun t k => XS.ifYes X8.here hx rfl (pc0 := 106) (pc' := 117) rfl (hb hby at_106) rfl (Jvm.Free.XT.ll_lt_t hc106) (by decide) (by decide) k) ?_
        show own_Fin _ _ _ _ _ _ _ (T8.setTop (mkF m 117 #[.val (.long va), .second, .val (.long vb), .second, .val (.long vc), .second, .val (.long vd), .second, .val (.int ve), .val (.long (own_min va vb)), .second, .val (.long (own_max va vb)), .second, .val (.long (own_min vc vd)), .second, .val (.long (own_max vc vd)), .second, .val (.int (1 : Int32)), .val (.ref oBELOW), .unset] []))
        refine own_Fin.go (fun t k => XS.iconst X8.here hx rfl (hb hby at_117) k) ?_
        show own_Fin _ _ _ _ _ _ _ (T8.setTop (mkF m 118 #[.val (.long va), .second, .val (.long vb), .second, .val (.long vc), .second, .val (.long vd), .second, .val (.int ve), .val (.long (own_min va vb)), .second, .val (.long (own_max va vb)), .second, .val (.long (own_min vc vd)), .second, .val (.long (own_max vc vd)), .second, .val (.int (1 : Int32)), .val (.ref oBELOW), .unset] [(.int (1 : Int32))]))
        refine own_Fin.go (fun t k => XS.goto X8.here hx rfl (pc0 := 118) (pc' := 122) rfl (hb hby at_118) (by decide) (by decide) k) ?_
        show own_Fin _ _ _ _ _ _ _ (T8.setTop (mkF m 122 #[.val (.long va), .second, .val (.long vb), .second, .val (.long vc), .second, .val (.long vd), .second, .val (.int ve), .val (.long (own_min va vb)), .second, .val (.long (own_max va vb)), .second, .val (.long (own_min vc vd)), .second, .val (.long (own_max vc vd)), .second, .val (.int (1 : Int32)), .val (.ref oBELOW), .unset] [(.int (1 : Int32))]))
        refine own_Fin.go (fun t k => XS.istore X8.here hx rfl (hb hby at_122) rfl (l' := #[.val (.long va), .second, .val (.long vb), .second, .val (.long vc), .second, .val (.long vd), .second, .val (.int ve), .val (.long (own_min va vb)), .second, .val (.long (own_max va vb)), .second, .val (.long (own_min vc vd)), .second, .val (.long (own_max vc vd)), .second, .val (.int (1 : Int32)), .val (.ref oBELOW), .val (.int (1 : Int32))]) rfl k) ?_
        show own_Fin _ _ _ _ _ _ _ (T8.setTop (mkF m 124 #[.val (.long va), .second, .val (.long vb), .second, .val (.long vc), .second, .val (.long vd), .second, .val (.int ve), .val (.long (own_min va vb)), .second, .val (.long (own_max va vb)), .second, .val (.long (own_min vc vd)), .second, .val (.long (own_max vc vd)), .second, .val (.int (1 : Int32)), .val (.ref oBELOW), .val (.int (1 : Int32))] []))
        refine own_Fin.go (fun t k => XS.aload X8.here hx rfl (hb hby at_124) rfl rfl k) ?_
        show own_Fin _ _ _ _ _ _ _ (T8.setTop (mkF m 126 #[.val (.long va), .second, .val (.long vb), .second, .val (.long vc), .second, .val (.long vd), .second, .val (.int ve), .val (.long (own_min va vb)), .second, .val (.long (own_max va vb)), .second, .val (.long (own_min vc vd)), .second, .val (.long (own_max vc vd)), .second, .val (.int (1 : Int32)), .val (.ref oBELOW), .val (.int (1 : Int32))] [(.ref oBELOW)]))
        obtain ⟨cq9, kq9, q9a, q9b, q9c⟩ := isOf hZ e8 E_oBELOW
        obtain ⟨_, _, ⟨T9, L9, k9, n9⟩, -, X9, ⟨Lc9, hQ9, l9, y9, z9⟩, st9⟩ := X8.virtualBack hx (y := (⟨"com/example/latebound/latebound/analysis/latency/FlowLatency$Verdict", "isViolation", "()Z"⟩ : MethodName)) (z := (⟨"com/example/latebound/latebound/analysis/latency/FlowLatency$Verdict", "isViolation", "()Z"⟩ : MethodName)) hown (mvT hZ (hw _ (List.mem_of_getElem? (i := 10) rfl))) (mvT hZ (hw _ (List.mem_of_getElem? (i := 11) rfl))) (notFace_of_selects (args := #[]) (mvT hZ (hw _ (List.mem_of_getElem? (i := 13) rfl)))) (mvT hZ (hw _ (List.mem_of_getElem? (i := 13) rfl))) (mvT hZ (hw _ (List.mem_of_getElem? (i := 12) rfl))) (by decide) (backOf (W := 0) (own_rm_iv l Z a0 hw [] oBELOW oEXCEEDED oBELOW h0 n0 Z0 S_EXCEEDED S_BELOW) hZ (hw _ (List.mem_of_getElem? (i := 14) rfl)) (hw _ (List.mem_of_getElem? (i := 8) rfl)) (by decide) (by decide)) q9a q9c (g := (mkF m 126 #[.val (.long va), .second, .val (.long vb), .second, .val (.long vc), .second, .val (.long vd), .second, .val (.int ve), .val (.long (own_min va vb)), .second, .val (.long (own_max va vb)), .second, .val (.long (own_min vc vd)), .second, .val (.long (own_max vc vd)), .second, .val (.int (1 : Int32)), .val (.ref oBELOW), .val (.int (1 : Int32))] [(.ref oBELOW)])) rfl (by rw [hml]; rfl) (Steps.refl _) (argsL := []) (rest := []) (lenOf own_pd1 rfl) rfl (by show 2 * 0 + _ ≤ _; exact Nat.le_of_eq rfl) (hb hby at_126) (fun _ _ => ⟨rfl, e8, (by decide : 0 + 0 ≤ _), (by decide : 0 + 0 ≤ _)⟩)
        dsimp only [Pt.U, Pt.locs, Pt.cells, Pt.slots] at X9 l9 y9 z9 st9 hQ9
        subst l9 y9 z9
        obtain ⟨rfl, N9q, e9⟩ := hQ9
        refine own_Fin.go (fun t k => st9.trans k) ?_
        have N9 := Fr.app N4 N9q
        show own_Fin _ _ _ _ _ _ _ (T9.setTop (mkF m 129 #[.val (.long va), .second, .val (.long vb), .second, .val (.long vc), .second, .val (.long vd), .second, .val (.int ve), .val (.long (own_min va vb)), .second, .val (.long (own_max va vb)), .second, .val (.long (own_min vc vd)), .second, .val (.long (own_max vc vd)), .second, .val (.int (1 : Int32)), .val (.ref oBELOW), .val (.int (1 : Int32))] [(.int (own_viol oBELOW oEXCEEDED oBELOW))]))
        refine own_Fin.go (fun t k => XS.iload X9.here hx rfl (hb hby at_129) rfl k) ?_
        show own_Fin _ _ _ _ _ _ _ (T9.setTop (mkF m 131 #[.val (.long va), .second, .val (.long vb), .second, .val (.long vc), .second, .val (.long vd), .second, .val (.int ve), .val (.long (own_min va vb)), .second, .val (.long (own_max va vb)), .second, .val (.long (own_min vc vd)), .second, .val (.long (own_max vc vd)), .second, .val (.int (1 : Int32)), .val (.ref oBELOW), .val (.int (1 : Int32))] [(.int (1 : Int32)), (.int (own_viol oBELOW oEXCEEDED oBELOW))]))
        have hc131 : (own_viol oBELOW oEXCEEDED oBELOW) = (1 : Int32) := (if_neg (Ne.symm ne_oEXCEEDED_oBELOW)).trans (if_pos rfl)
        refine own_Fin.go (fun t k => XS.icmpNo X9.here hx rfl (hb hby at_131) rfl (Jvm.Free.XT.ii_ne_f hc131) k) ?_
        show own_Fin _ _ _ _ _ _ _ (T9.setTop (mkF m 134 #[.val (.long va), .second, .val (.long vb), .second, .val (.long vc), .second, .val (.long vd), .second, .val (.int ve), .val (.long (own_min va vb)), .second, .val (.long (own_max va vb)), .second, .val (.long (own_min vc vd)), .second, .val (.long (own_max vc vd)), .second, .val (.int (1 : Int32)), .val (.ref oBELOW), .val (.int (1 : Int32))] []))
        refine own_Fin.go (fun t k => XS.iconst X9.here hx rfl (hb hby at_134) k) ?_
        show own_Fin _ _ _ _ _ _ _ (T9.setTop (mkF m 135 #[.val (.long va), .second, .val (.long vb), .second, .val (.long vc), .second, .val (.long vd), .second, .val (.int ve), .val (.long (own_min va vb)), .second, .val (.long (own_max va vb)), .second, .val (.long (own_min vc vd)), .second, .val (.long (own_max vc vd)), .second, .val (.int (1 : Int32)), .val (.ref oBELOW), .val (.int (1 : Int32))] [(.int (1 : Int32))]))
        refine own_Fin.go (fun t k => XS.goto X9.here hx rfl (pc0 := 135) (pc' := 139) rfl (hb hby at_135) (by decide) (by decide) k) ?_
        show own_Fin _ _ _ _ _ _ _ (T9.setTop (mkF m 139 #[.val (.long va), .second, .val (.long vb), .second, .val (.long vc), .second, .val (.long vd), .second, .val (.int ve), .val (.long (own_min va vb)), .second, .val (.long (own_max va vb)), .second, .val (.long (own_min vc vd)), .second, .val (.long (own_max vc vd)), .second, .val (.int (1 : Int32)), .val (.ref oBELOW), .val (.int (1 : Int32))] [(.int (1 : Int32))]))
        refine own_retN X9 hx (t := .boolean) (w := (1 : Int32)) Bd.returns (by simp) (hb hby at_139) Bd.notSynchronized rfl (by decide) (by decide) ?_
        rw [e9]
        exact ⟨rfl, N9⟩
      · refine own_Fin.go (fun t k => XS.ifYes X4.here hx rfl (pc0 := 80) (pc' := 91) rfl (hb hby at_80) rfl (Jvm.Free.XT.ll_ge_t hc80) (by decide) (by decide) k) ?_
        show own_Fin _ _ _ _ _ _ _ (T4.setTop (mkF m 91 #[.val (.long va), .second, .val (.long vb), .second, .val (.long vc), .second, .val (.long vd), .second, .val (.int ve), .val (.long (own_min va vb)), .second, .val (.long (own_max va vb)), .second, .val (.long (own_min vc vd)), .second, .val (.long (own_max vc vd)), .second, .val (.int (1 : Int32)), .unset, .unset] []))
        obtain ⟨T10, X10, e10, st10⟩ := getS2 X4 hx hZ hown (host := "") (Or.inl (hw _ (List.mem_of_getElem? (i := 21) rfl))) Via.refl e4 S_OK (g := (mkF m 91 #[.val (.long va), .second, .val (.long vb), .second, .val (.long vc), .second, .val (.long vd), .second, .val (.int ve), .val (.long (own_min va vb)), .second, .val (.long (own_max va vb)), .second, .val (.long (own_min vc vd)), .second, .val (.long (own_max vc vd)), .second, .val (.int (1 : Int32)), .unset, .unset] [])) rfl (hb hby at_91)
        refine own_Fin.go st10 ?_
        show own_Fin _ _ _ _ _ _ _ (T10.setTop (mkF m 94 #[.val (.long va), .second, .val (.long vb), .second, .val (.long vc), .second, .val (.long vd), .second, .val (.int ve), .val (.long (own_min va vb)), .second, .val (.long (own_max va vb)), .second, .val (.long (own_min vc vd)), .second, .val (.long (own_max vc vd)), .second, .val (.int (1 : Int32)), .unset, .unset] [(.ref oOK)]))
        refine own_Fin.go (fun t k => XS.astore X10.here hx rfl (hb hby at_94) rfl rfl (l' := #[.val (.long va), .second, .val (.long vb), .second, .val (.long vc), .second, .val (.long vd), .second, .val (.int ve), .val (.long (own_min va vb)), .second, .val (.long (own_max va vb)), .second, .val (.long (own_min vc vd)), .second, .val (.long (own_max vc vd)), .second, .val (.int (1 : Int32)), .val (.ref oOK), .unset]) rfl k) ?_
        show own_Fin _ _ _ _ _ _ _ (T10.setTop (mkF m 96 #[.val (.long va), .second, .val (.long vb), .second, .val (.long vc), .second, .val (.long vd), .second, .val (.int ve), .val (.long (own_min va vb)), .second, .val (.long (own_max va vb)), .second, .val (.long (own_min vc vd)), .second, .val (.long (own_max vc vd)), .second, .val (.int (1 : Int32)), .val (.ref oOK), .unset] []))
        refine own_Fin.go (fun t k => XS.iload X10.here hx rfl (hb hby at_96) rfl k) ?_
        show own_Fin _ _ _ _ _ _ _ (T10.setTop (mkF m 98 #[.val (.long va), .second, .val (.long vb), .second, .val (.long vc), .second, .val (.long vd), .second, .val (.int ve), .val (.long (own_min va vb)), .second, .val (.long (own_max va vb)), .second, .val (.long (own_min vc vd)), .second, .val (.long (own_max vc vd)), .second, .val (.int (1 : Int32)), .val (.ref oOK), .unset] [(.int (1 : Int32))]))
        refine own_Fin.go (fun t k => XS.ifNo X10.here hx rfl (hb hby at_98) rfl (by decide) k) ?_
        show own_Fin _ _ _ _ _ _ _ (T10.setTop (mkF m 101 #[.val (.long va), .second, .val (.long vb), .second, .val (.long vc), .second, .val (.long vd), .second, .val (.int ve), .val (.long (own_min va vb)), .second, .val (.long (own_max va vb)), .second, .val (.long (own_min vc vd)), .second, .val (.long (own_max vc vd)), .second, .val (.int (1 : Int32)), .val (.ref oOK), .unset] []))
        refine own_Fin.go (fun t k => XS.lload X10.here hx rfl (hb hby at_101) rfl k) ?_
        show own_Fin _ _ _ _ _ _ _ (T10.setTop (mkF m 103 #[.val (.long va), .second, .val (.long vb), .second, .val (.long vc), .second, .val (.long vd), .second, .val (.int ve), .val (.long (own_min va vb)), .second, .val (.long (own_max va vb)), .second, .val (.long (own_min vc vd)), .second, .val (.long (own_max vc vd)), .second, .val (.int (1 : Int32)), .val (.ref oOK), .unset] [(.long (own_min va vb))]))
        refine own_Fin.go (fun t k => XS.lload X10.here hx rfl (hb hby at_103) rfl k) ?_
        show own_Fin _ _ _ _ _ _ _ (T10.setTop (mkF m 105 #[.val (.long va), .second, .val (.long vb), .second, .val (.long vc), .second, .val (.long vd), .second, .val (.int ve), .val (.long (own_min va vb)), .second, .val (.long (own_max va vb)), .second, .val (.long (own_min vc vd)), .second, .val (.long (own_max vc vd)), .second, .val (.int (1 : Int32)), .val (.ref oOK), .unset] [(.long (own_min vc vd)), (.long (own_min va vb))]))
        refine own_Fin.go (fun t k => XS.lcmp X10.here hx rfl (hb hby at_105) rfl k) ?_
        show own_Fin _ _ _ _ _ _ _ (T10.setTop (mkF m 106 #[.val (.long va), .second, .val (.long vb), .second, .val (.long vc), .second, .val (.long vd), .second, .val (.int ve), .val (.long (own_min va vb)), .second, .val (.long (own_max va vb)), .second, .val (.long (own_min vc vd)), .second, .val (.long (own_max vc vd)), .second, .val (.int (1 : Int32)), .val (.ref oOK), .unset] [(.int (lcmpW (own_min va vb) (own_min vc vd)))]))
        have hc106 : ¬ ((own_min va vb) < (own_min vc vd)) := hc80
        refine own_Fin.go (fun t k => XS.ifNo X10.here hx rfl (hb hby at_106) rfl (Jvm.Free.XT.ll_lt_f hc106) k) ?_
        show own_Fin _ _ _ _ _ _ _ (T10.setTop (mkF m 109 #[.val (.long va), .second, .val (.long vb), .second, .val (.long vc), .second, .val (.long vd), .second, .val (.int ve), .val (.long (own_min va vb)), .second, .val (.long (own_max va vb)), .second, .val (.long (own_min vc vd)), .second, .val (.long (own_max vc vd)), .second, .val (.int (1 : Int32)), .val (.ref oOK), .unset] []))
        refine own_Fin.go (fun t k => XS.lload X10.here hx rfl (hb hby at_109) rfl k) ?_
        show own_Fin _ _ _ _ _ _ _ (T10.setTop (mkF m 111 #[.val (.long va), .second, .val (.long vb), .second, .val (.long vc), .second, .val (.long vd), .second, .val (.int ve), .val (.long (own_min va vb)), .second, .val (.long (own_max va vb)), .second, .val (.long (own_min vc vd)), .second, .val (.long (own_max vc vd)), .second, .val (.int (1 : Int32)), .val (.ref oOK), .unset] [(.long (own_max va vb))]))
        refine own_Fin.go (fun t k => XS.lload X10.here hx rfl (hb hby at_111) rfl k) ?_
        show own_Fin _ _ _ _ _ _ _ (T10.setTop (mkF m 113 #[.val (.long va), .second, .val (.long vb), .second, .val (.long vc), .second, .val (.long vd), .second, .val (.int ve), .val (.long (own_min va vb)), .second, .val (.long (own_max va vb)), .second, .val (.long (own_min vc vd)), .second, .val (.long (own_max vc vd)), .second, .val (.int (1 : Int32)), .val (.ref oOK), .unset] [(.long (own_max vc vd)), (.long (own_max va vb))]))
        refine own_Fin.go (fun t k => XS.lcmp X10.here hx rfl (hb hby at_113) rfl k) ?_
        show own_Fin _ _ _ _ _ _ _ (T10.setTop (mkF m 114 #[.val (.long va), .second, .val (.long vb), .second, .val (.long vc), .second, .val (.long vd), .second, .val (.int ve), .val (.long (own_min va vb)), .second, .val (.long (own_max va vb)), .second, .val (.long (own_min vc vd)), .second, .val (.long (own_max vc vd)), .second, .val (.int (1 : Int32)), .val (.ref oOK), .unset] [(.int (lcmpW (own_max va vb) (own_max vc vd)))]))
        have hc114 : ¬ ((own_max vc vd) < (own_max va vb)) := hc64
        refine own_Fin.go (fun t k => XS.ifYes X10.here hx rfl (pc0 := 114) (pc' := 121) rfl (hb hby at_114) rfl (Jvm.Free.XT.ll_le_t hc114) (by decide) (by decide) k) ?_
        show own_Fin _ _ _ _ _ _ _ (T10.setTop (mkF m 121 #[.val (.long va), .second, .val (.long vb), .second, .val (.long vc), .second, .val (.long vd), .second, .val (.int ve), .val (.long (own_min va vb)), .second, .val (.long (own_max va vb)), .second, .val (.long (own_min vc vd)), .second, .val (.long (own_max vc vd)), .second, .val (.int (1 : Int32)), .val (.ref oOK), .unset] []))
        refine own_Fin.go (fun t k => XS.iconst X10.here hx rfl (hb hby at_121) k) ?_
        show own_Fin _ _ _ _ _ _ _ (T10.setTop (mkF m 122 #[.val (.long va), .second, .val (.long vb), .second, .val (.long vc), .second, .val (.long vd), .second, .val (.int ve), .val (.long (own_min va vb)), .second, .val (.long (own_max va vb)), .second, .val (.long (own_min vc vd)), .second, .val (.long (own_max vc vd)), .second, .val (.int (1 : Int32)), .val (.ref oOK), .unset] [(.int (0 : Int32))]))
        refine own_Fin.go (fun t k => XS.istore X10.here hx rfl (hb hby at_122) rfl (l' := #[.val (.long va), .second, .val (.long vb), .second, .val (.long vc), .second, .val (.long vd), .second, .val (.int ve), .val (.long (own_min va vb)), .second, .val (.long (own_max va vb)), .second, .val (.long (own_min vc vd)), .second, .val (.long (own_max vc vd)), .second, .val (.int (1 : Int32)), .val (.ref oOK), .val (.int (0 : Int32))]) rfl k) ?_
        show own_Fin _ _ _ _ _ _ _ (T10.setTop (mkF m 124 #[.val (.long va), .second, .val (.long vb), .second, .val (.long vc), .second, .val (.long vd), .second, .val (.int ve), .val (.long (own_min va vb)), .second, .val (.long (own_max va vb)), .second, .val (.long (own_min vc vd)), .second, .val (.long (own_max vc vd)), .second, .val (.int (1 : Int32)), .val (.ref oOK), .val (.int (0 : Int32))] []))
        refine own_Fin.go (fun t k => XS.aload X10.here hx rfl (hb hby at_124) rfl rfl k) ?_
        show own_Fin _ _ _ _ _ _ _ (T10.setTop (mkF m 126 #[.val (.long va), .second, .val (.long vb), .second, .val (.long vc), .second, .val (.long vd), .second, .val (.int ve), .val (.long (own_min va vb)), .second, .val (.long (own_max va vb)), .second, .val (.long (own_min vc vd)), .second, .val (.long (own_max vc vd)), .second, .val (.int (1 : Int32)), .val (.ref oOK), .val (.int (0 : Int32))] [(.ref oOK)]))
        obtain ⟨cq11, kq11, q11a, q11b, q11c⟩ := isOf hZ e10 E_oOK
        obtain ⟨_, _, ⟨T11, L11, k11, n11⟩, -, X11, ⟨Lc11, hQ11, l11, y11, z11⟩, st11⟩ := X10.virtualBack hx (y := (⟨"com/example/latebound/latebound/analysis/latency/FlowLatency$Verdict", "isViolation", "()Z"⟩ : MethodName)) (z := (⟨"com/example/latebound/latebound/analysis/latency/FlowLatency$Verdict", "isViolation", "()Z"⟩ : MethodName)) hown (mvT hZ (hw _ (List.mem_of_getElem? (i := 10) rfl))) (mvT hZ (hw _ (List.mem_of_getElem? (i := 11) rfl))) (notFace_of_selects (args := #[]) (mvT hZ (hw _ (List.mem_of_getElem? (i := 13) rfl)))) (mvT hZ (hw _ (List.mem_of_getElem? (i := 13) rfl))) (mvT hZ (hw _ (List.mem_of_getElem? (i := 12) rfl))) (by decide) (backOf (W := 0) (own_rm_iv l Z a0 hw [] oOK oEXCEEDED oBELOW h0 n0 Z0 S_EXCEEDED S_BELOW) hZ (hw _ (List.mem_of_getElem? (i := 14) rfl)) (hw _ (List.mem_of_getElem? (i := 8) rfl)) (by decide) (by decide)) q11a q11c (g := (mkF m 126 #[.val (.long va), .second, .val (.long vb), .second, .val (.long vc), .second, .val (.long vd), .second, .val (.int ve), .val (.long (own_min va vb)), .second, .val (.long (own_max va vb)), .second, .val (.long (own_min vc vd)), .second, .val (.long (own_max vc vd)), .second, .val (.int (1 : Int32)), .val (.ref oOK), .val (.int (0 : Int32))] [(.ref oOK)])) rfl (by rw [hml]; rfl) (Steps.refl _) (argsL := []) (rest := []) (lenOf own_pd1 rfl) rfl (by show 2 * 0 + _ ≤ _; exact Nat.le_of_eq rfl) (hb hby at_126) (fun _ _ => ⟨rfl, e10, (by decide : 0 + 0 ≤ _), (by decide : 0 + 0 ≤ _)⟩)
        dsimp only [Pt.U, Pt.locs, Pt.cells, Pt.slots] at X11 l11 y11 z11 st11 hQ11
        subst l11 y11 z11
        obtain ⟨rfl, N11q, e11⟩ := hQ11
        refine own_Fin.go (fun t k => st11.trans k) ?_
        have N11 := Fr.app N4 N11q
        show own_Fin _ _ _ _ _ _ _ (T11.setTop (mkF m 129 #[.val (.long va), .second, .val (.long vb), .second, .val (.long vc), .second, .val (.long vd), .second, .val (.int ve), .val (.long (own_min va vb)), .second, .val (.long (own_max va vb)), .second, .val (.long (own_min vc vd)), .second, .val (.long (own_max vc vd)), .second, .val (.int (1 : Int32)), .val (.ref oOK), .val (.int (0 : Int32))] [(.int (own_viol oOK oEXCEEDED oBELOW))]))
        refine own_Fin.go (fun t k => XS.iload X11.here hx rfl (hb hby at_129) rfl k) ?_
        show own_Fin _ _ _ _ _ _ _ (T11.setTop (mkF m 131 #[.val (.long va), .second, .val (.long vb), .second, .val (.long vc), .second, .val (.long vd), .second, .val (.int ve), .val (.long (own_min va vb)), .second, .val (.long (own_max va vb)), .second, .val (.long (own_min vc vd)), .second, .val (.long (own_max vc vd)), .second, .val (.int (1 : Int32)), .val (.ref oOK), .val (.int (0 : Int32))] [(.int (0 : Int32)), (.int (own_viol oOK oEXCEEDED oBELOW))]))
        have hc131 : (own_viol oOK oEXCEEDED oBELOW) = (0 : Int32) := (if_neg (Ne.symm ne_oEXCEEDED_oOK)).trans (if_neg (Ne.symm ne_oBELOW_oOK))
        refine own_Fin.go (fun t k => XS.icmpNo X11.here hx rfl (hb hby at_131) rfl (Jvm.Free.XT.ii_ne_f hc131) k) ?_
        show own_Fin _ _ _ _ _ _ _ (T11.setTop (mkF m 134 #[.val (.long va), .second, .val (.long vb), .second, .val (.long vc), .second, .val (.long vd), .second, .val (.int ve), .val (.long (own_min va vb)), .second, .val (.long (own_max va vb)), .second, .val (.long (own_min vc vd)), .second, .val (.long (own_max vc vd)), .second, .val (.int (1 : Int32)), .val (.ref oOK), .val (.int (0 : Int32))] []))
        refine own_Fin.go (fun t k => XS.iconst X11.here hx rfl (hb hby at_134) k) ?_
        show own_Fin _ _ _ _ _ _ _ (T11.setTop (mkF m 135 #[.val (.long va), .second, .val (.long vb), .second, .val (.long vc), .second, .val (.long vd), .second, .val (.int ve), .val (.long (own_min va vb)), .second, .val (.long (own_max va vb)), .second, .val (.long (own_min vc vd)), .second, .val (.long (own_max vc vd)), .second, .val (.int (1 : Int32)), .val (.ref oOK), .val (.int (0 : Int32))] [(.int (1 : Int32))]))
        refine own_Fin.go (fun t k => XS.goto X11.here hx rfl (pc0 := 135) (pc' := 139) rfl (hb hby at_135) (by decide) (by decide) k) ?_
        show own_Fin _ _ _ _ _ _ _ (T11.setTop (mkF m 139 #[.val (.long va), .second, .val (.long vb), .second, .val (.long vc), .second, .val (.long vd), .second, .val (.int ve), .val (.long (own_min va vb)), .second, .val (.long (own_max va vb)), .second, .val (.long (own_min vc vd)), .second, .val (.long (own_max vc vd)), .second, .val (.int (1 : Int32)), .val (.ref oOK), .val (.int (0 : Int32))] [(.int (1 : Int32))]))
        refine own_retN X11 hx (t := .boolean) (w := (1 : Int32)) Bd.returns (by simp) (hb hby at_139) Bd.notSynchronized rfl (by decide) (by decide) ?_
        rw [e11]
        exact ⟨rfl, N11⟩
  · refine own_Fin.go (fun t k => XS.ifYes X4.here hx rfl (pc0 := 36) (pc' := 43) rfl (hb hby at_36) rfl (Jvm.Free.XT.i0_ne_t hc36) (by decide) (by decide) k) ?_
    show own_Fin _ _ _ _ _ _ _ (T4.setTop (mkF m 43 #[.val (.long va), .second, .val (.long vb), .second, .val (.long vc), .second, .val (.long vd), .second, .val (.int ve), .val (.long (own_min va vb)), .second, .val (.long (own_max va vb)), .second, .val (.long (own_min vc vd)), .second, .val (.long (own_max vc vd)), .second, .unset, .unset, .unset] []))
    refine own_Fin.go (fun t k => XS.iconst X4.here hx rfl (hb hby at_43) k) ?_
    show own_Fin _ _ _ _ _ _ _ (T4.setTop (mkF m 44 #[.val (.long va), .second, .val (.long vb), .second, .val (.long vc), .second, .val (.long vd), .second, .val (.int ve), .val (.long (own_min va vb)), .second, .val (.long (own_max va vb)), .second, .val (.long (own_min vc vd)), .second, .val (.long (own_max vc vd)), .second, .unset, .unset, .unset] [(.int (0 : Int32))]))
    refine own_Fin.go (fun t k => XS.istore X4.here hx rfl (hb hby at_44) rfl (l' := #[.val (.long va), .second, .val (.long vb), .second, .val (.long vc), .second, .val (.long vd), .second, .val (.int ve), .val (.long (own_min va vb)), .second, .val (.long (own_max va vb)), .second, .val (.long (own_min vc vd)), .second, .val (.long (own_max vc vd)), .second, .val (.int (0 : Int32)), .unset, .unset]) rfl k) ?_
    show own_Fin _ _ _ _ _ _ _ (T4.setTop (mkF m 46 #[.val (.long va), .second, .val (.long vb), .second, .val (.long vc), .second, .val (.long vd), .second, .val (.int ve), .val (.long (own_min va vb)), .second, .val (.long (own_max va vb)), .second, .val (.long (own_min vc vd)), .second, .val (.long (own_max vc vd)), .second, .val (.int (0 : Int32)), .unset, .unset] []))
    refine own_Fin.go (fun t k => XS.iload X4.here hx rfl (hb hby at_46) rfl k) ?_
    show own_Fin _ _ _ _ _ _ _ (T4.setTop (mkF m 48 #[.val (.long va), .second, .val (.long vb), .second, .val (.long vc), .second, .val (.long vd), .second, .val (.int ve), .val (.long (own_min va vb)), .second, .val (.long (own_max va vb)), .second, .val (.long (own_min vc vd)), .second, .val (.long (own_max vc vd)), .second, .val (.int (0 : Int32)), .unset, .unset] [(.int (0 : Int32))]))
    refine own_Fin.go (fun t k => XS.ifNo X4.here hx rfl (hb hby at_48) rfl (by decide) k) ?_
    show own_Fin _ _ _ _ _ _ _ (T4.setTop (mkF m 51 #[.val (.long va), .second, .val (.long vb), .second, .val (.long vc), .second, .val (.long vd), .second, .val (.int ve), .val (.long (own_min va vb)), .second, .val (.long (own_max va vb)), .second, .val (.long (own_min vc vd)), .second, .val (.long (own_max vc vd)), .second, .val (.int (0 : Int32)), .unset, .unset] []))
    obtain ⟨T12, X12, e12, st12⟩ := getS2 X4 hx hZ hown (host := "") (Or.inl (hw _ (List.mem_of_getElem? (i := 7) rfl))) Via.refl e4 S_UNCHECKED (g := (mkF m 51 #[.val (.long va), .second, .val (.long vb), .second, .val (.long vc), .second, .val (.long vd), .second, .val (.int ve), .val (.long (own_min va vb)), .second, .val (.long (own_max va vb)), .second, .val (.long (own_min vc vd)), .second, .val (.long (own_max vc vd)), .second, .val (.int (0 : Int32)), .unset, .unset] [])) rfl (hb hby at_51)
    refine own_Fin.go st12 ?_
    show own_Fin _ _ _ _ _ _ _ (T12.setTop (mkF m 54 #[.val (.long va), .second, .val (.long vb), .second, .val (.long vc), .second, .val (.long vd), .second, .val (.int ve), .val (.long (own_min va vb)), .second, .val (.long (own_max va vb)), .second, .val (.long (own_min vc vd)), .second, .val (.long (own_max vc vd)), .second, .val (.int (0 : Int32)), .unset, .unset] [(.ref oUNCHECKED)]))
    refine own_Fin.go (fun t k => XS.astore X12.here hx rfl (hb hby at_54) rfl rfl (l' := #[.val (.long va), .second, .val (.long vb), .second, .val (.long vc), .second, .val (.long vd), .second, .val (.int ve), .val (.long (own_min va vb)), .second, .val (.long (own_max va vb)), .second, .val (.long (own_min vc vd)), .second, .val (.long (own_max vc vd)), .second, .val (.int (0 : Int32)), .val (.ref oUNCHECKED), .unset]) rfl k) ?_
    show own_Fin _ _ _ _ _ _ _ (T12.setTop (mkF m 56 #[.val (.long va), .second, .val (.long vb), .second, .val (.long vc), .second, .val (.long vd), .second, .val (.int ve), .val (.long (own_min va vb)), .second, .val (.long (own_max va vb)), .second, .val (.long (own_min vc vd)), .second, .val (.long (own_max vc vd)), .second, .val (.int (0 : Int32)), .val (.ref oUNCHECKED), .unset] []))
    refine own_Fin.go (fun t k => XS.goto X12.here hx rfl (pc0 := 56) (pc' := 96) rfl (hb hby at_56) (by decide) (by decide) k) ?_
    show own_Fin _ _ _ _ _ _ _ (T12.setTop (mkF m 96 #[.val (.long va), .second, .val (.long vb), .second, .val (.long vc), .second, .val (.long vd), .second, .val (.int ve), .val (.long (own_min va vb)), .second, .val (.long (own_max va vb)), .second, .val (.long (own_min vc vd)), .second, .val (.long (own_max vc vd)), .second, .val (.int (0 : Int32)), .val (.ref oUNCHECKED), .unset] []))
    refine own_Fin.go (fun t k => XS.iload X12.here hx rfl (hb hby at_96) rfl k) ?_
    show own_Fin _ _ _ _ _ _ _ (T12.setTop (mkF m 98 #[.val (.long va), .second, .val (.long vb), .second, .val (.long vc), .second, .val (.long vd), .second, .val (.int ve), .val (.long (own_min va vb)), .second, .val (.long (own_max va vb)), .second, .val (.long (own_min vc vd)), .second, .val (.long (own_max vc vd)), .second, .val (.int (0 : Int32)), .val (.ref oUNCHECKED), .unset] [(.int (0 : Int32))]))
    refine own_Fin.go (fun t k => XS.ifYes X12.here hx rfl (pc0 := 98) (pc' := 121) rfl (hb hby at_98) rfl (by decide) (by decide) (by decide) k) ?_
    show own_Fin _ _ _ _ _ _ _ (T12.setTop (mkF m 121 #[.val (.long va), .second, .val (.long vb), .second, .val (.long vc), .second, .val (.long vd), .second, .val (.int ve), .val (.long (own_min va vb)), .second, .val (.long (own_max va vb)), .second, .val (.long (own_min vc vd)), .second, .val (.long (own_max vc vd)), .second, .val (.int (0 : Int32)), .val (.ref oUNCHECKED), .unset] []))
    refine own_Fin.go (fun t k => XS.iconst X12.here hx rfl (hb hby at_121) k) ?_
    show own_Fin _ _ _ _ _ _ _ (T12.setTop (mkF m 122 #[.val (.long va), .second, .val (.long vb), .second, .val (.long vc), .second, .val (.long vd), .second, .val (.int ve), .val (.long (own_min va vb)), .second, .val (.long (own_max va vb)), .second, .val (.long (own_min vc vd)), .second, .val (.long (own_max vc vd)), .second, .val (.int (0 : Int32)), .val (.ref oUNCHECKED), .unset] [(.int (0 : Int32))]))
    refine own_Fin.go (fun t k => XS.istore X12.here hx rfl (hb hby at_122) rfl (l' := #[.val (.long va), .second, .val (.long vb), .second, .val (.long vc), .second, .val (.long vd), .second, .val (.int ve), .val (.long (own_min va vb)), .second, .val (.long (own_max va vb)), .second, .val (.long (own_min vc vd)), .second, .val (.long (own_max vc vd)), .second, .val (.int (0 : Int32)), .val (.ref oUNCHECKED), .val (.int (0 : Int32))]) rfl k) ?_
    show own_Fin _ _ _ _ _ _ _ (T12.setTop (mkF m 124 #[.val (.long va), .second, .val (.long vb), .second, .val (.long vc), .second, .val (.long vd), .second, .val (.int ve), .val (.long (own_min va vb)), .second, .val (.long (own_max va vb)), .second, .val (.long (own_min vc vd)), .second, .val (.long (own_max vc vd)), .second, .val (.int (0 : Int32)), .val (.ref oUNCHECKED), .val (.int (0 : Int32))] []))
    refine own_Fin.go (fun t k => XS.aload X12.here hx rfl (hb hby at_124) rfl rfl k) ?_
    show own_Fin _ _ _ _ _ _ _ (T12.setTop (mkF m 126 #[.val (.long va), .second, .val (.long vb), .second, .val (.long vc), .second, .val (.long vd), .second, .val (.int ve), .val (.long (own_min va vb)), .second, .val (.long (own_max va vb)), .second, .val (.long (own_min vc vd)), .second, .val (.long (own_max vc vd)), .second, .val (.int (0 : Int32)), .val (.ref oUNCHECKED), .val (.int (0 : Int32))] [(.ref oUNCHECKED)]))
    obtain ⟨cq13, kq13, q13a, q13b, q13c⟩ := isOf hZ e12 E_oUNCHECKED
    obtain ⟨_, _, ⟨T13, L13, k13, n13⟩, -, X13, ⟨Lc13, hQ13, l13, y13, z13⟩, st13⟩ := X12.virtualBack hx (y := (⟨"com/example/latebound/latebound/analysis/latency/FlowLatency$Verdict", "isViolation", "()Z"⟩ : MethodName)) (z := (⟨"com/example/latebound/latebound/analysis/latency/FlowLatency$Verdict", "isViolation", "()Z"⟩ : MethodName)) hown (mvT hZ (hw _ (List.mem_of_getElem? (i := 10) rfl))) (mvT hZ (hw _ (List.mem_of_getElem? (i := 11) rfl))) (notFace_of_selects (args := #[]) (mvT hZ (hw _ (List.mem_of_getElem? (i := 13) rfl)))) (mvT hZ (hw _ (List.mem_of_getElem? (i := 13) rfl))) (mvT hZ (hw _ (List.mem_of_getElem? (i := 12) rfl))) (by decide) (backOf (W := 0) (own_rm_iv l Z a0 hw [] oUNCHECKED oEXCEEDED oBELOW h0 n0 Z0 S_EXCEEDED S_BELOW) hZ (hw _ (List.mem_of_getElem? (i := 14) rfl)) (hw _ (List.mem_of_getElem? (i := 8) rfl)) (by decide) (by decide)) q13a q13c (g := (mkF m 126 #[.val (.long va), .second, .val (.long vb), .second, .val (.long vc), .second, .val (.long vd), .second, .val (.int ve), .val (.long (own_min va vb)), .second, .val (.long (own_max va vb)), .second, .val (.long (own_min vc vd)), .second, .val (.long (own_max vc vd)), .second, .val (.int (0 : Int32)), .val (.ref oUNCHECKED), .val (.int (0 : Int32))] [(.ref oUNCHECKED)])) rfl (by rw [hml]; rfl) (Steps.refl _) (argsL := []) (rest := []) (lenOf own_pd1 rfl) rfl (by show 2 * 0 + _ ≤ _; exact Nat.le_of_eq rfl) (hb hby at_126) (fun _ _ => ⟨rfl, e12, (by decide : 0 + 0 ≤ _), (by decide : 0 + 0 ≤ _)⟩)
    dsimp only [Pt.U, Pt.locs, Pt.cells, Pt.slots] at X13 l13 y13 z13 st13 hQ13
    subst l13 y13 z13
    obtain ⟨rfl, N13q, e13⟩ := hQ13
    refine own_Fin.go (fun t k => st13.trans k) ?_
    have N13 := Fr.app N4 N13q
    show own_Fin _ _ _ _ _ _ _ (T13.setTop (mkF m 129 #[.val (.long va), .second, .val (.long vb), .second, .val (.long vc), .second, .val (.long vd), .second, .val (.int ve), .val (.long (own_min va vb)), .second, .val (.long (own_max va vb)), .second, .val (.long (own_min vc vd)), .second, .val (.long (own_max vc vd)), .second, .val (.int (0 : Int32)), .val (.ref oUNCHECKED), .val (.int (0 : Int32))] [(.int (own_viol oUNCHECKED oEXCEEDED oBELOW))]))
    refine own_Fin.go (fun t k => XS.iload X13.here hx rfl (hb hby at_129) rfl k) ?_
    show own_Fin _ _ _ _ _ _ _ (T13.setTop (mkF m 131 #[.val (.long va), .second, .val (.long vb), .second, .val (.long vc), .second, .val (.long vd), .second, .val (.int ve), .val (.long (own_min va vb)), .second, .val (.long (own_max va vb)), .second, .val (.long (own_min vc vd)), .second, .val (.long (own_max vc vd)), .second, .val (.int (0 : Int32)), .val (.ref oUNCHECKED), .val (.int (0 : Int32))] [(.int (0 : Int32)), (.int (own_viol oUNCHECKED oEXCEEDED oBELOW))]))
    have hc131 : (own_viol oUNCHECKED oEXCEEDED oBELOW) = (0 : Int32) := (if_neg ne_oUNCHECKED_oEXCEEDED).trans (if_neg ne_oUNCHECKED_oBELOW)
    refine own_Fin.go (fun t k => XS.icmpNo X13.here hx rfl (hb hby at_131) rfl (Jvm.Free.XT.ii_ne_f hc131) k) ?_
    show own_Fin _ _ _ _ _ _ _ (T13.setTop (mkF m 134 #[.val (.long va), .second, .val (.long vb), .second, .val (.long vc), .second, .val (.long vd), .second, .val (.int ve), .val (.long (own_min va vb)), .second, .val (.long (own_max va vb)), .second, .val (.long (own_min vc vd)), .second, .val (.long (own_max vc vd)), .second, .val (.int (0 : Int32)), .val (.ref oUNCHECKED), .val (.int (0 : Int32))] []))
    refine own_Fin.go (fun t k => XS.iconst X13.here hx rfl (hb hby at_134) k) ?_
    show own_Fin _ _ _ _ _ _ _ (T13.setTop (mkF m 135 #[.val (.long va), .second, .val (.long vb), .second, .val (.long vc), .second, .val (.long vd), .second, .val (.int ve), .val (.long (own_min va vb)), .second, .val (.long (own_max va vb)), .second, .val (.long (own_min vc vd)), .second, .val (.long (own_max vc vd)), .second, .val (.int (0 : Int32)), .val (.ref oUNCHECKED), .val (.int (0 : Int32))] [(.int (1 : Int32))]))
    refine own_Fin.go (fun t k => XS.goto X13.here hx rfl (pc0 := 135) (pc' := 139) rfl (hb hby at_135) (by decide) (by decide) k) ?_
    show own_Fin _ _ _ _ _ _ _ (T13.setTop (mkF m 139 #[.val (.long va), .second, .val (.long vb), .second, .val (.long vc), .second, .val (.long vd), .second, .val (.int ve), .val (.long (own_min va vb)), .second, .val (.long (own_max va vb)), .second, .val (.long (own_min vc vd)), .second, .val (.long (own_max vc vd)), .second, .val (.int (0 : Int32)), .val (.ref oUNCHECKED), .val (.int (0 : Int32))] [(.int (1 : Int32))]))
    refine own_retN X13 hx (t := .boolean) (w := (1 : Int32)) Bd.returns (by simp) (hb hby at_139) Bd.notSynchronized rfl (by decide) (by decide) ?_
    rw [e13]
    exact ⟨rfl, N13⟩
set_option maxRecDepth 65536 in
set_option maxHeartbeats 40000000 in
theorem comes_1 {Post : Tables → Env → Array Value → State → Outcome → State → Prop} (hpost : ∀ tb e args s v u, (limb_1_1.after args s (.returned v) u = true ∧ limb_1_2.after args s (.returned v) u = true ∧ True) → FrameEnd s (.returned v) u (Jvm.fieldLocs frame_1_writes args s ++ Jvm.arrayLocs frame_1_arrays args s ++ Jvm.staticLocs frame_1_statics s) 0 0 → Post tb e args s (.returned v) u) :
    ArmFor flags0 classFile x code maxLocals ret World_1 tables_1 room_1 Calls_1 rest_1 Pre_1 Post := by
  intro l hfl _ _ p e ha hc hk s m args below hf hA hF happ hP
  obtain ⟨hcalls, hrest, hpre⟩ := hP
  obtain ⟨-, -, -, hnamed, -, -, -, hat⟩ := (Spec.applies_iff hf).mp happ
  obtain ⟨hg, hn⟩ := and_e (Cond.before_iff.mp (show (Jvm.Cond.and given_1 narrow_1).before args s = true from hpre))
  obtain ⟨hg0, hr0⟩ := and_e hg
  obtain ⟨hg1, hr1⟩ := and_e hr0
  obtain ⟨hg2, hr2⟩ := and_e hr1
  obtain ⟨hg3, hr3⟩ := and_e hr2
  obtain ⟨hg4, hr4⟩ := and_e hr3
  obtain ⟨w0, w1, w2, w3, w4, rfl⟩ : ∃ w0 w1 w2 w3 w4 : Value, args = #[w0, w1, w2, w3, w4] := by
    have hs : args.size = 5 := by simpa [Cond.value, given_1] using hg0
    obtain ⟨L⟩ := args
    match L, hs with
    | [w0, w1, w2, w3, w4], _ => exact ⟨w0, w1, w2, w3, w4, rfl⟩
  have hw := fun d (hd : d ∈ tables_1) => atoms_spec (ws := Jvm.Cond.code x code maxLocals ret :: tables_1) hat d (List.mem_cons_of_mem _ hd)
  have hfit : Fit s := fun {y c} hc i hi => by
    obtain ⟨ha, rfl⟩ := Array.getElem?_eq_some_iff.mp hc
    have q := List.all_eq_true.mp ((Array.all_eq_true_iff_forall_mem.mp hF) _ (Array.getElem_mem ha)) i (List.mem_range.mpr hi)
    simpa [Array.getElem?_eq_getElem hi] using q
  obtain ⟨i0, ei0⟩ := isL_v hg1
  obtain rfl : w0 = (.long i0) := Option.some.inj ei0
  obtain ⟨i1, ei1⟩ := isL_v hg2
  obtain rfl : w1 = (.long i1) := Option.some.inj ei1
  obtain ⟨i2, ei2⟩ := isL_v hg3
  obtain rfl : w2 = (.long i2) := Option.some.inj ei2
  obtain ⟨i3, ei3⟩ := isL_v hg4
  obtain rfl : w3 = (.long i3) := Option.some.inj ei3
  obtain ⟨i4, ei4⟩ := is_v hr4
  obtain rfl : w4 = (.int i4) := Option.some.inj ei4
  obtain ⟨hn0, hm0⟩ := and_e hn
  obtain ⟨hn1, hm1⟩ := and_e hm0
  obtain ⟨hn2, hm2⟩ := and_e hm1
  obtain ⟨hn3, hm3⟩ := and_e hm2
  obtain ⟨hn4, hm4⟩ := and_e hm3
  obtain ⟨hn5, hm5⟩ := and_e hm4
  obtain ⟨hn6, hm6⟩ := and_e hm5
  obtain ⟨oUNCHECKED, evUNCHECKED⟩ := exa_v hn0
  have E_oUNCHECKED := Exa.start evUNCHECKED hn0
  have S_UNCHECKED := Sta.start evUNCHECKED (Or.inr ⟨(hw _ (List.mem_of_getElem? (i := 8) rfl)), (hw _ (List.mem_of_getElem? (i := 9) rfl))⟩)
  obtain ⟨oEXCEEDED, evEXCEEDED⟩ := exa_v hn1
  have E_oEXCEEDED := Exa.start evEXCEEDED hn1
  have S_EXCEEDED := Sta.start evEXCEEDED (Or.inr ⟨(hw _ (List.mem_of_getElem? (i := 8) rfl)), (hw _ (List.mem_of_getElem? (i := 16) rfl))⟩)
  obtain ⟨oBELOW, evBELOW⟩ := exa_v hn4
  have E_oBELOW := Exa.start evBELOW hn4
  have S_BELOW := Sta.start evBELOW (Or.inr ⟨(hw _ (List.mem_of_getElem? (i := 8) rfl)), (hw _ (List.mem_of_getElem? (i := 18) rfl))⟩)
  obtain ⟨oOK, evOK⟩ := exa_v hn6
  have E_oOK := Exa.start evOK hn6
  have S_OK := Sta.start evOK (Or.inr ⟨(hw _ (List.mem_of_getElem? (i := 8) rfl)), (hw _ (List.mem_of_getElem? (i := 22) rfl))⟩)
  have F_oUNCHECKED_ordinal := Fld.start (own_fld evUNCHECKED (own_eqInt hn2))
  have F_oEXCEEDED_ordinal := Fld.start (own_fld evEXCEEDED (own_eqInt hn3))
  have F_oBELOW_ordinal := Fld.start (own_fld evBELOW (own_eqInt hn5))
  have F_oOK_ordinal := Fld.start (own_fld evOK (own_eqInt hm6))
  have ne_oUNCHECKED_oEXCEEDED : oUNCHECKED ≠ oEXCEEDED := Fld.ne F_oUNCHECKED_ordinal F_oEXCEEDED_ordinal (by intro q; exact absurd (Value.int.inj q) (by decide))
  have ne_oUNCHECKED_oBELOW : oUNCHECKED ≠ oBELOW := Fld.ne F_oUNCHECKED_ordinal F_oBELOW_ordinal (by intro q; exact absurd (Value.int.inj q) (by decide))
  have ne_oUNCHECKED_oOK : oUNCHECKED ≠ oOK := Fld.ne F_oUNCHECKED_ordinal F_oOK_ordinal (by intro q; exact absurd (Value.int.inj q) (by decide))
  have ne_oEXCEEDED_oBELOW : oEXCEEDED ≠ oBELOW := Fld.ne F_oEXCEEDED_ordinal F_oBELOW_ordinal (by intro q; exact absurd (Value.int.inj q) (by decide))
  have ne_oEXCEEDED_oOK : oEXCEEDED ≠ oOK := Fld.ne F_oEXCEEDED_ordinal F_oOK_ordinal (by intro q; exact absurd (Value.int.inj q) (by decide))
  have ne_oBELOW_oOK : oBELOW ≠ oOK := Fld.ne F_oBELOW_ordinal F_oOK_ordinal (by intro q; exact absurd (Value.int.inj q) (by decide))
  obtain ⟨n, o, h1, h2, h3, _, L, rfl, ⟨rfl, N⟩, hq⟩ := own_rm_law l s _ hw tables_1 i0 i1 i2 i3 i4 oUNCHECKED oEXCEEDED oBELOW oOK s.heap s.heap.size (Nat.le_refl _) S_UNCHECKED E_oUNCHECKED S_EXCEEDED E_oEXCEEDED S_BELOW E_oBELOW S_OK E_oOK F_oUNCHECKED_ordinal F_oEXCEEDED_ordinal F_oBELOW_ordinal F_oOK_ordinal ne_oUNCHECKED_oEXCEEDED ne_oUNCHECKED_oBELOW ne_oUNCHECKED_oOK ne_oEXCEEDED_oBELOW ne_oEXCEEDED_oOK ne_oBELOW_oOK p e ha hc hk s m _ below hf ((Spec.applies_iff_loose hf).mp happ).1 ⟨rfl, State.Warmed39.refl s, rfl⟩ trivial
  refine ⟨n, _, h1, h2, h3, hpost _ _ _ _ _ _ ⟨Cond.after_iff.mpr rfl, Cond.after_iff.mpr (eq_i res_at (Term.int_eval (1)) rfl), trivial⟩ ⟨hq.1, hq.2.1, (hq.2.2.sift fun y hy => Or.inr (N y hy)).mono (by decide) (by decide)⟩⟩
theorem main_1_1 : Claimed_1_1 := comes_1 fun _ _ _ _ _ _ h hF => ⟨h.1, hF⟩
theorem main_1_2 : Claimed_1_2 := comes_1 fun _ _ _ _ _ _ h hF => ⟨h.2.1, hF⟩
end Jvm.Pilot.@@N@@
namespace Jvm.Pilot.@@N@@
open Jvm Jvm.ClassFile Sem Op Lib Jvm.Free Jvm.Stand Jvm.Pilot.@@N@@.Jvm.D
/-! MADE BY PROGRAM (witnessworld.py) out of the Statement's table words and the real class files: 13 classes; the members and pool entries that the words name. The judged class is class 1, her method 1. -/
namespace start1
open Jvm.ClassFile
def u (s : String) : CpInfo := .utf8 (stringToUtf16 s)
/-- a pool by its gaps: so many unusable entries, then the entry; so many at the end -/
def gap : Nat → List CpInfo → List CpInfo
  | 0, r => r
  | n + 1, r => .unusable :: gap n r
def poolList (es : List (Nat × CpInfo)) (last : Nat) : List CpInfo := es.foldr (fun e r => gap e.1 (e.2 :: r)) (gap last [])
def pool (es : List (Nat × CpInfo)) (last : Nat) : Array CpInfo := ⟨poolList es last⟩
def fileOf (pool : Array CpInfo) (this : Nat) (attrs : Array Attribute := #[]) (ms : Array MethodInfo := #[]) (fl : Nat := 33) (sup : Nat := 0) (ifs : Array Nat := #[]) (fds : Array FieldInfo := #[]) : ClassFile where
  minorVersion := 0
  majorVersion := 65
  constantPool := pool
  accessFlags := fl
  thisClass := this
  superClass := sup
  interfaces := ifs
  fields := fds
  methods := ms
  attributes := attrs
def plain (name : String) (sup : Option ClassId) : Class where
  name := name
  kind := .ordinary
  loader := none
  accessFlags := 33
  super := sup
  interfaces := #[]
  cf := none
  fields := #[]
  methods := #[]
  instanceTypes := #[]
  staticTypes := #[]
  resolved := #[]
  callSites := []
  init := .initialized
  statics := none
  mirror := none

def pool0 : Array CpInfo := pool [(5, u "<init>"), (0, u "()V"), (1, .class_ 10), (1, u "java/lang/Object")] 113

def k0m0 : Method := { name := "<init>", desc := "()V", sig := { parameters := [], returnType := none }, accessFlags := 1, code := none }
/-- java/lang/Object -/
def k0 : Class := { plain "java/lang/Object" none with
  accessFlags := 33
  interfaces := #[]
  cf := some (fileOf pool0 8 #[] #[{ accessFlags := 1, nameIndex := 5, descriptorIndex := 6, attributes := #[] }] 33 0 #[] #[])
  fields := #[]
  methods := #[k0m0]
  instanceTypes := #[]
  staticTypes := #[]
  resolved := Array.replicate 124 none
  statics := none }

def pool1 : Array CpInfo := pool [(2, .class_ 4), (1, u "java/lang/Object"), (0, u "<init>"), (0, u "()V"), (0, .methodref 8 9), (0, .class_ 10), (0, .nameAndType 11 12), (0, u "java/lang/Math"), (0, u "min"), (0, u "(JJ)J"), (0, .methodref 8 14), (0, .nameAndType 15 12), (0, u "max"), (0, .fieldref 17 18), (0, .class_ 19), (0, .nameAndType 20 21), (0, u "com/example/latebound/latebound/analysis/latency/FlowLatency$Verdict"), (0, u "UNCHECKED"), (0, u "Lcom/example/latebound/latebound/analysis/latency/FlowLatency$Verdict;"), (0, .fieldref 17 23), (0, .nameAndType 24 21), (0, u "EXCEEDED"), (0, .fieldref 17 26), (0, .nameAndType 27 21), (0, u "BELOW"), (0, .fieldref 17 29), (0, .nameAndType 30 21), (0, u "OK"), (0, .methodref 17 32), (0, .nameAndType 33 34), (0, u "isViolation"), (0, u "()Z"), (0, .class_ 36), (0, u "com/example/latebound/latebound/analysis/latency/VerdictIsViolationPinLaw"), (2, u "law"), (0, u "(JJJJI)Z")] 7

def k1m0 : Method := { name := "<init>", desc := "()V", sig := { parameters := [], returnType := none }, accessFlags := 2, code := none }
def k1c1 : Code := { maxStack := 4, maxLocals := 20, code := code, exceptionTable := #[], attributes := #[] }
def k1m1 : Method := { name := "law", desc := "(JJJJI)Z", sig := { parameters := [.long, .long, .long, .long, .int], returnType := some .boolean }, accessFlags := 9, code := some k1c1 }
/-- com/example/latebound/latebound/analysis/latency/VerdictIsViolationPinLaw -/
def k1 : Class := { plain "com/example/latebound/latebound/analysis/latency/VerdictIsViolationPinLaw" (some 0) with
  accessFlags := 49
  interfaces := #[]
  cf := some (fileOf pool1 35 #[] #[{ accessFlags := 2, nameIndex := 5, descriptorIndex := 6, attributes := #[] }, { accessFlags := 9, nameIndex := 39, descriptorIndex := 40, attributes := #[] }] 49 2 #[] #[])
  fields := #[]
  methods := #[k1m0, k1m1]
  instanceTypes := #[]
  staticTypes := #[]
  resolved := Array.replicate 48 none
  statics := none }

def pool2 : Array CpInfo := pool [(1, .class_ 2), (0, u "java/lang/Math"), (1, .class_ 6), (1, u "java/lang/Object"), (0, u "<init>"), (0, u "()V"), (89, .class_ 100), (1, u "java/lang/Math$RandomNumberGeneratorHolder"), (20, u "(JJ)J"), (50, u "negativeZeroFloatBits"), (0, u "J"), (2, u "negativeZeroDoubleBits"), (21, u "max"), (2, u "min"), (43, u "$assertionsDisabled"), (0, u "Z"), (91, u "twoToTheDoubleScaleDown"), (0, u "D"), (4, u "twoToTheDoubleScaleUp"), (9, u "E"), (3, u "PI"), (2, u "TAU"), (2, u "DEGREES_TO_RADIANS"), (0, u "RADIANS_TO_DEGREES")] 94

def k2m0 : Method := { name := "<init>", desc := "()V", sig := { parameters := [], returnType := none }, accessFlags := 2, code := none }
def k2c1 : Code := { maxStack := 4, maxLocals := 4, code := jdk_29_method_66_code, exceptionTable := #[], attributes := #[] }
def k2m1 : Method := { name := "max", desc := "(JJ)J", sig := { parameters := [.long, .long], returnType := some .long }, accessFlags := 9, code := some k2c1 }
def k2c2 : Code := { maxStack := 4, maxLocals := 4, code := jdk_29_method_70_code, exceptionTable := #[], attributes := #[] }
def k2m2 : Method := { name := "min", desc := "(JJ)J", sig := { parameters := [.long, .long], returnType := some .long }, accessFlags := 9, code := some k2c2 }
/-- java/lang/Math -/
def k2 : Class := { plain "java/lang/Math" (some 0) with
  accessFlags := 49
  interfaces := #[]
  cf := some (fileOf pool2 1 #[.nestMembers #[98]] #[{ accessFlags := 2, nameIndex := 7, descriptorIndex := 8, attributes := #[] }, { accessFlags := 9, nameIndex := 198, descriptorIndex := 121, attributes := #[] }, { accessFlags := 9, nameIndex := 201, descriptorIndex := 121, attributes := #[] }] 49 4 #[] #[{ accessFlags := 25, nameIndex := 354, descriptorIndex := 339, attributes := #[] }, { accessFlags := 25, nameIndex := 358, descriptorIndex := 339, attributes := #[] }, { accessFlags := 25, nameIndex := 361, descriptorIndex := 339, attributes := #[] }, { accessFlags := 26, nameIndex := 364, descriptorIndex := 339, attributes := #[] }, { accessFlags := 26, nameIndex := 365, descriptorIndex := 339, attributes := #[] }, { accessFlags := 26, nameIndex := 172, descriptorIndex := 173, attributes := #[] }, { accessFlags := 26, nameIndex := 176, descriptorIndex := 173, attributes := #[] }, { accessFlags := 8, nameIndex := 344, descriptorIndex := 339, attributes := #[] }, { accessFlags := 8, nameIndex := 338, descriptorIndex := 339, attributes := #[] }, { accessFlags := 4120, nameIndex := 245, descriptorIndex := 246, attributes := #[] }])
  fields := #[{ name := "E", type := .double, accessFlags := 25, slot := 0, constantValue := 0 }, { name := "PI", type := .double, accessFlags := 25, slot := 1, constantValue := 0 }, { name := "TAU", type := .double, accessFlags := 25, slot := 2, constantValue := 0 }, { name := "DEGREES_TO_RADIANS", type := .double, accessFlags := 26, slot := 3, constantValue := 0 }, { name := "RADIANS_TO_DEGREES", type := .double, accessFlags := 26, slot := 4, constantValue := 0 }, { name := "negativeZeroFloatBits", type := .long, accessFlags := 26, slot := 5, constantValue := 0 }, { name := "negativeZeroDoubleBits", type := .long, accessFlags := 26, slot := 6, constantValue := 0 }, { name := "twoToTheDoubleScaleUp", type := .double, accessFlags := 8, slot := 7, constantValue := 0 }, { name := "twoToTheDoubleScaleDown", type := .double, accessFlags := 8, slot := 8, constantValue := 0 }, { name := "$assertionsDisabled", type := .boolean, accessFlags := 4120, slot := 9, constantValue := 0 }]
  methods := #[k2m0, k2m1, k2m2]
  instanceTypes := #[]
  staticTypes := #[.double, .double, .double, .double, .double, .long, .long, .double, .double, .boolean]
  resolved := Array.replicate 460 none
  statics := none }

def pool3 : Array CpInfo := pool [(1, .class_ 2), (0, u "java/lang/constant/Constable"), (0, .class_ 4), (0, u "java/lang/Object")] 6

/-- java/lang/constant/Constable -/
def k3 : Class := { plain "java/lang/constant/Constable" (some 0) with
  accessFlags := 1537
  interfaces := #[]
  cf := some (fileOf pool3 1 #[] #[] 1537 3 #[] #[])
  fields := #[]
  methods := #[]
  instanceTypes := #[]
  staticTypes := #[]
  resolved := Array.replicate 11 none
  statics := none }

def pool4 : Array CpInfo := pool [(1, .class_ 2), (0, u "java/lang/Comparable"), (0, .class_ 4), (0, u "java/lang/Object")] 7

/-- java/lang/Comparable -/
def k4 : Class := { plain "java/lang/Comparable" (some 0) with
  accessFlags := 1537
  interfaces := #[]
  cf := some (fileOf pool4 1 #[] #[] 1537 3 #[] #[])
  fields := #[]
  methods := #[]
  instanceTypes := #[]
  staticTypes := #[]
  resolved := Array.replicate 12 none
  statics := none }

def pool5 : Array CpInfo := pool [(1, .class_ 2), (0, u "java/io/Serializable"), (0, .class_ 4), (0, u "java/lang/Object")] 2

/-- java/io/Serializable -/
def k5 : Class := { plain "java/io/Serializable" (some 0) with
  accessFlags := 1537
  interfaces := #[]
  cf := some (fileOf pool5 1 #[] #[] 1537 3 #[] #[])
  fields := #[]
  methods := #[]
  instanceTypes := #[]
  staticTypes := #[]
  resolved := Array.replicate 7 none
  statics := none }

def pool6 : Array CpInfo := pool [(2, .class_ 4), (1, u "java/lang/Enum"), (0, u "name"), (0, u "Ljava/lang/String;"), (2, u "ordinal"), (0, u "I"), (1, .class_ 14), (1, u "java/lang/Object"), (4, u "hash"), (86, .class_ 108), (1, u "java/lang/Enum$EnumDesc"), (2, .class_ 112), (0, u "java/lang/constant/Constable"), (0, .class_ 114), (0, u "java/lang/Comparable"), (0, .class_ 116), (0, u "java/io/Serializable")] 87

/-- java/lang/Enum -/
def k6 : Class := { plain "java/lang/Enum" (some 0) with
  accessFlags := 1057
  interfaces := #[3, 4, 5]
  cf := some (fileOf pool6 2 #[.nestMembers #[106]] #[] 1057 12 #[111, 113, 115] #[{ accessFlags := 18, nameIndex := 5, descriptorIndex := 6, attributes := #[] }, { accessFlags := 18, nameIndex := 9, descriptorIndex := 10, attributes := #[] }, { accessFlags := 2, nameIndex := 19, descriptorIndex := 10, attributes := #[] }])
  fields := #[{ name := "name", type := (.object "java/lang/String"), accessFlags := 18, slot := 0, constantValue := 0 }, { name := "ordinal", type := .int, accessFlags := 18, slot := 1, constantValue := 0 }, { name := "hash", type := .int, accessFlags := 2, slot := 2, constantValue := 0 }]
  methods := #[]
  instanceTypes := #[(.object "java/lang/String"), .int, .int]
  staticTypes := #[]
  resolved := Array.replicate 204 none
  statics := none }

def pool7 : Array CpInfo := pool [(1, .class_ 2), (0, u "com/example/latebound/latebound/analysis/latency/FlowLatency$Verdict"), (2, u "OK"), (0, u "Lcom/example/latebound/latebound/analysis/latency/FlowLatency$Verdict;"), (0, .fieldref 1 8), (0, .nameAndType 9 6), (0, u "EXCEEDED"), (0, .fieldref 1 11), (0, .nameAndType 12 6), (0, u "BELOW"), (2, u "UNCHECKED"), (2, u "$VALUES"), (0, u "[Lcom/example/latebound/latebound/analysis/latency/FlowLatency$Verdict;"), (6, .class_ 28), (1, u "java/lang/Enum"), (22, u "isViolation"), (0, u "()Z"), (6, .class_ 60), (0, u "com/example/latebound/latebound/analysis/latency/FlowLatency")] 2

def k7c0 : Code := { maxStack := 2, maxLocals := 1, code := prog_9_method_4_code, exceptionTable := #[], attributes := #[] }
def k7m0 : Method := { name := "isViolation", desc := "()Z", sig := { parameters := [], returnType := some .boolean }, accessFlags := 1, code := some k7c0 }
/-- com/example/latebound/latebound/analysis/latency/FlowLatency$Verdict -/
def k7 : Class := { plain "com/example/latebound/latebound/analysis/latency/FlowLatency$Verdict" (some 6) with
  accessFlags := 16433
  interfaces := #[]
  cf := some (fileOf pool7 1 #[.nestHost 59] #[{ accessFlags := 1, nameIndex := 51, descriptorIndex := 52, attributes := #[] }] 16433 26 #[] #[{ accessFlags := 16409, nameIndex := 5, descriptorIndex := 6, attributes := #[] }, { accessFlags := 16409, nameIndex := 9, descriptorIndex := 6, attributes := #[] }, { accessFlags := 16409, nameIndex := 12, descriptorIndex := 6, attributes := #[] }, { accessFlags := 16409, nameIndex := 15, descriptorIndex := 6, attributes := #[] }, { accessFlags := 4122, nameIndex := 18, descriptorIndex := 19, attributes := #[] }])
  fields := #[{ name := "OK", type := (.object "com/example/latebound/latebound/analysis/latency/FlowLatency$Verdict"), accessFlags := 16409, slot := 0, constantValue := 0 }, { name := "EXCEEDED", type := (.object "com/example/latebound/latebound/analysis/latency/FlowLatency$Verdict"), accessFlags := 16409, slot := 1, constantValue := 0 }, { name := "BELOW", type := (.object "com/example/latebound/latebound/analysis/latency/FlowLatency$Verdict"), accessFlags := 16409, slot := 2, constantValue := 0 }, { name := "UNCHECKED", type := (.object "com/example/latebound/latebound/analysis/latency/FlowLatency$Verdict"), accessFlags := 16409, slot := 3, constantValue := 0 }, { name := "$VALUES", type := (.array (.object "com/example/latebound/latebound/analysis/latency/FlowLatency$Verdict")), accessFlags := 4122, slot := 4, constantValue := 0 }]
  methods := #[k7m0]
  instanceTypes := #[(.object "java/lang/String"), .int, .int]
  staticTypes := #[(.object "com/example/latebound/latebound/analysis/latency/FlowLatency$Verdict"), (.object "com/example/latebound/latebound/analysis/latency/FlowLatency$Verdict"), (.object "com/example/latebound/latebound/analysis/latency/FlowLatency$Verdict"), (.object "com/example/latebound/latebound/analysis/latency/FlowLatency$Verdict"), (.array (.object "com/example/latebound/latebound/analysis/latency/FlowLatency$Verdict"))]
  resolved := Array.replicate 63 none
  statics := some 0 }

def pool8 : Array CpInfo := pool [(1, u "java/lang/Cloneable"), (0, .class_ 1), (0, u "java/lang/Object"), (0, .class_ 3)] 3

/-- java/lang/Cloneable -/
def k8 : Class := { plain "java/lang/Cloneable" (some 0) with
  accessFlags := 1537
  interfaces := #[]
  cf := some (fileOf pool8 2 #[] #[] 1537 4 #[] #[])
  fields := #[]
  methods := #[]
  instanceTypes := #[]
  staticTypes := #[]
  resolved := Array.replicate 8 none
  statics := none }

/-- the primitive byte -/
def k9 : Class := { plain "byte" none with kind := .primitive 'B', accessFlags := 0x411 }
/-- [B -/
def k10 : Class := { plain "[B" (some 0) with kind := .array 9 .byte, interfaces := #[8, 5], accessFlags := 1041 }

/-- the primitive int -/
def k11 : Class := { plain "int" none with kind := .primitive 'I', accessFlags := 0x411 }
/-- [I -/
def k12 : Class := { plain "[I" (some 0) with kind := .array 11 .int, interfaces := #[8, 5], accessFlags := 1041 }

def heap : Heap := #[{ cls := 7, slots := #[.ref 1, .ref 2, .ref 3, .ref 4, .null], vm := .statics 7 },
  { cls := 7, slots := #[.null, .int 0, .int 0], vm := .none },
  { cls := 7, slots := #[.null, .int 1, .int 0], vm := .none },
  { cls := 7, slots := #[.null, .int 2, .int 0], vm := .none },
  { cls := 7, slots := #[.null, .int 3, .int 0], vm := .none }]
def classes : Array Class := #[k0, k1, k2, k3, k4, k5, k6, k7, k8, k9, k10, k11, k12]
def interned : List (Array UInt16 × Addr) := []
def slotsUsed : Nat := 17
def theMethod : MethodId := ⟨1, 1⟩
def args0 : Array Value := #[.long 5, .long 3, .long 4, .long 6, .int 4]
def aboutOver (below : List Frame) : State where
  vm := { classes := classes, interned := interned.toArray }
  heap := heap
  slotsUsed := slotsUsed
  threads := #[{ frames := .invoking theMethod args0 :: below }]
def below0 : List Frame := [.native { method := ⟨0, 0⟩, args := #[] }]
def about1 : State := aboutOver below0
def p0 : Program := .bare "" "" ""
def e0 : Env := launch0.env 0 0 0
theorem w_frames : about1.frames = Frame.invoking theMethod args0 :: below0 := rfl
set_option maxRecDepth 65536 in
theorem w_args : argsFit about1.vm theMethod args0 = true := by decide +kernel
set_option maxRecDepth 65536 in
theorem w_heap : heapFits about1 = true := by decide +kernel
set_option maxRecDepth 65536 in
theorem w_runnable : about1.curStatus? = some .runnable := by decide +kernel
set_option maxRecDepth 65536 in
theorem w_alone : about1.alone = true := by decide +kernel
set_option maxRecDepth 65536 in
theorem w_named : about1.methodNamed? x = some theMethod := by decide +kernel
set_option maxRecDepth 65536 in
theorem w_hears : about1.hears theMethod below0 = true := by decide +kernel
set_option maxRecDepth 65536 in
theorem w_ripe : about1.ripe theMethod args0 below0 = true := by decide +kernel
theorem w_running : about1.status = .running := rfl
set_option maxRecDepth 65536 in
theorem w_room : about1.hasRoom e0.platform room_1 = true :=
  launch0.hasRoom_least _ room_1 (by decide +kernel) (by decide +kernel) (by decide +kernel) (by decide +kernel) (by decide +kernel) (by decide +kernel)
theorem allAtoms_all (ts : List Jvm.Cond) (a : Array Jvm.Value) (st : Jvm.State) : (allAtoms ts).before a st = ts.all (fun c => c.before a st) := by
  induction ts with
  | nil => rfl
  | cons c t ih =>
    show (Jvm.Cond.and c (allAtoms t)).before a st = _
    rw [Jvm.Cond.before_and, ih, List.all_cons]
def words1 : List Jvm.Cond := Jvm.Cond.code x code maxLocals ret :: tables_1
/-- a 'code' word, met by the world's own term for the bytes: nothing is compared byte by byte -/
theorem code_word {y : MethodName} {bytes : ByteArray} {mx : Nat} {rt : Option FieldType} {a : Array Value} {s : State} {m : MethodId} {meth : Method} {c : Code} (h1 : s.methodNamed? y = some m) (h2 : s.vm.method? m = some meth) (h3 : meth.code = some c) (h4 : c.code = bytes)
    (h5 : (c.maxLocals == mx && c.exceptionTable.isEmpty && decide (c.maxStack ≤ mostOperands) && decide (meth.sig.returnType = rt) && !meth.locks && decide (parseMethodDescriptor y.desc = some meth.sig)) = true) : (Jvm.Cond.code y bytes mx rt).before a s = true := by
  simp only [Bool.and_eq_true, beq_iff_eq, Bool.not_eq_true', decide_eq_true_eq] at h5
  obtain ⟨⟨⟨⟨⟨g1, g2⟩, g3⟩, g4⟩, g5⟩, g6⟩ := h5
  simp [Cond.before, Cond.holds, Cond.value, h1, h2, h3, h4, g1, g2, g3, g4, g5, g6]
def isCode : Jvm.Cond → Bool
  | .code _ _ _ _ => true
  | _ => false
theorem all_split {L : List Jvm.Cond} {P : Jvm.Cond → Bool} (h1 : L.all (fun c => isCode c || P c) = true) (h2 : ∀ c ∈ L.filter isCode, P c = true) : L.all P = true := by
  refine List.all_eq_true.mpr fun c hc => ?_
  have h := List.all_eq_true.mp h1 c hc
  rcases Bool.eq_false_or_eq_true (isCode c) with hi | hi
  · exact h2 c (List.mem_filter.mpr ⟨hc, hi⟩)
  · simpa [hi] using h
set_option maxRecDepth 65536 in
theorem w_c0 : (Jvm.Cond.code x code maxLocals ret).before args0 about1 = true := code_word (m := ⟨1, 1⟩) (meth := k1m1) (c := k1c1) (by decide +kernel) rfl rfl rfl (by decide +kernel)
set_option maxRecDepth 65536 in
theorem w_c1 : (Jvm.Cond.code ({ cls := "java/lang/Math", name := "min", desc := "(JJ)J" } : Jvm.MethodName) jdk_29_method_70_code (4 : Nat) (Option.some Jvm.ClassFile.FieldType.long)).before args0 about1 = true := code_word (m := ⟨2, 2⟩) (meth := k2m2) (c := k2c2) (by decide +kernel) rfl rfl rfl (by decide +kernel)
set_option maxRecDepth 65536 in
theorem w_c2 : (Jvm.Cond.code ({ cls := "java/lang/Math", name := "max", desc := "(JJ)J" } : Jvm.MethodName) jdk_29_method_66_code (4 : Nat) (Option.some Jvm.ClassFile.FieldType.long)).before args0 about1 = true := code_word (m := ⟨2, 1⟩) (meth := k2m1) (c := k2c1) (by decide +kernel) rfl rfl rfl (by decide +kernel)
set_option maxRecDepth 65536 in
theorem w_c3 : (Jvm.Cond.code ({ cls := "com/example/latebound/latebound/analysis/latency/FlowLatency$Verdict", name := "isViolation", desc := "()Z" } : Jvm.MethodName) prog_9_method_4_code (1 : Nat) (Option.some Jvm.ClassFile.FieldType.boolean)).before args0 about1 = true := code_word (m := ⟨7, 0⟩) (meth := k7m0) (c := k7c0) (by decide +kernel) rfl rfl rfl (by decide +kernel)
def codes1 : List Jvm.Cond := [Jvm.Cond.code x code maxLocals ret, Jvm.Cond.code ({ cls := "java/lang/Math", name := "min", desc := "(JJ)J" } : Jvm.MethodName) jdk_29_method_70_code (4 : Nat) (Option.some Jvm.ClassFile.FieldType.long), Jvm.Cond.code ({ cls := "java/lang/Math", name := "max", desc := "(JJ)J" } : Jvm.MethodName) jdk_29_method_66_code (4 : Nat) (Option.some Jvm.ClassFile.FieldType.long), Jvm.Cond.code ({ cls := "com/example/latebound/latebound/analysis/latency/FlowLatency$Verdict", name := "isViolation", desc := "()Z" } : Jvm.MethodName) prog_9_method_4_code (1 : Nat) (Option.some Jvm.ClassFile.FieldType.boolean)]
set_option maxRecDepth 65536 in
theorem codes_eq : words1.filter isCode = codes1 := rfl
theorem w_codes : ∀ c ∈ words1.filter isCode, c.before args0 about1 = true := by
  rw [codes_eq]
  intro c hc
  simp only [codes1, List.mem_cons, List.not_mem_nil, or_false] at hc
  rcases hc with rfl | rfl | rfl | rfl
  · exact w_c0
  · exact w_c1
  · exact w_c2
  · exact w_c3
set_option maxRecDepth 65536 in
theorem w_t1 : words1.all (fun c => isCode c || c.before args0 about1) = true := by decide +kernel
theorem w_tables : (allAtoms (Jvm.Cond.code x code maxLocals ret :: tables_1)).before args0 about1 = true := by
  rw [allAtoms_all]
  show words1.all (fun c => c.before args0 about1) = true
  refine all_split ?_ w_codes
  rw [w_t1]
set_option maxRecDepth 65536 in
theorem w_case : (Jvm.Cond.and given_1 narrow_1).before args0 about1 = true := by decide +kernel
theorem w_applies : (headSpec (Jvm.Cond.code x code maxLocals ret :: tables_1) room_1).applies x e0.platform about1 = true :=
  (Spec.applies_iff w_frames).mpr ⟨w_running, w_runnable, w_alone, w_named, w_hears, w_ripe, w_room, w_tables⟩
theorem atStart : AtStart classFile x code maxLocals ret World_1 tables_1 room_1 Calls_1 rest_1 Pre_1 launch0 p0 e0 about1 theMethod args0 below0 :=
  ⟨lists_1, trivial, launch0.admits_env _ _ _, launch0.least_env, fairChoices_fair.cas, fairChoices_fair.clock, w_frames, w_args, w_heap, w_applies, trivial, trivial, w_case⟩
end start1
theorem witness_1 : WitnessClaimed_1 := ⟨start1.p0, start1.e0, start1.about1, start1.theMethod, start1.args0, start1.below0, start1.atStart⟩
end Jvm.Pilot.@@N@@
