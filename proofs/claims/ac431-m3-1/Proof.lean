import JvmDerived
import JvmDerived.Pilot.@@N@@Statement
import JvmDerived.Pilot.@@N@@Code
set_option linter.unusedVariables false
set_option linter.unusedSimpArgs false
namespace Jvm.RoadKit
open Sem ClassFile Op Lib Jvm.Stand Jvm.Free Jvm.LawKit
section New
variable {p : Program} {l : Launch} {e : Env} {R : Room} {s : State} {m : MethodId} {args : Array Value} {below : List Frame} {meth : Method} {c : Code} {T : State} {locs : List Loc} {cells slots : Nat}
theorem retI (X : Stand p l e R s m args below meth c T locs cells slots) (hx : p.tables.exec = Jvm.exec) {pc : Nat} {Ls : Array Slot} {z : Int32} {rest : List Value} (hret : meth.sig.returnType = some .int) (hd : decode c.code pc = .ok (.ireturn, 1)) {fs : List Frame}
    (hl : ∀ (f : JFrame) (acts : List Action), f.method = m → f.locked = none → f.entered = [] → (doReturn e (T.setTop f) acts (some (.int z))).1 = T.setFrames fs) : Steps p.tables e below (T.setTop (mkF m pc Ls (.int z :: rest))) (T.setFrames fs) := by
  have hm' : T.vm.method? m = some meth := X.method'
  have hn : narrow .int (.int z) = .int z := rfl
  show Steps p.tables e below (T.setTop { method := m, pc := pc, locals := Ls, stack := _ :: rest, locked := none }) _
  jvm_step X.here [X.here.top, hx, hd, hm', hret, hn]
  first | (intro acts; rw [hl _ acts rfl rfl rfl]) | rw [hl _ _ rfl rfl rfl]
  exact Steps.refl _
end New
end Jvm.RoadKit
namespace Jvm.Pilot.@@N@@
open Jvm Jvm.ClassFile Sem Op Lib Jvm.Free Jvm.Stand Jvm.LawKit Jvm.RoadKit Bundle Jvm.Pilot.@@N@@.Jvm.D
/-! The walk in a goal-driven form: own_Fin says that the run from A comes to an end at which Q holds, within the frame. -/
def own_Fin (p : Program) (e : Env) (below : List Frame) (s : State) (Q : Option Value → Heap → List Loc → Prop) (kc ks : Nat) (A : State) : Prop :=
  ∃ s₂ o, Steps p.tables e below A s₂ ∧ s₂.status = .running ∧ Ended s₂ below o ∧ ∃ v L, o = .returned v ∧ Q v s₂.heap L ∧ FrameEnd s o s₂ L kc ks
theorem own_Fin.go {p : Program} {e : Env} {below : List Frame} {s : State} {Q : Option Value → Heap → List Loc → Prop} {kc ks : Nat} {A B : State} (st : ∀ t, Steps p.tables e below B t → Steps p.tables e below A t) (h : own_Fin p e below s Q kc ks B) : own_Fin p e below s Q kc ks A := by
  obtain ⟨s₂, o, h1, h2⟩ := h
  exact ⟨s₂, o, st _ h1, h2⟩
section OwnRet
variable {p : Program} {l : Launch} {e : Env} {R : Room} {s : State} {m : MethodId} {args : Array Value} {below : List Frame} {meth : Method} {c : Code} {T : State} {locs : List Loc} {cells slots : Nat} {Q : Option Value → Heap → List Loc → Prop} {kc ks : Nat}
theorem own_end (X : Stand p l e R s m args below meth c T locs cells slots) {v : Option Value} (hv : meth.sig.returnType = none → v = none) (hlocks : meth.locks = false) (hc : cells ≤ kc) (hs : slots ≤ ks) {A : State}
    (h : ∀ fs : List Frame, (∀ (f : JFrame) (acts : List Action), f.method = m → f.locked = none → f.entered = [] → (doReturn e (T.setTop f) acts v).1 = T.setFrames fs) → Steps p.tables e below A (T.setFrames fs)) (hQ : Q v T.heap locs) : own_Fin p e below s Q kc ks A := by
  obtain ⟨fs, hr, hrun, hended, hW, hsame⟩ := X.leave (v := v) hv hlocks
  exact ⟨_, _, h fs hr, hrun, hended, _, _, rfl, hQ, ⟨_, rfl⟩, hW, hsame.mono hc hs⟩
theorem own_retN (X : Stand p l e R s m args below meth c T locs cells slots) (hx : p.tables.exec = Jvm.exec) {pc : Nat} {Ls : Array Slot} {z w : Int32} {t : FieldType} {rest : List Value} (hret : meth.sig.returnType = some t) (ht : t = .boolean ∨ t = .byte ∨ t = .char ∨ t = .short)
    (hd : decode c.code pc = .ok (.ireturn, 1)) (hlocks : meth.locks = false) (hw : nar t z = w) (hc : cells ≤ kc) (hs : slots ≤ ks) (hQ : Q (some (.int w)) T.heap locs) : own_Fin p e below s Q kc ks (T.setTop (mkF m pc Ls (.int z :: rest))) :=
  own_end X (v := some (.int w)) (fun h => by rw [hret] at h; cases h) hlocks hc hs (fun fs hr => retN X hx hret ht hd (by rw [hw]; exact hr)) hQ
theorem own_retI (X : Stand p l e R s m args below meth c T locs cells slots) (hx : p.tables.exec = Jvm.exec) {pc : Nat} {Ls : Array Slot} {z : Int32} {rest : List Value} (hret : meth.sig.returnType = some .int)
    (hd : decode c.code pc = .ok (.ireturn, 1)) (hlocks : meth.locks = false) (hc : cells ≤ kc) (hs : slots ≤ ks) (hQ : Q (some (.int z)) T.heap locs) : own_Fin p e below s Q kc ks (T.setTop (mkF m pc Ls (.int z :: rest))) :=
  own_end X (v := some (.int z)) (fun h => by rw [hret] at h; cases h) hlocks hc hs (fun fs hr => retI X hx hret hd hr) hQ
theorem own_retJ (X : Stand p l e R s m args below meth c T locs cells slots) (hx : p.tables.exec = Jvm.exec) {pc : Nat} {Ls : Array Slot} {z : Int64} (hret : meth.sig.returnType = some .long)
    (hd : decode c.code pc = .ok (.lreturn, 1)) (hlocks : meth.locks = false) (hc : cells ≤ kc) (hs : slots ≤ ks) (hQ : Q (some (.long z)) T.heap locs) : own_Fin p e below s Q kc ks (T.setTop (mkF m pc Ls [.long z])) :=
  own_end X (v := some (.long z)) (fun h => by rw [hret] at h; cases h) hlocks hc hs (fun fs hr => X.lreturnOut hx hret hd hr) hQ
theorem own_retA (X : Stand p l e R s m args below meth c T locs cells slots) (hx : p.tables.exec = Jvm.exec) {pc : Nat} {Ls : Array Slot} {a : Addr} {t : FieldType} {rest : List Value} (hret : meth.sig.returnType = some t) (ht : t.isReference = true)
    (hd : decode c.code pc = .ok (.areturn, 1)) (hlocks : meth.locks = false) (hc : cells ≤ kc) (hs : slots ≤ ks) (hQ : Q (some (.ref a)) T.heap locs) : own_Fin p e below s Q kc ks (T.setTop (mkF m pc Ls (.ref a :: rest))) :=
  own_end X (v := some (.ref a)) (fun h => by rw [hret] at h; cases h) hlocks hc hs (fun fs hr => retOut X hx hret (by cases t <;> first | rfl | (simp [FieldType.isReference] at ht)) (Or.inr (Or.inr (Or.inr (Or.inr ⟨rfl, ht, rfl⟩)))) hd hr) hQ
theorem own_ret0 (X : Stand p l e R s m args below meth c T locs cells slots) (hx : p.tables.exec = Jvm.exec) {pc : Nat} {Ls : Array Slot} (hret : meth.sig.returnType = none)
    (hd : decode c.code pc = .ok (.return_, 1)) (hlocks : meth.locks = false) (hc : cells ≤ kc) (hs : slots ≤ ks) (hQ : Q none T.heap locs) : own_Fin p e below s Q kc ks (T.setTop (mkF m pc Ls [])) :=
  own_end X (v := none) (fun _ => rfl) hlocks hc hs (fun fs hr => X.returnOut hx hret hd hr) hQ
end OwnRet
theorem own_selp {s : State} {args args' : Array Value} {C : String} {y w : MethodName} (hw : (Jvm.Cond.selects C w w).before args s = true) (hcls : w.cls = y.cls) (hpriv : s.PrivateAt y) (hinst : (Jvm.Cond.instanceMethod y).before args s = true) (hy : y.cls ≠ "java/lang/invoke/MethodHandle" ∧ y.cls ≠ "java/lang/invoke/VarHandle") : (Jvm.Cond.selects y.cls y y).before args' s = true := by
  obtain ⟨c2, r2, m2, -, -, q3, -, kP, hkP, hkPi⟩ := Cond.selects_spec hw
  exact selects_self_of_private (by rw [← hcls]; exact findClass_of_methodNamed q3) hkP hkPi hpriv hinst hy
theorem own_eqInt {args : Array Value} {first s : State} {o : Option Outcome} {idx : List Nat} {t : Term} {n : Int32} (h : (Jvm.Cond.eq t (.int n)).value args first o s idx = some true) : t.eval args first o idx s = some (.int n) := by
  cases ht : t.eval args first o idx s with
  | none => simp [Jvm.Cond.value, ht] at h
  | some x => cases x <;> simp [Jvm.Cond.value, ht, Term.eval] at h ⊢; exact h
theorem own_fld {args : Array Value} {first s : State} {o : Option Outcome} {idx : List Nat} {t : Term} {C n d : String} {a : Addr} {v : Value} (ht : t.eval args first o idx s = some (.ref a)) (h : (Term.field t C n d).eval args first o idx s = some v) : s.fieldOf? a C n d = some v := by
  rw [← fld_at ht]; exact h
def own_fmt (k : Int32) (c0 c1 c2 c3 c4 c5 c6 c7 c8 : Addr) : Addr := if k = 0 then c0 else if k = 1 then c1 else if k = 2 then c2 else if k = 3 then c3 else if k = 4 then c4 else if k = 5 then c5 else if k = 6 then c6 else if k = 7 then c7 else c8
def own_en (r d row size : Int32) : Int32 := if r = 0 then (if d = 0 then row else row + 1) else size
def own_exp (k row size : Int32) : Int32 := if k = 2 then row else if k = 5 then row else if k = 4 then row + 1 else if k = 7 then row + 1 else size
theorem own_dfm0_0 : decode method_2_code 0 = .ok (.iload_n 0, 1) := by decide +kernel
theorem own_dfm0_1 : decode method_2_code 1 = .ok (.ifCond .ne 7, 3) := by decide +kernel
theorem own_dfm0_4 : decode method_2_code 4 = .ok (.getstatic 7, 3) := by decide +kernel
theorem own_dfm0_7 : decode method_2_code 7 = .ok (.areturn, 1) := by decide +kernel
theorem own_pn0 : plainName "com/example/parlay/parlay/problems/tsp/MatrixFormatEndPinLaw" = true := by first | (simp [plainName, overriddenIn]; done) | decide +kernel
theorem own_ef_fm0 (m : MethodId) (va : Int32) : entryFrame m #[(.int va)] 1 = mkF m 0 #[.val (.int va)] [] := by first | (simp [entryFrame, mkF, argsToLocals, Value.category]; done) | rfl
def own_Q_fm0 (Z : State) (va : Int32) (oFULL_MATRIX : Addr) (h0 : Heap) (n0 : Nat) (v : Option Value) (h : Heap) (L : List Loc) : Prop := v = some (.ref oFULL_MATRIX) ∧ Fr n0 L ∧ h = h0
set_option maxRecDepth 65536 in
set_option maxHeartbeats 40000000 in
theorem own_rm_fm0 (l : Launch) (Z : State) (a0 : Array Value) (hw : ∀ d ∈ tables_1, d.before a0 Z = true) (ws : List Jvm.Cond) (va : Int32) (oFULL_MATRIX : Addr) (h0 : Heap) (n0 : Nat) (Z0 : n0 ≤ h0.size) (S_FULL_MATRIX : Sta Z h0 "com/example/parlay/parlay/problems/tsp/MatrixFormat" "FULL_MATRIX" "Lcom/example/parlay/parlay/problems/tsp/MatrixFormat;" (.ref oFULL_MATRIX)) (hk0 : va = (0 : Int32)) :
    MetFree l (⟨"com/example/parlay/parlay/problems/tsp/MatrixFormatEndPinLaw", "format", "(I)Lcom/example/parlay/parlay/problems/tsp/MatrixFormat;"⟩ : MethodName) (head1 (Jvm.Cond.code (⟨"com/example/parlay/parlay/problems/tsp/MatrixFormatEndPinLaw", "format", "(I)Lcom/example/parlay/parlay/problems/tsp/MatrixFormat;"⟩ : MethodName) method_2_code 1 (some (.object "com/example/parlay/parlay/problems/tsp/MatrixFormat")) :: ws) ({ frames := 0, cells := 0, slots := 0, locals := 0 } : Room)) (fun a U => a = #[(.int va)] ∧ Z.Warmed39 U.vm ∧ U.heap = h0) (fun _ _ _ _ _ => True) (fun _ U o U' => ∃ v L, o = .returned v ∧ own_Q_fm0 Z va oFULL_MATRIX h0 n0 v U'.heap L ∧ FrameEnd U o U' L ({ frames := 0, cells := 0, slots := 0, locals := 0 } : Room).cells ({ frames := 0, cells := 0, slots := 0, locals := 0 } : Room).slots) := by
  refine MetFree.of_bodySF (plainFor_of_name own_pn0) hisR ?_
  intro p e s m args below meth c s₁ Bd hml0 hP hK
  obtain ⟨rfl, hZ, hh⟩ := hP
  have hx := Bd.exec
  have hby := Bd.bytes
  have hml : c.maxLocals = 1 := hml0
  have hown : s.vm.findClass "com/example/parlay/parlay/problems/tsp/MatrixFormatEndPinLaw" = some m.cls := findClass_of_methodNamed Bd.named
  have hnm := (name_of_methodNamed Bd.named Bd.method).1
  have X0 : Stand p l e ({ frames := 0, cells := 0, slots := 0, locals := 0 } : Room) s m #[(.int va)] below meth c s₁ [] 0 0 := Stand.of_body Bd
  have e0 : s₁.heap = h0 := by rw [← hh, Bd.state]; rfl
  have N0 := Fr.nil n0
  show own_Fin p e below s (own_Q_fm0 Z va oFULL_MATRIX h0 n0) ({ frames := 0, cells := 0, slots := 0, locals := 0 } : Room).cells ({ frames := 0, cells := 0, slots := 0, locals := 0 } : Room).slots (s₁.setTop (entryFrame m #[(.int va)] 1))
  refine own_Fin.go (fun t k => castTop (own_ef_fm0 m va) k) ?_
  refine own_Fin.go (fun t k => XS.iloadN X0.here hx rfl (hb hby own_dfm0_0) rfl k) ?_
  show own_Fin _ _ _ _ _ _ _ (s₁.setTop (mkF m 1 #[.val (.int va)] [(.int va)]))
  have hc1 : va = (0 : Int32) := hk0
  refine own_Fin.go (fun t k => XS.ifNo X0.here hx rfl (hb hby own_dfm0_1) rfl (Jvm.Free.XT.i0_ne_f hc1) k) ?_
  show own_Fin _ _ _ _ _ _ _ (s₁.setTop (mkF m 4 #[.val (.int va)] []))
  obtain ⟨T1, X1, e1, st1⟩ := getS2 X0 hx hZ hown (host := "") (Or.inl (hw _ (List.mem_of_getElem? (i := 5) rfl))) Via.refl e0 S_FULL_MATRIX (g := (mkF m 4 #[.val (.int va)] [])) rfl (hb hby own_dfm0_4)
  refine own_Fin.go st1 ?_
  show own_Fin _ _ _ _ _ _ _ (T1.setTop (mkF m 7 #[.val (.int va)] [(.ref oFULL_MATRIX)]))
  refine own_retA X1 hx Bd.returns rfl (hb hby own_dfm0_7) Bd.notSynchronized (by decide) (by decide) ?_
  rw [e1]
  exact ⟨rfl, N0, rfl⟩
theorem own_dfm1_0 : decode method_2_code 0 = .ok (.iload_n 0, 1) := by decide +kernel
theorem own_dfm1_1 : decode method_2_code 1 = .ok (.ifCond .ne 7, 3) := by decide +kernel
theorem own_dfm1_8 : decode method_2_code 8 = .ok (.iload_n 0, 1) := by decide +kernel
theorem own_dfm1_9 : decode method_2_code 9 = .ok (.iconst 1, 1) := by decide +kernel
theorem own_dfm1_10 : decode method_2_code 10 = .ok (.if_icmp .ne 7, 3) := by decide +kernel
theorem own_dfm1_13 : decode method_2_code 13 = .ok (.getstatic 13, 3) := by decide +kernel
theorem own_dfm1_16 : decode method_2_code 16 = .ok (.areturn, 1) := by decide +kernel
theorem own_ef_fm1 (m : MethodId) (va : Int32) : entryFrame m #[(.int va)] 1 = mkF m 0 #[.val (.int va)] [] := by first | (simp [entryFrame, mkF, argsToLocals, Value.category]; done) | rfl
def own_Q_fm1 (Z : State) (va : Int32) (oUPPER_ROW : Addr) (h0 : Heap) (n0 : Nat) (v : Option Value) (h : Heap) (L : List Loc) : Prop := v = some (.ref oUPPER_ROW) ∧ Fr n0 L ∧ h = h0
set_option maxRecDepth 65536 in
set_option maxHeartbeats 40000000 in
theorem own_rm_fm1 (l : Launch) (Z : State) (a0 : Array Value) (hw : ∀ d ∈ tables_1, d.before a0 Z = true) (ws : List Jvm.Cond) (va : Int32) (oUPPER_ROW : Addr) (h0 : Heap) (n0 : Nat) (Z0 : n0 ≤ h0.size) (S_UPPER_ROW : Sta Z h0 "com/example/parlay/parlay/problems/tsp/MatrixFormat" "UPPER_ROW" "Lcom/example/parlay/parlay/problems/tsp/MatrixFormat;" (.ref oUPPER_ROW)) (hk0 : ¬ va = (0 : Int32)) (hk1 : va = (1 : Int32)) :
    MetFree l (⟨"com/example/parlay/parlay/problems/tsp/MatrixFormatEndPinLaw", "format", "(I)Lcom/example/parlay/parlay/problems/tsp/MatrixFormat;"⟩ : MethodName) (head1 (Jvm.Cond.code (⟨"com/example/parlay/parlay/problems/tsp/MatrixFormatEndPinLaw", "format", "(I)Lcom/example/parlay/parlay/problems/tsp/MatrixFormat;"⟩ : MethodName) method_2_code 1 (some (.object "com/example/parlay/parlay/problems/tsp/MatrixFormat")) :: ws) ({ frames := 0, cells := 0, slots := 0, locals := 0 } : Room)) (fun a U => a = #[(.int va)] ∧ Z.Warmed39 U.vm ∧ U.heap = h0) (fun _ _ _ _ _ => True) (fun _ U o U' => ∃ v L, o = .returned v ∧ own_Q_fm1 Z va oUPPER_ROW h0 n0 v U'.heap L ∧ FrameEnd U o U' L ({ frames := 0, cells := 0, slots := 0, locals := 0 } : Room).cells ({ frames := 0, cells := 0, slots := 0, locals := 0 } : Room).slots) := by
  refine MetFree.of_bodySF (plainFor_of_name own_pn0) hisR ?_
  intro p e s m args below meth c s₁ Bd hml0 hP hK
  obtain ⟨rfl, hZ, hh⟩ := hP
  have hx := Bd.exec
  have hby := Bd.bytes
  have hml : c.maxLocals = 1 := hml0
  have hown : s.vm.findClass "com/example/parlay/parlay/problems/tsp/MatrixFormatEndPinLaw" = some m.cls := findClass_of_methodNamed Bd.named
  have hnm := (name_of_methodNamed Bd.named Bd.method).1
  have X0 : Stand p l e ({ frames := 0, cells := 0, slots := 0, locals := 0 } : Room) s m #[(.int va)] below meth c s₁ [] 0 0 := Stand.of_body Bd
  have e0 : s₁.heap = h0 := by rw [← hh, Bd.state]; rfl
  have N0 := Fr.nil n0
  show own_Fin p e below s (own_Q_fm1 Z va oUPPER_ROW h0 n0) ({ frames := 0, cells := 0, slots := 0, locals := 0 } : Room).cells ({ frames := 0, cells := 0, slots := 0, locals := 0 } : Room).slots (s₁.setTop (entryFrame m #[(.int va)] 1))
  refine own_Fin.go (fun t k => castTop (own_ef_fm1 m va) k) ?_
  refine own_Fin.go (fun t k => XS.iloadN X0.here hx rfl (hb hby own_dfm1_0) rfl k) ?_
  show own_Fin _ _ _ _ _ _ _ (s₁.setTop (mkF m 1 #[.val (.int va)] [(.int va)]))
  have hc1 : ¬ (va = (0 : Int32)) := hk0
  refine own_Fin.go (fun t k => XS.ifYes X0.here hx rfl (pc0 := 1) (pc' := 8) rfl (hb hby own_dfm1_1) rfl (Jvm.Free.XT.i0_ne_t hc1) (by decide) (by decide) k) ?_
  show own_Fin _ _ _ _ _ _ _ (s₁.setTop (mkF m 8 #[.val (.int va)] []))
  refine own_Fin.go (fun t k => XS.iloadN X0.here hx rfl (hb hby own_dfm1_8) rfl k) ?_
  show own_Fin _ _ _ _ _ _ _ (s₁.setTop (mkF m 9 #[.val (.int va)] [(.int va)]))
  refine own_Fin.go (fun t k => XS.iconst X0.here hx rfl (hb hby own_dfm1_9) k) ?_
  show own_Fin _ _ _ _ _ _ _ (s₁.setTop (mkF m 10 #[.val (.int va)] [(.int (1 : Int32)), (.int va)]))
  have hc10 : va = (1 : Int32) := hk1
  refine own_Fin.go (fun t k => XS.icmpNo X0.here hx rfl (hb hby own_dfm1_10) rfl (Jvm.Free.XT.ii_ne_f hc10) k) ?_
  show own_Fin _ _ _ _ _ _ _ (s₁.setTop (mkF m 13 #[.val (.int va)] []))
  obtain ⟨T1, X1, e1, st1⟩ := getS2 X0 hx hZ hown (host := "") (Or.inl (hw _ (List.mem_of_getElem? (i := 18) rfl))) Via.refl e0 S_UPPER_ROW (g := (mkF m 13 #[.val (.int va)] [])) rfl (hb hby own_dfm1_13)
  refine own_Fin.go st1 ?_
  show own_Fin _ _ _ _ _ _ _ (T1.setTop (mkF m 16 #[.val (.int va)] [(.ref oUPPER_ROW)]))
  refine own_retA X1 hx Bd.returns rfl (hb hby own_dfm1_16) Bd.notSynchronized (by decide) (by decide) ?_
  rw [e1]
  exact ⟨rfl, N0, rfl⟩
theorem own_dfm2_0 : decode method_2_code 0 = .ok (.iload_n 0, 1) := by decide +kernel
theorem own_dfm2_1 : decode method_2_code 1 = .ok (.ifCond .ne 7, 3) := by decide +kernel
theorem own_dfm2_8 : decode method_2_code 8 = .ok (.iload_n 0, 1) := by decide +kernel
theorem own_dfm2_9 : decode method_2_code 9 = .ok (.iconst 1, 1) := by decide +kernel
theorem own_dfm2_10 : decode method_2_code 10 = .ok (.if_icmp .ne 7, 3) := by decide +kernel
theorem own_dfm2_17 : decode method_2_code 17 = .ok (.iload_n 0, 1) := by decide +kernel
theorem own_dfm2_18 : decode method_2_code 18 = .ok (.iconst 2, 1) := by decide +kernel
theorem own_dfm2_19 : decode method_2_code 19 = .ok (.if_icmp .ne 7, 3) := by decide +kernel
theorem own_dfm2_22 : decode method_2_code 22 = .ok (.getstatic 16, 3) := by decide +kernel
theorem own_dfm2_25 : decode method_2_code 25 = .ok (.areturn, 1) := by decide +kernel
theorem own_ef_fm2 (m : MethodId) (va : Int32) : entryFrame m #[(.int va)] 1 = mkF m 0 #[.val (.int va)] [] := by first | (simp [entryFrame, mkF, argsToLocals, Value.category]; done) | rfl
def own_Q_fm2 (Z : State) (va : Int32) (oLOWER_ROW : Addr) (h0 : Heap) (n0 : Nat) (v : Option Value) (h : Heap) (L : List Loc) : Prop := v = some (.ref oLOWER_ROW) ∧ Fr n0 L ∧ h = h0
set_option maxRecDepth 65536 in
set_option maxHeartbeats 40000000 in
theorem own_rm_fm2 (l : Launch) (Z : State) (a0 : Array Value) (hw : ∀ d ∈ tables_1, d.before a0 Z = true) (ws : List Jvm.Cond) (va : Int32) (oLOWER_ROW : Addr) (h0 : Heap) (n0 : Nat) (Z0 : n0 ≤ h0.size) (S_LOWER_ROW : Sta Z h0 "com/example/parlay/parlay/problems/tsp/MatrixFormat" "LOWER_ROW" "Lcom/example/parlay/parlay/problems/tsp/MatrixFormat;" (.ref oLOWER_ROW)) (hk0 : ¬ va = (0 : Int32)) (hk1 : ¬ va = (1 : Int32)) (hk2 : va = (2 : Int32)) :
    MetFree l (⟨"com/example/parlay/parlay/problems/tsp/MatrixFormatEndPinLaw", "format", "(I)Lcom/example/parlay/parlay/problems/tsp/MatrixFormat;"⟩ : MethodName) (head1 (Jvm.Cond.code (⟨"com/example/parlay/parlay/problems/tsp/MatrixFormatEndPinLaw", "format", "(I)Lcom/example/parlay/parlay/problems/tsp/MatrixFormat;"⟩ : MethodName) method_2_code 1 (some (.object "com/example/parlay/parlay/problems/tsp/MatrixFormat")) :: ws) ({ frames := 0, cells := 0, slots := 0, locals := 0 } : Room)) (fun a U => a = #[(.int va)] ∧ Z.Warmed39 U.vm ∧ U.heap = h0) (fun _ _ _ _ _ => True) (fun _ U o U' => ∃ v L, o = .returned v ∧ own_Q_fm2 Z va oLOWER_ROW h0 n0 v U'.heap L ∧ FrameEnd U o U' L ({ frames := 0, cells := 0, slots := 0, locals := 0 } : Room).cells ({ frames := 0, cells := 0, slots := 0, locals := 0 } : Room).slots) := by
  refine MetFree.of_bodySF (plainFor_of_name own_pn0) hisR ?_
  intro p e s m args below meth c s₁ Bd hml0 hP hK
  obtain ⟨rfl, hZ, hh⟩ := hP
  have hx := Bd.exec
  have hby := Bd.bytes
  have hml : c.maxLocals = 1 := hml0
  have hown : s.vm.findClass "com/example/parlay/parlay/problems/tsp/MatrixFormatEndPinLaw" = some m.cls := findClass_of_methodNamed Bd.named
  have hnm := (name_of_methodNamed Bd.named Bd.method).1
  have X0 : Stand p l e ({ frames := 0, cells := 0, slots := 0, locals := 0 } : Room) s m #[(.int va)] below meth c s₁ [] 0 0 := Stand.of_body Bd
  have e0 : s₁.heap = h0 := by rw [← hh, Bd.state]; rfl
  have N0 := Fr.nil n0
  show own_Fin p e below s (own_Q_fm2 Z va oLOWER_ROW h0 n0) ({ frames := 0, cells := 0, slots := 0, locals := 0 } : Room).cells ({ frames := 0, cells := 0, slots := 0, locals := 0 } : Room).slots (s₁.setTop (entryFrame m #[(.int va)] 1))
  refine own_Fin.go (fun t k => castTop (own_ef_fm2 m va) k) ?_
  refine own_Fin.go (fun t k => XS.iloadN X0.here hx rfl (hb hby own_dfm2_0) rfl k) ?_
  show own_Fin _ _ _ _ _ _ _ (s₁.setTop (mkF m 1 #[.val (.int va)] [(.int va)]))
  have hc1 : ¬ (va = (0 : Int32)) := hk0
  refine own_Fin.go (fun t k => XS.ifYes X0.here hx rfl (pc0 := 1) (pc' := 8) rfl (hb hby own_dfm2_1) rfl (Jvm.Free.XT.i0_ne_t hc1) (by decide) (by decide) k) ?_
  show own_Fin _ _ _ _ _ _ _ (s₁.setTop (mkF m 8 #[.val (.int va)] []))
  refine own_Fin.go (fun t k => XS.iloadN X0.here hx rfl (hb hby own_dfm2_8) rfl k) ?_
  show own_Fin _ _ _ _ _ _ _ (s₁.setTop (mkF m 9 #[.val (.int va)] [(.int va)]))
  refine own_Fin.go (fun t k => XS.iconst X0.here hx rfl (hb hby own_dfm2_9) k) ?_
  show own_Fin _ _ _ _ _ _ _ (s₁.setTop (mkF m 10 #[.val (.int va)] [(.int (1 : Int32)), (.int va)]))
  have hc10 : ¬ (va = (1 : Int32)) := hk1
  refine own_Fin.go (fun t k => XS.icmpYes X0.here hx rfl (pc0 := 10) (pc' := 17) rfl (hb hby own_dfm2_10) rfl (Jvm.Free.XT.ii_ne_t hc10) (by decide) (by decide) k) ?_
  show own_Fin _ _ _ _ _ _ _ (s₁.setTop (mkF m 17 #[.val (.int va)] []))
  refine own_Fin.go (fun t k => XS.iloadN X0.here hx rfl (hb hby own_dfm2_17) rfl k) ?_
  show own_Fin _ _ _ _ _ _ _ (s₁.setTop (mkF m 18 #[.val (.int va)] [(.int va)]))
  refine own_Fin.go (fun t k => XS.iconst X0.here hx rfl (hb hby own_dfm2_18) k) ?_
  show own_Fin _ _ _ _ _ _ _ (s₁.setTop (mkF m 19 #[.val (.int va)] [(.int (2 : Int32)), (.int va)]))
  have hc19 : va = (2 : Int32) := hk2
  refine own_Fin.go (fun t k => XS.icmpNo X0.here hx rfl (hb hby own_dfm2_19) rfl (Jvm.Free.XT.ii_ne_f hc19) k) ?_
  show own_Fin _ _ _ _ _ _ _ (s₁.setTop (mkF m 22 #[.val (.int va)] []))
  obtain ⟨T1, X1, e1, st1⟩ := getS2 X0 hx hZ hown (host := "") (Or.inl (hw _ (List.mem_of_getElem? (i := 20) rfl))) Via.refl e0 S_LOWER_ROW (g := (mkF m 22 #[.val (.int va)] [])) rfl (hb hby own_dfm2_22)
  refine own_Fin.go st1 ?_
  show own_Fin _ _ _ _ _ _ _ (T1.setTop (mkF m 25 #[.val (.int va)] [(.ref oLOWER_ROW)]))
  refine own_retA X1 hx Bd.returns rfl (hb hby own_dfm2_25) Bd.notSynchronized (by decide) (by decide) ?_
  rw [e1]
  exact ⟨rfl, N0, rfl⟩
theorem own_dfm3_0 : decode method_2_code 0 = .ok (.iload_n 0, 1) := by decide +kernel
theorem own_dfm3_1 : decode method_2_code 1 = .ok (.ifCond .ne 7, 3) := by decide +kernel
theorem own_dfm3_8 : decode method_2_code 8 = .ok (.iload_n 0, 1) := by decide +kernel
theorem own_dfm3_9 : decode method_2_code 9 = .ok (.iconst 1, 1) := by decide +kernel
theorem own_dfm3_10 : decode method_2_code 10 = .ok (.if_icmp .ne 7, 3) := by decide +kernel
theorem own_dfm3_17 : decode method_2_code 17 = .ok (.iload_n 0, 1) := by decide +kernel
theorem own_dfm3_18 : decode method_2_code 18 = .ok (.iconst 2, 1) := by decide +kernel
theorem own_dfm3_19 : decode method_2_code 19 = .ok (.if_icmp .ne 7, 3) := by decide +kernel
theorem own_dfm3_26 : decode method_2_code 26 = .ok (.iload_n 0, 1) := by decide +kernel
theorem own_dfm3_27 : decode method_2_code 27 = .ok (.iconst 3, 1) := by decide +kernel
theorem own_dfm3_28 : decode method_2_code 28 = .ok (.if_icmp .ne 7, 3) := by decide +kernel
theorem own_dfm3_31 : decode method_2_code 31 = .ok (.getstatic 19, 3) := by decide +kernel
theorem own_dfm3_34 : decode method_2_code 34 = .ok (.areturn, 1) := by decide +kernel
theorem own_ef_fm3 (m : MethodId) (va : Int32) : entryFrame m #[(.int va)] 1 = mkF m 0 #[.val (.int va)] [] := by first | (simp [entryFrame, mkF, argsToLocals, Value.category]; done) | rfl
def own_Q_fm3 (Z : State) (va : Int32) (oUPPER_DIAG_ROW : Addr) (h0 : Heap) (n0 : Nat) (v : Option Value) (h : Heap) (L : List Loc) : Prop := v = some (.ref oUPPER_DIAG_ROW) ∧ Fr n0 L ∧ h = h0
set_option maxRecDepth 65536 in
set_option maxHeartbeats 40000000 in
theorem own_rm_fm3 (l : Launch) (Z : State) (a0 : Array Value) (hw : ∀ d ∈ tables_1, d.before a0 Z = true) (ws : List Jvm.Cond) (va : Int32) (oUPPER_DIAG_ROW : Addr) (h0 : Heap) (n0 : Nat) (Z0 : n0 ≤ h0.size) (S_UPPER_DIAG_ROW : Sta Z h0 "com/example/parlay/parlay/problems/tsp/MatrixFormat" "UPPER_DIAG_ROW" "Lcom/example/parlay/parlay/problems/tsp/MatrixFormat;" (.ref oUPPER_DIAG_ROW)) (hk0 : ¬ va = (0 : Int32)) (hk1 : ¬ va = (1 : Int32)) (hk2 : ¬ va = (2 : Int32)) (hk3 : va = (3 : Int32)) :
    MetFree l (⟨"com/example/parlay/parlay/problems/tsp/MatrixFormatEndPinLaw", "format", "(I)Lcom/example/parlay/parlay/problems/tsp/MatrixFormat;"⟩ : MethodName) (head1 (Jvm.Cond.code (⟨"com/example/parlay/parlay/problems/tsp/MatrixFormatEndPinLaw", "format", "(I)Lcom/example/parlay/parlay/problems/tsp/MatrixFormat;"⟩ : MethodName) method_2_code 1 (some (.object "com/example/parlay/parlay/problems/tsp/MatrixFormat")) :: ws) ({ frames := 0, cells := 0, slots := 0, locals := 0 } : Room)) (fun a U => a = #[(.int va)] ∧ Z.Warmed39 U.vm ∧ U.heap = h0) (fun _ _ _ _ _ => True) (fun _ U o U' => ∃ v L, o = .returned v ∧ own_Q_fm3 Z va oUPPER_DIAG_ROW h0 n0 v U'.heap L ∧ FrameEnd U o U' L ({ frames := 0, cells := 0, slots := 0, locals := 0 } : Room).cells ({ frames := 0, cells := 0, slots := 0, locals := 0 } : Room).slots) := by
  refine MetFree.of_bodySF (plainFor_of_name own_pn0) hisR ?_
  intro p e s m args below meth c s₁ Bd hml0 hP hK
  obtain ⟨rfl, hZ, hh⟩ := hP
  have hx := Bd.exec
  have hby := Bd.bytes
  have hml : c.maxLocals = 1 := hml0
  have hown : s.vm.findClass "com/example/parlay/parlay/problems/tsp/MatrixFormatEndPinLaw" = some m.cls := findClass_of_methodNamed Bd.named
  have hnm := (name_of_methodNamed Bd.named Bd.method).1
  have X0 : Stand p l e ({ frames := 0, cells := 0, slots := 0, locals := 0 } : Room) s m #[(.int va)] below meth c s₁ [] 0 0 := Stand.of_body Bd
  have e0 : s₁.heap = h0 := by rw [← hh, Bd.state]; rfl
  have N0 := Fr.nil n0
  show own_Fin p e below s (own_Q_fm3 Z va oUPPER_DIAG_ROW h0 n0) ({ frames := 0, cells := 0, slots := 0, locals := 0 } : Room).cells ({ frames := 0, cells := 0, slots := 0, locals := 0 } : Room).slots (s₁.setTop (entryFrame m #[(.int va)] 1))
  refine own_Fin.go (fun t k => castTop (own_ef_fm3 m va) k) ?_
  refine own_Fin.go (fun t k => XS.iloadN X0.here hx rfl (hb hby own_dfm3_0) rfl k) ?_
  show own_Fin _ _ _ _ _ _ _ (s₁.setTop (mkF m 1 #[.val (.int va)] [(.int va)]))
  have hc1 : ¬ (va = (0 : Int32)) := hk0
  refine own_Fin.go (fun t k => XS.ifYes X0.here hx rfl (pc0 := 1) (pc' := 8) rfl (hb hby own_dfm3_1) rfl (Jvm.Free.XT.i0_ne_t hc1) (by decide) (by decide) k) ?_
  show own_Fin _ _ _ _ _ _ _ (s₁.setTop (mkF m 8 #[.val (.int va)] []))
  refine own_Fin.go (fun t k => XS.iloadN X0.here hx rfl (hb hby own_dfm3_8) rfl k) ?_
  show own_Fin _ _ _ _ _ _ _ (s₁.setTop (mkF m 9 #[.val (.int va)] [(.int va)]))
  refine own_Fin.go (fun t k => XS.iconst X0.here hx rfl (hb hby own_dfm3_9) k) ?_
  show own_Fin _ _ _ _ _ _ _ (s₁.setTop (mkF m 10 #[.val (.int va)] [(.int (1 : Int32)), (.int va)]))
  have hc10 : ¬ (va = (1 : Int32)) := hk1
  refine own_Fin.go (fun t k => XS.icmpYes X0.here hx rfl (pc0 := 10) (pc' := 17) rfl (hb hby own_dfm3_10) rfl (Jvm.Free.XT.ii_ne_t hc10) (by decide) (by decide) k) ?_
  show own_Fin _ _ _ _ _ _ _ (s₁.setTop (mkF m 17 #[.val (.int va)] []))
  refine own_Fin.go (fun t k => XS.iloadN X0.here hx rfl (hb hby own_dfm3_17) rfl k) ?_
  show own_Fin _ _ _ _ _ _ _ (s₁.setTop (mkF m 18 #[.val (.int va)] [(.int va)]))
  refine own_Fin.go (fun t k => XS.iconst X0.here hx rfl (hb hby own_dfm3_18) k) ?_
  show own_Fin _ _ _ _ _ _ _ (s₁.setTop (mkF m 19 #[.val (.int va)] [(.int (2 : Int32)), (.int va)]))
  have hc19 : ¬ (va = (2 : Int32)) := hk2
  refine own_Fin.go (fun t k => XS.icmpYes X0.here hx rfl (pc0 := 19) (pc' := 26) rfl (hb hby own_dfm3_19) rfl (Jvm.Free.XT.ii_ne_t hc19) (by decide) (by decide) k) ?_
  show own_Fin _ _ _ _ _ _ _ (s₁.setTop (mkF m 26 #[.val (.int va)] []))
  refine own_Fin.go (fun t k => XS.iloadN X0.here hx rfl (hb hby own_dfm3_26) rfl k) ?_
  show own_Fin _ _ _ _ _ _ _ (s₁.setTop (mkF m 27 #[.val (.int va)] [(.int va)]))
  refine own_Fin.go (fun t k => XS.iconst X0.here hx rfl (hb hby own_dfm3_27) k) ?_
  show own_Fin _ _ _ _ _ _ _ (s₁.setTop (mkF m 28 #[.val (.int va)] [(.int (3 : Int32)), (.int va)]))
  have hc28 : va = (3 : Int32) := hk3
  refine own_Fin.go (fun t k => XS.icmpNo X0.here hx rfl (hb hby own_dfm3_28) rfl (Jvm.Free.XT.ii_ne_f hc28) k) ?_
  show own_Fin _ _ _ _ _ _ _ (s₁.setTop (mkF m 31 #[.val (.int va)] []))
  obtain ⟨T1, X1, e1, st1⟩ := getS2 X0 hx hZ hown (host := "") (Or.inl (hw _ (List.mem_of_getElem? (i := 30) rfl))) Via.refl e0 S_UPPER_DIAG_ROW (g := (mkF m 31 #[.val (.int va)] [])) rfl (hb hby own_dfm3_31)
  refine own_Fin.go st1 ?_
  show own_Fin _ _ _ _ _ _ _ (T1.setTop (mkF m 34 #[.val (.int va)] [(.ref oUPPER_DIAG_ROW)]))
  refine own_retA X1 hx Bd.returns rfl (hb hby own_dfm3_34) Bd.notSynchronized (by decide) (by decide) ?_
  rw [e1]
  exact ⟨rfl, N0, rfl⟩
theorem own_dfm4_0 : decode method_2_code 0 = .ok (.iload_n 0, 1) := by decide +kernel
theorem own_dfm4_1 : decode method_2_code 1 = .ok (.ifCond .ne 7, 3) := by decide +kernel
theorem own_dfm4_8 : decode method_2_code 8 = .ok (.iload_n 0, 1) := by decide +kernel
theorem own_dfm4_9 : decode method_2_code 9 = .ok (.iconst 1, 1) := by decide +kernel
theorem own_dfm4_10 : decode method_2_code 10 = .ok (.if_icmp .ne 7, 3) := by decide +kernel
theorem own_dfm4_17 : decode method_2_code 17 = .ok (.iload_n 0, 1) := by decide +kernel
theorem own_dfm4_18 : decode method_2_code 18 = .ok (.iconst 2, 1) := by decide +kernel
theorem own_dfm4_19 : decode method_2_code 19 = .ok (.if_icmp .ne 7, 3) := by decide +kernel
theorem own_dfm4_26 : decode method_2_code 26 = .ok (.iload_n 0, 1) := by decide +kernel
theorem own_dfm4_27 : decode method_2_code 27 = .ok (.iconst 3, 1) := by decide +kernel
theorem own_dfm4_28 : decode method_2_code 28 = .ok (.if_icmp .ne 7, 3) := by decide +kernel
theorem own_dfm4_35 : decode method_2_code 35 = .ok (.iload_n 0, 1) := by decide +kernel
theorem own_dfm4_36 : decode method_2_code 36 = .ok (.iconst 4, 1) := by decide +kernel
theorem own_dfm4_37 : decode method_2_code 37 = .ok (.if_icmp .ne 7, 3) := by decide +kernel
theorem own_dfm4_40 : decode method_2_code 40 = .ok (.getstatic 22, 3) := by decide +kernel
theorem own_dfm4_43 : decode method_2_code 43 = .ok (.areturn, 1) := by decide +kernel
theorem own_ef_fm4 (m : MethodId) (va : Int32) : entryFrame m #[(.int va)] 1 = mkF m 0 #[.val (.int va)] [] := by first | (simp [entryFrame, mkF, argsToLocals, Value.category]; done) | rfl
def own_Q_fm4 (Z : State) (va : Int32) (oLOWER_DIAG_ROW : Addr) (h0 : Heap) (n0 : Nat) (v : Option Value) (h : Heap) (L : List Loc) : Prop := v = some (.ref oLOWER_DIAG_ROW) ∧ Fr n0 L ∧ h = h0
set_option maxRecDepth 65536 in
set_option maxHeartbeats 40000000 in
theorem own_rm_fm4 (l : Launch) (Z : State) (a0 : Array Value) (hw : ∀ d ∈ tables_1, d.before a0 Z = true) (ws : List Jvm.Cond) (va : Int32) (oLOWER_DIAG_ROW : Addr) (h0 : Heap) (n0 : Nat) (Z0 : n0 ≤ h0.size) (S_LOWER_DIAG_ROW : Sta Z h0 "com/example/parlay/parlay/problems/tsp/MatrixFormat" "LOWER_DIAG_ROW" "Lcom/example/parlay/parlay/problems/tsp/MatrixFormat;" (.ref oLOWER_DIAG_ROW)) (hk0 : ¬ va = (0 : Int32)) (hk1 : ¬ va = (1 : Int32)) (hk2 : ¬ va = (2 : Int32)) (hk3 : ¬ va = (3 : Int32)) (hk4 : va = (4 : Int32)) :
    MetFree l (⟨"com/example/parlay/parlay/problems/tsp/MatrixFormatEndPinLaw", "format", "(I)Lcom/example/parlay/parlay/problems/tsp/MatrixFormat;"⟩ : MethodName) (head1 (Jvm.Cond.code (⟨"com/example/parlay/parlay/problems/tsp/MatrixFormatEndPinLaw", "format", "(I)Lcom/example/parlay/parlay/problems/tsp/MatrixFormat;"⟩ : MethodName) method_2_code 1 (some (.object "com/example/parlay/parlay/problems/tsp/MatrixFormat")) :: ws) ({ frames := 0, cells := 0, slots := 0, locals := 0 } : Room)) (fun a U => a = #[(.int va)] ∧ Z.Warmed39 U.vm ∧ U.heap = h0) (fun _ _ _ _ _ => True) (fun _ U o U' => ∃ v L, o = .returned v ∧ own_Q_fm4 Z va oLOWER_DIAG_ROW h0 n0 v U'.heap L ∧ FrameEnd U o U' L ({ frames := 0, cells := 0, slots := 0, locals := 0 } : Room).cells ({ frames := 0, cells := 0, slots := 0, locals := 0 } : Room).slots) := by
  refine MetFree.of_bodySF (plainFor_of_name own_pn0) hisR ?_
  intro p e s m args below meth c s₁ Bd hml0 hP hK
  obtain ⟨rfl, hZ, hh⟩ := hP
  have hx := Bd.exec
  have hby := Bd.bytes
  have hml : c.maxLocals = 1 := hml0
  have hown : s.vm.findClass "com/example/parlay/parlay/problems/tsp/MatrixFormatEndPinLaw" = some m.cls := findClass_of_methodNamed Bd.named
  have hnm := (name_of_methodNamed Bd.named Bd.method).1
  have X0 : Stand p l e ({ frames := 0, cells := 0, slots := 0, locals := 0 } : Room) s m #[(.int va)] below meth c s₁ [] 0 0 := Stand.of_body Bd
  have e0 : s₁.heap = h0 := by rw [← hh, Bd.state]; rfl
  have N0 := Fr.nil n0
  show own_Fin p e below s (own_Q_fm4 Z va oLOWER_DIAG_ROW h0 n0) ({ frames := 0, cells := 0, slots := 0, locals := 0 } : Room).cells ({ frames := 0, cells := 0, slots := 0, locals := 0 } : Room).slots (s₁.setTop (entryFrame m #[(.int va)] 1))
  refine own_Fin.go (fun t k => castTop (own_ef_fm4 m va) k) ?_
  refine own_Fin.go (fun t k => XS.iloadN X0.here hx rfl (hb hby own_dfm4_0) rfl k) ?_
  show own_Fin _ _ _ _ _ _ _ (s₁.setTop (mkF m 1 #[.val (.int va)] [(.int va)]))
  have hc1 : ¬ (va = (0 : Int32)) := hk0
  refine own_Fin.go (fun t k => XS.ifYes X0.here hx rfl (pc0 := 1) (pc' := 8) rfl (hb hby own_dfm4_1) rfl (Jvm.Free.XT.i0_ne_t hc1) (by decide) (by decide) k) ?_
  show own_Fin _ _ _ _ _ _ _ (s₁.setTop (mkF m 8 #[.val (.int va)] []))
  refine own_Fin.go (fun t k => XS.iloadN X0.here hx rfl (hb hby own_dfm4_8) rfl k) ?_
  show own_Fin _ _ _ _ _ _ _ (s₁.setTop (mkF m 9 #[.val (.int va)] [(.int va)]))
  refine own_Fin.go (fun t k => XS.iconst X0.here hx rfl (hb hby own_dfm4_9) k) ?_
  show own_Fin _ _ _ _ _ _ _ (s₁.setTop (mkF m 10 #[.val (.int va)] [(.int (1 : Int32)), (.int va)]))
  have hc10 : ¬ (va = (1 : Int32)) := hk1
  refine own_Fin.go (fun t k => XS.icmpYes X0.here hx rfl (pc0 := 10) (pc' := 17) rfl (hb hby own_dfm4_10) rfl (Jvm.Free.XT.ii_ne_t hc10) (by decide) (by decide) k) ?_
  show own_Fin _ _ _ _ _ _ _ (s₁.setTop (mkF m 17 #[.val (.int va)] []))
  refine own_Fin.go (fun t k => XS.iloadN X0.here hx rfl (hb hby own_dfm4_17) rfl k) ?_
  show own_Fin _ _ _ _ _ _ _ (s₁.setTop (mkF m 18 #[.val (.int va)] [(.int va)]))
  refine own_Fin.go (fun t k => XS.iconst X0.here hx rfl (hb hby own_dfm4_18) k) ?_
  show own_Fin _ _ _ _ _ _ _ (s₁.setTop (mkF m 19 #[.val (.int va)] [(.int (2 : Int32)), (.int va)]))
  have hc19 : ¬ (va = (2 : Int32)) := hk2
  refine own_Fin.go (fun t k => XS.icmpYes X0.here hx rfl (pc0 := 19) (pc' := 26) rfl (hb hby own_dfm4_19) rfl (Jvm.Free.XT.ii_ne_t hc19) (by decide) (by decide) k) ?_
  show own_Fin _ _ _ _ _ _ _ (s₁.setTop (mkF m 26 #[.val (.int va)] []))
  refine own_Fin.go (fun t k => XS.iloadN X0.here hx rfl (hb hby own_dfm4_26) rfl k) ?_
  show own_Fin _ _ _ _ _ _ _ (s₁.setTop (mkF m 27 #[.val (.int va)] [(.int va)]))
  refine own_Fin.go (fun t k => XS.iconst X0.here hx rfl (hb hby own_dfm4_27) k) ?_
  show own_Fin _ _ _ _ _ _ _ (s₁.setTop (mkF m 28 #[.val (.int va)] [(.int (3 : Int32)), (.int va)]))
  have hc28 : ¬ (va = (3 : Int32)) := hk3
  refine own_Fin.go (fun t k => XS.icmpYes X0.here hx rfl (pc0 := 28) (pc' := 35) rfl (hb hby own_dfm4_28) rfl (Jvm.Free.XT.ii_ne_t hc28) (by decide) (by decide) k) ?_
  show own_Fin _ _ _ _ _ _ _ (s₁.setTop (mkF m 35 #[.val (.int va)] []))
  refine own_Fin.go (fun t k => XS.iloadN X0.here hx rfl (hb hby own_dfm4_35) rfl k) ?_
  show own_Fin _ _ _ _ _ _ _ (s₁.setTop (mkF m 36 #[.val (.int va)] [(.int va)]))
  refine own_Fin.go (fun t k => XS.iconst X0.here hx rfl (hb hby own_dfm4_36) k) ?_
  show own_Fin _ _ _ _ _ _ _ (s₁.setTop (mkF m 37 #[.val (.int va)] [(.int (4 : Int32)), (.int va)]))
  have hc37 : va = (4 : Int32) := hk4
  refine own_Fin.go (fun t k => XS.icmpNo X0.here hx rfl (hb hby own_dfm4_37) rfl (Jvm.Free.XT.ii_ne_f hc37) k) ?_
  show own_Fin _ _ _ _ _ _ _ (s₁.setTop (mkF m 40 #[.val (.int va)] []))
  obtain ⟨T1, X1, e1, st1⟩ := getS2 X0 hx hZ hown (host := "") (Or.inl (hw _ (List.mem_of_getElem? (i := 32) rfl))) Via.refl e0 S_LOWER_DIAG_ROW (g := (mkF m 40 #[.val (.int va)] [])) rfl (hb hby own_dfm4_40)
  refine own_Fin.go st1 ?_
  show own_Fin _ _ _ _ _ _ _ (T1.setTop (mkF m 43 #[.val (.int va)] [(.ref oLOWER_DIAG_ROW)]))
  refine own_retA X1 hx Bd.returns rfl (hb hby own_dfm4_43) Bd.notSynchronized (by decide) (by decide) ?_
  rw [e1]
  exact ⟨rfl, N0, rfl⟩
theorem own_dfm5_0 : decode method_2_code 0 = .ok (.iload_n 0, 1) := by decide +kernel
theorem own_dfm5_1 : decode method_2_code 1 = .ok (.ifCond .ne 7, 3) := by decide +kernel
theorem own_dfm5_8 : decode method_2_code 8 = .ok (.iload_n 0, 1) := by decide +kernel
theorem own_dfm5_9 : decode method_2_code 9 = .ok (.iconst 1, 1) := by decide +kernel
theorem own_dfm5_10 : decode method_2_code 10 = .ok (.if_icmp .ne 7, 3) := by decide +kernel
theorem own_dfm5_17 : decode method_2_code 17 = .ok (.iload_n 0, 1) := by decide +kernel
theorem own_dfm5_18 : decode method_2_code 18 = .ok (.iconst 2, 1) := by decide +kernel
theorem own_dfm5_19 : decode method_2_code 19 = .ok (.if_icmp .ne 7, 3) := by decide +kernel
theorem own_dfm5_26 : decode method_2_code 26 = .ok (.iload_n 0, 1) := by decide +kernel
theorem own_dfm5_27 : decode method_2_code 27 = .ok (.iconst 3, 1) := by decide +kernel
theorem own_dfm5_28 : decode method_2_code 28 = .ok (.if_icmp .ne 7, 3) := by decide +kernel
theorem own_dfm5_35 : decode method_2_code 35 = .ok (.iload_n 0, 1) := by decide +kernel
theorem own_dfm5_36 : decode method_2_code 36 = .ok (.iconst 4, 1) := by decide +kernel
theorem own_dfm5_37 : decode method_2_code 37 = .ok (.if_icmp .ne 7, 3) := by decide +kernel
theorem own_dfm5_44 : decode method_2_code 44 = .ok (.iload_n 0, 1) := by decide +kernel
theorem own_dfm5_45 : decode method_2_code 45 = .ok (.iconst 5, 1) := by decide +kernel
theorem own_dfm5_46 : decode method_2_code 46 = .ok (.if_icmp .ne 7, 3) := by decide +kernel
theorem own_dfm5_49 : decode method_2_code 49 = .ok (.getstatic 25, 3) := by decide +kernel
theorem own_dfm5_52 : decode method_2_code 52 = .ok (.areturn, 1) := by decide +kernel
theorem own_ef_fm5 (m : MethodId) (va : Int32) : entryFrame m #[(.int va)] 1 = mkF m 0 #[.val (.int va)] [] := by first | (simp [entryFrame, mkF, argsToLocals, Value.category]; done) | rfl
def own_Q_fm5 (Z : State) (va : Int32) (oUPPER_COL : Addr) (h0 : Heap) (n0 : Nat) (v : Option Value) (h : Heap) (L : List Loc) : Prop := v = some (.ref oUPPER_COL) ∧ Fr n0 L ∧ h = h0
set_option maxRecDepth 65536 in
set_option maxHeartbeats 40000000 in
theorem own_rm_fm5 (l : Launch) (Z : State) (a0 : Array Value) (hw : ∀ d ∈ tables_1, d.before a0 Z = true) (ws : List Jvm.Cond) (va : Int32) (oUPPER_COL : Addr) (h0 : Heap) (n0 : Nat) (Z0 : n0 ≤ h0.size) (S_UPPER_COL : Sta Z h0 "com/example/parlay/parlay/problems/tsp/MatrixFormat" "UPPER_COL" "Lcom/example/parlay/parlay/problems/tsp/MatrixFormat;" (.ref oUPPER_COL)) (hk0 : ¬ va = (0 : Int32)) (hk1 : ¬ va = (1 : Int32)) (hk2 : ¬ va = (2 : Int32)) (hk3 : ¬ va = (3 : Int32)) (hk4 : ¬ va = (4 : Int32)) (hk5 : va = (5 : Int32)) :
    MetFree l (⟨"com/example/parlay/parlay/problems/tsp/MatrixFormatEndPinLaw", "format", "(I)Lcom/example/parlay/parlay/problems/tsp/MatrixFormat;"⟩ : MethodName) (head1 (Jvm.Cond.code (⟨"com/example/parlay/parlay/problems/tsp/MatrixFormatEndPinLaw", "format", "(I)Lcom/example/parlay/parlay/problems/tsp/MatrixFormat;"⟩ : MethodName) method_2_code 1 (some (.object "com/example/parlay/parlay/problems/tsp/MatrixFormat")) :: ws) ({ frames := 0, cells := 0, slots := 0, locals := 0 } : Room)) (fun a U => a = #[(.int va)] ∧ Z.Warmed39 U.vm ∧ U.heap = h0) (fun _ _ _ _ _ => True) (fun _ U o U' => ∃ v L, o = .returned v ∧ own_Q_fm5 Z va oUPPER_COL h0 n0 v U'.heap L ∧ FrameEnd U o U' L ({ frames := 0, cells := 0, slots := 0, locals := 0 } : Room).cells ({ frames := 0, cells := 0, slots := 0, locals := 0 } : Room).slots) := by
  refine MetFree.of_bodySF (plainFor_of_name own_pn0) hisR ?_
  intro p e s m args below meth c s₁ Bd hml0 hP hK
  obtain ⟨rfl, hZ, hh⟩ := hP
  have hx := Bd.exec
  have hby := Bd.bytes
  have hml : c.maxLocals = 1 := hml0
  have hown : s.vm.findClass "com/example/parlay/parlay/problems/tsp/MatrixFormatEndPinLaw" = some m.cls := findClass_of_methodNamed Bd.named
  have hnm := (name_of_methodNamed Bd.named Bd.method).1
  have X0 : Stand p l e ({ frames := 0, cells := 0, slots := 0, locals := 0 } : Room) s m #[(.int va)] below meth c s₁ [] 0 0 := Stand.of_body Bd
  have e0 : s₁.heap = h0 := by rw [← hh, Bd.state]; rfl
  have N0 := Fr.nil n0
  show own_Fin p e below s (own_Q_fm5 Z va oUPPER_COL h0 n0) ({ frames := 0, cells := 0, slots := 0, locals := 0 } : Room).cells ({ frames := 0, cells := 0, slots := 0, locals := 0 } : Room).slots (s₁.setTop (entryFrame m #[(.int va)] 1))
  refine own_Fin.go (fun t k => castTop (own_ef_fm5 m va) k) ?_
  refine own_Fin.go (fun t k => XS.iloadN X0.here hx rfl (hb hby own_dfm5_0) rfl k) ?_
  show own_Fin _ _ _ _ _ _ _ (s₁.setTop (mkF m 1 #[.val (.int va)] [(.int va)]))
  have hc1 : ¬ (va = (0 : Int32)) := hk0
  refine own_Fin.go (fun t k => XS.ifYes X0.here hx rfl (pc0 := 1) (pc' := 8) rfl (hb hby own_dfm5_1) rfl (Jvm.Free.XT.i0_ne_t hc1) (by decide) (by decide) k) ?_
  show own_Fin _ _ _ _ _ _ _ (s₁.setTop (mkF m 8 #[.val (.int va)] []))
  refine own_Fin.go (fun t k => XS.iloadN X0.here hx rfl (hb hby own_dfm5_8) rfl k) ?_
  show own_Fin _ _ _ _ _ _ _ (s₁.setTop (mkF m 9 #[.val (.int va)] [(.int va)]))
  refine own_Fin.go (fun t k => XS.iconst X0.here hx rfl (hb hby own_dfm5_9) k) ?_
  show own_Fin _ _ _ _ _ _ _ (s₁.setTop (mkF m 10 #[.val (.int va)] [(.int (1 : Int32)), (.int va)]))
  have hc10 : ¬ (va = (1 : Int32)) := hk1
  refine own_Fin.go (fun t k => XS.icmpYes X0.here hx rfl (pc0 := 10) (pc' := 17) rfl (hb hby own_dfm5_10) rfl (Jvm.Free.XT.ii_ne_t hc10) (by decide) (by decide) k) ?_
  show own_Fin _ _ _ _ _ _ _ (s₁.setTop (mkF m 17 #[.val (.int va)] []))
  refine own_Fin.go (fun t k => XS.iloadN X0.here hx rfl (hb hby own_dfm5_17) rfl k) ?_
  show own_Fin _ _ _ _ _ _ _ (s₁.setTop (mkF m 18 #[.val (.int va)] [(.int va)]))
  refine own_Fin.go (fun t k => XS.iconst X0.here hx rfl (hb hby own_dfm5_18) k) ?_
  show own_Fin _ _ _ _ _ _ _ (s₁.setTop (mkF m 19 #[.val (.int va)] [(.int (2 : Int32)), (.int va)]))
  have hc19 : ¬ (va = (2 : Int32)) := hk2
  refine own_Fin.go (fun t k => XS.icmpYes X0.here hx rfl (pc0 := 19) (pc' := 26) rfl (hb hby own_dfm5_19) rfl (Jvm.Free.XT.ii_ne_t hc19) (by decide) (by decide) k) ?_
  show own_Fin _ _ _ _ _ _ _ (s₁.setTop (mkF m 26 #[.val (.int va)] []))
  refine own_Fin.go (fun t k => XS.iloadN X0.here hx rfl (hb hby own_dfm5_26) rfl k) ?_
  show own_Fin _ _ _ _ _ _ _ (s₁.setTop (mkF m 27 #[.val (.int va)] [(.int va)]))
  refine own_Fin.go (fun t k => XS.iconst X0.here hx rfl (hb hby own_dfm5_27) k) ?_
  show own_Fin _ _ _ _ _ _ _ (s₁.setTop (mkF m 28 #[.val (.int va)] [(.int (3 : Int32)), (.int va)]))
  have hc28 : ¬ (va = (3 : Int32)) := hk3
  refine own_Fin.go (fun t k => XS.icmpYes X0.here hx rfl (pc0 := 28) (pc' := 35) rfl (hb hby own_dfm5_28) rfl (Jvm.Free.XT.ii_ne_t hc28) (by decide) (by decide) k) ?_
  show own_Fin _ _ _ _ _ _ _ (s₁.setTop (mkF m 35 #[.val (.int va)] []))
  refine own_Fin.go (fun t k => XS.iloadN X0.here hx rfl (hb hby own_dfm5_35) rfl k) ?_
  show own_Fin _ _ _ _ _ _ _ (s₁.setTop (mkF m 36 #[.val (.int va)] [(.int va)]))
  refine own_Fin.go (fun t k => XS.iconst X0.here hx rfl (hb hby own_dfm5_36) k) ?_
  show own_Fin _ _ _ _ _ _ _ (s₁.setTop (mkF m 37 #[.val (.int va)] [(.int (4 : Int32)), (.int va)]))
  have hc37 : ¬ (va = (4 : Int32)) := hk4
  refine own_Fin.go (fun t k => XS.icmpYes X0.here hx rfl (pc0 := 37) (pc' := 44) rfl (hb hby own_dfm5_37) rfl (Jvm.Free.XT.ii_ne_t hc37) (by decide) (by decide) k) ?_
  show own_Fin _ _ _ _ _ _ _ (s₁.setTop (mkF m 44 #[.val (.int va)] []))
  refine own_Fin.go (fun t k => XS.iloadN X0.here hx rfl (hb hby own_dfm5_44) rfl k) ?_
  show own_Fin _ _ _ _ _ _ _ (s₁.setTop (mkF m 45 #[.val (.int va)] [(.int va)]))
  refine own_Fin.go (fun t k => XS.iconst X0.here hx rfl (hb hby own_dfm5_45) k) ?_
  show own_Fin _ _ _ _ _ _ _ (s₁.setTop (mkF m 46 #[.val (.int va)] [(.int (5 : Int32)), (.int va)]))
  have hc46 : va = (5 : Int32) := hk5
  refine own_Fin.go (fun t k => XS.icmpNo X0.here hx rfl (hb hby own_dfm5_46) rfl (Jvm.Free.XT.ii_ne_f hc46) k) ?_
  show own_Fin _ _ _ _ _ _ _ (s₁.setTop (mkF m 49 #[.val (.int va)] []))
  obtain ⟨T1, X1, e1, st1⟩ := getS2 X0 hx hZ hown (host := "") (Or.inl (hw _ (List.mem_of_getElem? (i := 34) rfl))) Via.refl e0 S_UPPER_COL (g := (mkF m 49 #[.val (.int va)] [])) rfl (hb hby own_dfm5_49)
  refine own_Fin.go st1 ?_
  show own_Fin _ _ _ _ _ _ _ (T1.setTop (mkF m 52 #[.val (.int va)] [(.ref oUPPER_COL)]))
  refine own_retA X1 hx Bd.returns rfl (hb hby own_dfm5_52) Bd.notSynchronized (by decide) (by decide) ?_
  rw [e1]
  exact ⟨rfl, N0, rfl⟩
theorem own_dfm6_0 : decode method_2_code 0 = .ok (.iload_n 0, 1) := by decide +kernel
theorem own_dfm6_1 : decode method_2_code 1 = .ok (.ifCond .ne 7, 3) := by decide +kernel
theorem own_dfm6_8 : decode method_2_code 8 = .ok (.iload_n 0, 1) := by decide +kernel
theorem own_dfm6_9 : decode method_2_code 9 = .ok (.iconst 1, 1) := by decide +kernel
theorem own_dfm6_10 : decode method_2_code 10 = .ok (.if_icmp .ne 7, 3) := by decide +kernel
theorem own_dfm6_17 : decode method_2_code 17 = .ok (.iload_n 0, 1) := by decide +kernel
theorem own_dfm6_18 : decode method_2_code 18 = .ok (.iconst 2, 1) := by decide +kernel
theorem own_dfm6_19 : decode method_2_code 19 = .ok (.if_icmp .ne 7, 3) := by decide +kernel
theorem own_dfm6_26 : decode method_2_code 26 = .ok (.iload_n 0, 1) := by decide +kernel
theorem own_dfm6_27 : decode method_2_code 27 = .ok (.iconst 3, 1) := by decide +kernel
theorem own_dfm6_28 : decode method_2_code 28 = .ok (.if_icmp .ne 7, 3) := by decide +kernel
theorem own_dfm6_35 : decode method_2_code 35 = .ok (.iload_n 0, 1) := by decide +kernel
theorem own_dfm6_36 : decode method_2_code 36 = .ok (.iconst 4, 1) := by decide +kernel
theorem own_dfm6_37 : decode method_2_code 37 = .ok (.if_icmp .ne 7, 3) := by decide +kernel
theorem own_dfm6_44 : decode method_2_code 44 = .ok (.iload_n 0, 1) := by decide +kernel
theorem own_dfm6_45 : decode method_2_code 45 = .ok (.iconst 5, 1) := by decide +kernel
theorem own_dfm6_46 : decode method_2_code 46 = .ok (.if_icmp .ne 7, 3) := by decide +kernel
theorem own_dfm6_53 : decode method_2_code 53 = .ok (.iload_n 0, 1) := by decide +kernel
theorem own_dfm6_54 : decode method_2_code 54 = .ok (.bipush 6, 2) := by decide +kernel
theorem own_dfm6_56 : decode method_2_code 56 = .ok (.if_icmp .ne 7, 3) := by decide +kernel
theorem own_dfm6_59 : decode method_2_code 59 = .ok (.getstatic 28, 3) := by decide +kernel
theorem own_dfm6_62 : decode method_2_code 62 = .ok (.areturn, 1) := by decide +kernel
theorem own_ef_fm6 (m : MethodId) (va : Int32) : entryFrame m #[(.int va)] 1 = mkF m 0 #[.val (.int va)] [] := by first | (simp [entryFrame, mkF, argsToLocals, Value.category]; done) | rfl
def own_Q_fm6 (Z : State) (va : Int32) (oLOWER_COL : Addr) (h0 : Heap) (n0 : Nat) (v : Option Value) (h : Heap) (L : List Loc) : Prop := v = some (.ref oLOWER_COL) ∧ Fr n0 L ∧ h = h0
set_option maxRecDepth 65536 in
set_option maxHeartbeats 40000000 in
theorem own_rm_fm6 (l : Launch) (Z : State) (a0 : Array Value) (hw : ∀ d ∈ tables_1, d.before a0 Z = true) (ws : List Jvm.Cond) (va : Int32) (oLOWER_COL : Addr) (h0 : Heap) (n0 : Nat) (Z0 : n0 ≤ h0.size) (S_LOWER_COL : Sta Z h0 "com/example/parlay/parlay/problems/tsp/MatrixFormat" "LOWER_COL" "Lcom/example/parlay/parlay/problems/tsp/MatrixFormat;" (.ref oLOWER_COL)) (hk0 : ¬ va = (0 : Int32)) (hk1 : ¬ va = (1 : Int32)) (hk2 : ¬ va = (2 : Int32)) (hk3 : ¬ va = (3 : Int32)) (hk4 : ¬ va = (4 : Int32)) (hk5 : ¬ va = (5 : Int32)) (hk6 : va = (6 : Int32)) :
    MetFree l (⟨"com/example/parlay/parlay/problems/tsp/MatrixFormatEndPinLaw", "format", "(I)Lcom/example/parlay/parlay/problems/tsp/MatrixFormat;"⟩ : MethodName) (head1 (Jvm.Cond.code (⟨"com/example/parlay/parlay/problems/tsp/MatrixFormatEndPinLaw", "format", "(I)Lcom/example/parlay/parlay/problems/tsp/MatrixFormat;"⟩ : MethodName) method_2_code 1 (some (.object "com/example/parlay/parlay/problems/tsp/MatrixFormat")) :: ws) ({ frames := 0, cells := 0, slots := 0, locals := 0 } : Room)) (fun a U => a = #[(.int va)] ∧ Z.Warmed39 U.vm ∧ U.heap = h0) (fun _ _ _ _ _ => True) (fun _ U o U' => ∃ v L, o = .returned v ∧ own_Q_fm6 Z va oLOWER_COL h0 n0 v U'.heap L ∧ FrameEnd U o U' L ({ frames := 0, cells := 0, slots := 0, locals := 0 } : Room).cells ({ frames := 0, cells := 0, slots := 0, locals := 0 } : Room).slots) := by
  refine MetFree.of_bodySF (plainFor_of_name own_pn0) hisR ?_
  intro p e s m args below meth c s₁ Bd hml0 hP hK
  obtain ⟨rfl, hZ, hh⟩ := hP
  have hx := Bd.exec
  have hby := Bd.bytes
  have hml : c.maxLocals = 1 := hml0
  have hown : s.vm.findClass "com/example/parlay/parlay/problems/tsp/MatrixFormatEndPinLaw" = some m.cls := findClass_of_methodNamed Bd.named
  have hnm := (name_of_methodNamed Bd.named Bd.method).1
  have X0 : Stand p l e ({ frames := 0, cells := 0, slots := 0, locals := 0 } : Room) s m #[(.int va)] below meth c s₁ [] 0 0 := Stand.of_body Bd
  have e0 : s₁.heap = h0 := by rw [← hh, Bd.state]; rfl
  have N0 := Fr.nil n0
  show own_Fin p e below s (own_Q_fm6 Z va oLOWER_COL h0 n0) ({ frames := 0, cells := 0, slots := 0, locals := 0 } : Room).cells ({ frames := 0, cells := 0, slots := 0, locals := 0 } : Room).slots (s₁.setTop (entryFrame m #[(.int va)] 1))
  refine own_Fin.go (fun t k => castTop (own_ef_fm6 m va) k) ?_
  refine own_Fin.go (fun t k => XS.iloadN X0.here hx rfl (hb hby own_dfm6_0) rfl k) ?_
  show own_Fin _ _ _ _ _ _ _ (s₁.setTop (mkF m 1 #[.val (.int va)] [(.int va)]))
  have hc1 : ¬ (va = (0 : Int32)) := hk0
  refine own_Fin.go (fun t k => XS.ifYes X0.here hx rfl (pc0 := 1) (pc' := 8) rfl (hb hby own_dfm6_1) rfl (Jvm.Free.XT.i0_ne_t hc1) (by decide) (by decide) k) ?_
  show own_Fin _ _ _ _ _ _ _ (s₁.setTop (mkF m 8 #[.val (.int va)] []))
  refine own_Fin.go (fun t k => XS.iloadN X0.here hx rfl (hb hby own_dfm6_8) rfl k) ?_
  show own_Fin _ _ _ _ _ _ _ (s₁.setTop (mkF m 9 #[.val (.int va)] [(.int va)]))
  refine own_Fin.go (fun t k => XS.iconst X0.here hx rfl (hb hby own_dfm6_9) k) ?_
  show own_Fin _ _ _ _ _ _ _ (s₁.setTop (mkF m 10 #[.val (.int va)] [(.int (1 : Int32)), (.int va)]))
  have hc10 : ¬ (va = (1 : Int32)) := hk1
  refine own_Fin.go (fun t k => XS.icmpYes X0.here hx rfl (pc0 := 10) (pc' := 17) rfl (hb hby own_dfm6_10) rfl (Jvm.Free.XT.ii_ne_t hc10) (by decide) (by decide) k) ?_
  show own_Fin _ _ _ _ _ _ _ (s₁.setTop (mkF m 17 #[.val (.int va)] []))
  refine own_Fin.go (fun t k => XS.iloadN X0.here hx rfl (hb hby own_dfm6_17) rfl k) ?_
  show own_Fin _ _ _ _ _ _ _ (s₁.setTop (mkF m 18 #[.val (.int va)] [(.int va)]))
  refine own_Fin.go (fun t k => XS.iconst X0.here hx rfl (hb hby own_dfm6_18) k) ?_
  show own_Fin _ _ _ _ _ _ _ (s₁.setTop (mkF m 19 #[.val (.int va)] [(.int (2 : Int32)), (.int va)]))
  have hc19 : ¬ (va = (2 : Int32)) := hk2
  refine own_Fin.go (fun t k => XS.icmpYes X0.here hx rfl (pc0 := 19) (pc' := 26) rfl (hb hby own_dfm6_19) rfl (Jvm.Free.XT.ii_ne_t hc19) (by decide) (by decide) k) ?_
  show own_Fin _ _ _ _ _ _ _ (s₁.setTop (mkF m 26 #[.val (.int va)] []))
  refine own_Fin.go (fun t k => XS.iloadN X0.here hx rfl (hb hby own_dfm6_26) rfl k) ?_
  show own_Fin _ _ _ _ _ _ _ (s₁.setTop (mkF m 27 #[.val (.int va)] [(.int va)]))
  refine own_Fin.go (fun t k => XS.iconst X0.here hx rfl (hb hby own_dfm6_27) k) ?_
  show own_Fin _ _ _ _ _ _ _ (s₁.setTop (mkF m 28 #[.val (.int va)] [(.int (3 : Int32)), (.int va)]))
  have hc28 : ¬ (va = (3 : Int32)) := hk3
  refine own_Fin.go (fun t k => XS.icmpYes X0.here hx rfl (pc0 := 28) (pc' := 35) rfl (hb hby own_dfm6_28) rfl (Jvm.Free.XT.ii_ne_t hc28) (by decide) (by decide) k) ?_
  show own_Fin _ _ _ _ _ _ _ (s₁.setTop (mkF m 35 #[.val (.int va)] []))
  refine own_Fin.go (fun t k => XS.iloadN X0.here hx rfl (hb hby own_dfm6_35) rfl k) ?_
  show own_Fin _ _ _ _ _ _ _ (s₁.setTop (mkF m 36 #[.val (.int va)] [(.int va)]))
  refine own_Fin.go (fun t k => XS.iconst X0.here hx rfl (hb hby own_dfm6_36) k) ?_
  show own_Fin _ _ _ _ _ _ _ (s₁.setTop (mkF m 37 #[.val (.int va)] [(.int (4 : Int32)), (.int va)]))
  have hc37 : ¬ (va = (4 : Int32)) := hk4
  refine own_Fin.go (fun t k => XS.icmpYes X0.here hx rfl (pc0 := 37) (pc' := 44) rfl (hb hby own_dfm6_37) rfl (Jvm.Free.XT.ii_ne_t hc37) (by decide) (by decide) k) ?_
  show own_Fin _ _ _ _ _ _ _ (s₁.setTop (mkF m 44 #[.val (.int va)] []))
  refine own_Fin.go (fun t k => XS.iloadN X0.here hx rfl (hb hby own_dfm6_44) rfl k) ?_
  show own_Fin _ _ _ _ _ _ _ (s₁.setTop (mkF m 45 #[.val (.int va)] [(.int va)]))
  refine own_Fin.go (fun t k => XS.iconst X0.here hx rfl (hb hby own_dfm6_45) k) ?_
  show own_Fin _ _ _ _ _ _ _ (s₁.setTop (mkF m 46 #[.val (.int va)] [(.int (5 : Int32)), (.int va)]))
  have hc46 : ¬ (va = (5 : Int32)) := hk5
  refine own_Fin.go (fun t k => XS.icmpYes X0.here hx rfl (pc0 := 46) (pc' := 53) rfl (hb hby own_dfm6_46) rfl (Jvm.Free.XT.ii_ne_t hc46) (by decide) (by decide) k) ?_
  show own_Fin _ _ _ _ _ _ _ (s₁.setTop (mkF m 53 #[.val (.int va)] []))
  refine own_Fin.go (fun t k => XS.iloadN X0.here hx rfl (hb hby own_dfm6_53) rfl k) ?_
  show own_Fin _ _ _ _ _ _ _ (s₁.setTop (mkF m 54 #[.val (.int va)] [(.int va)]))
  refine own_Fin.go (fun t k => XS.bipush X0.here hx rfl (hb hby own_dfm6_54) k) ?_
  show own_Fin _ _ _ _ _ _ _ (s₁.setTop (mkF m 56 #[.val (.int va)] [(.int (6 : Int32)), (.int va)]))
  have hc56 : va = (6 : Int32) := hk6
  refine own_Fin.go (fun t k => XS.icmpNo X0.here hx rfl (hb hby own_dfm6_56) rfl (Jvm.Free.XT.ii_ne_f hc56) k) ?_
  show own_Fin _ _ _ _ _ _ _ (s₁.setTop (mkF m 59 #[.val (.int va)] []))
  obtain ⟨T1, X1, e1, st1⟩ := getS2 X0 hx hZ hown (host := "") (Or.inl (hw _ (List.mem_of_getElem? (i := 26) rfl))) Via.refl e0 S_LOWER_COL (g := (mkF m 59 #[.val (.int va)] [])) rfl (hb hby own_dfm6_59)
  refine own_Fin.go st1 ?_
  show own_Fin _ _ _ _ _ _ _ (T1.setTop (mkF m 62 #[.val (.int va)] [(.ref oLOWER_COL)]))
  refine own_retA X1 hx Bd.returns rfl (hb hby own_dfm6_62) Bd.notSynchronized (by decide) (by decide) ?_
  rw [e1]
  exact ⟨rfl, N0, rfl⟩
theorem own_dfm7_0 : decode method_2_code 0 = .ok (.iload_n 0, 1) := by decide +kernel
theorem own_dfm7_1 : decode method_2_code 1 = .ok (.ifCond .ne 7, 3) := by decide +kernel
theorem own_dfm7_8 : decode method_2_code 8 = .ok (.iload_n 0, 1) := by decide +kernel
theorem own_dfm7_9 : decode method_2_code 9 = .ok (.iconst 1, 1) := by decide +kernel
theorem own_dfm7_10 : decode method_2_code 10 = .ok (.if_icmp .ne 7, 3) := by decide +kernel
theorem own_dfm7_17 : decode method_2_code 17 = .ok (.iload_n 0, 1) := by decide +kernel
theorem own_dfm7_18 : decode method_2_code 18 = .ok (.iconst 2, 1) := by decide +kernel
theorem own_dfm7_19 : decode method_2_code 19 = .ok (.if_icmp .ne 7, 3) := by decide +kernel
theorem own_dfm7_26 : decode method_2_code 26 = .ok (.iload_n 0, 1) := by decide +kernel
theorem own_dfm7_27 : decode method_2_code 27 = .ok (.iconst 3, 1) := by decide +kernel
theorem own_dfm7_28 : decode method_2_code 28 = .ok (.if_icmp .ne 7, 3) := by decide +kernel
theorem own_dfm7_35 : decode method_2_code 35 = .ok (.iload_n 0, 1) := by decide +kernel
theorem own_dfm7_36 : decode method_2_code 36 = .ok (.iconst 4, 1) := by decide +kernel
theorem own_dfm7_37 : decode method_2_code 37 = .ok (.if_icmp .ne 7, 3) := by decide +kernel
theorem own_dfm7_44 : decode method_2_code 44 = .ok (.iload_n 0, 1) := by decide +kernel
theorem own_dfm7_45 : decode method_2_code 45 = .ok (.iconst 5, 1) := by decide +kernel
theorem own_dfm7_46 : decode method_2_code 46 = .ok (.if_icmp .ne 7, 3) := by decide +kernel
theorem own_dfm7_53 : decode method_2_code 53 = .ok (.iload_n 0, 1) := by decide +kernel
theorem own_dfm7_54 : decode method_2_code 54 = .ok (.bipush 6, 2) := by decide +kernel
theorem own_dfm7_56 : decode method_2_code 56 = .ok (.if_icmp .ne 7, 3) := by decide +kernel
theorem own_dfm7_63 : decode method_2_code 63 = .ok (.iload_n 0, 1) := by decide +kernel
theorem own_dfm7_64 : decode method_2_code 64 = .ok (.bipush 7, 2) := by decide +kernel
theorem own_dfm7_66 : decode method_2_code 66 = .ok (.if_icmp .ne 7, 3) := by decide +kernel
theorem own_dfm7_69 : decode method_2_code 69 = .ok (.getstatic 31, 3) := by decide +kernel
theorem own_dfm7_72 : decode method_2_code 72 = .ok (.areturn, 1) := by decide +kernel
theorem own_ef_fm7 (m : MethodId) (va : Int32) : entryFrame m #[(.int va)] 1 = mkF m 0 #[.val (.int va)] [] := by first | (simp [entryFrame, mkF, argsToLocals, Value.category]; done) | rfl
def own_Q_fm7 (Z : State) (va : Int32) (oUPPER_DIAG_COL : Addr) (h0 : Heap) (n0 : Nat) (v : Option Value) (h : Heap) (L : List Loc) : Prop := v = some (.ref oUPPER_DIAG_COL) ∧ Fr n0 L ∧ h = h0
set_option maxRecDepth 65536 in
set_option maxHeartbeats 40000000 in
theorem own_rm_fm7 (l : Launch) (Z : State) (a0 : Array Value) (hw : ∀ d ∈ tables_1, d.before a0 Z = true) (ws : List Jvm.Cond) (va : Int32) (oUPPER_DIAG_COL : Addr) (h0 : Heap) (n0 : Nat) (Z0 : n0 ≤ h0.size) (S_UPPER_DIAG_COL : Sta Z h0 "com/example/parlay/parlay/problems/tsp/MatrixFormat" "UPPER_DIAG_COL" "Lcom/example/parlay/parlay/problems/tsp/MatrixFormat;" (.ref oUPPER_DIAG_COL)) (hk0 : ¬ va = (0 : Int32)) (hk1 : ¬ va = (1 : Int32)) (hk2 : ¬ va = (2 : Int32)) (hk3 : ¬ va = (3 : Int32)) (hk4 : ¬ va = (4 : Int32)) (hk5 : ¬ va = (5 : Int32)) (hk6 : ¬ va = (6 : Int32)) (hk7 : va = (7 : Int32)) :
    MetFree l (⟨"com/example/parlay/parlay/problems/tsp/MatrixFormatEndPinLaw", "format", "(I)Lcom/example/parlay/parlay/problems/tsp/MatrixFormat;"⟩ : MethodName) (head1 (Jvm.Cond.code (⟨"com/example/parlay/parlay/problems/tsp/MatrixFormatEndPinLaw", "format", "(I)Lcom/example/parlay/parlay/problems/tsp/MatrixFormat;"⟩ : MethodName) method_2_code 1 (some (.object "com/example/parlay/parlay/problems/tsp/MatrixFormat")) :: ws) ({ frames := 0, cells := 0, slots := 0, locals := 0 } : Room)) (fun a U => a = #[(.int va)] ∧ Z.Warmed39 U.vm ∧ U.heap = h0) (fun _ _ _ _ _ => True) (fun _ U o U' => ∃ v L, o = .returned v ∧ own_Q_fm7 Z va oUPPER_DIAG_COL h0 n0 v U'.heap L ∧ FrameEnd U o U' L ({ frames := 0, cells := 0, slots := 0, locals := 0 } : Room).cells ({ frames := 0, cells := 0, slots := 0, locals := 0 } : Room).slots) := by
  refine MetFree.of_bodySF (plainFor_of_name own_pn0) hisR ?_
  intro p e s m args below meth c s₁ Bd hml0 hP hK
  obtain ⟨rfl, hZ, hh⟩ := hP
  have hx := Bd.exec
  have hby := Bd.bytes
  have hml : c.maxLocals = 1 := hml0
  have hown : s.vm.findClass "com/example/parlay/parlay/problems/tsp/MatrixFormatEndPinLaw" = some m.cls := findClass_of_methodNamed Bd.named
  have hnm := (name_of_methodNamed Bd.named Bd.method).1
  have X0 : Stand p l e ({ frames := 0, cells := 0, slots := 0, locals := 0 } : Room) s m #[(.int va)] below meth c s₁ [] 0 0 := Stand.of_body Bd
  have e0 : s₁.heap = h0 := by rw [← hh, Bd.state]; rfl
  have N0 := Fr.nil n0
  show own_Fin p e below s (own_Q_fm7 Z va oUPPER_DIAG_COL h0 n0) ({ frames := 0, cells := 0, slots := 0, locals := 0 } : Room).cells ({ frames := 0, cells := 0, slots := 0, locals := 0 } : Room).slots (s₁.setTop (entryFrame m #[(.int va)] 1))
  refine own_Fin.go (fun t k => castTop (own_ef_fm7 m va) k) ?_
  refine own_Fin.go (fun t k => XS.iloadN X0.here hx rfl (hb hby own_dfm7_0) rfl k) ?_
  show own_Fin _ _ _ _ _ _ _ (s₁.setTop (mkF m 1 #[.val (.int va)] [(.int va)]))
  have hc1 : ¬ (va = (0 : Int32)) := hk0
  refine own_Fin.go (fun t k => XS.ifYes X0.here hx rfl (pc0 := 1) (pc' := 8) rfl (hb hby own_dfm7_1) rfl (Jvm.Free.XT.i0_ne_t hc1) (by decide) (by decide) k) ?_
  show own_Fin _ _ _ _ _ _ _ (s₁.setTop (mkF m 8 #[.val (.int va)] []))
  refine own_Fin.go (fun t k => XS.iloadN X0.here hx rfl (hb hby own_dfm7_8) rfl k) ?_
  show own_Fin _ _ _ _ _ _ _ (s₁.setTop (mkF m 9 #[.val (.int va)] [(.int va)]))
  refine own_Fin.go (fun t k => XS.iconst X0.here hx rfl (hb hby own_dfm7_9) k) ?_
  show own_Fin _ _ _ _ _ _ _ (s₁.setTop (mkF m 10 #[.val (.int va)] [(.int (1 : Int32)), (.int va)]))
  have hc10 : ¬ (va = (1 : Int32)) := hk1
  refine own_Fin.go (fun t k => XS.icmpYes X0.here hx rfl (pc0 := 10) (pc' := 17) rfl (hb hby own_dfm7_10) rfl (Jvm.Free.XT.ii_ne_t hc10) (by decide) (by decide) k) ?_
  show own_Fin _ _ _ _ _ _ _ (s₁.setTop (mkF m 17 #[.val (.int va)] []))
  refine own_Fin.go (fun t k => XS.iloadN X0.here hx rfl (hb hby own_dfm7_17) rfl k) ?_
  show own_Fin _ _ _ _ _ _ _ (s₁.setTop (mkF m 18 #[.val (.int va)] [(.int va)]))
  refine own_Fin.go (fun t k => XS.iconst X0.here hx rfl (hb hby own_dfm7_18) k) ?_
  show own_Fin _ _ _ _ _ _ _ (s₁.setTop (mkF m 19 #[.val (.int va)] [(.int (2 : Int32)), (.int va)]))
  have hc19 : ¬ (va = (2 : Int32)) := hk2
  refine own_Fin.go (fun t k => XS.icmpYes X0.here hx rfl (pc0 := 19) (pc' := 26) rfl (hb hby own_dfm7_19) rfl (Jvm.Free.XT.ii_ne_t hc19) (by decide) (by decide) k) ?_
  show own_Fin _ _ _ _ _ _ _ (s₁.setTop (mkF m 26 #[.val (.int va)] []))
  refine own_Fin.go (fun t k => XS.iloadN X0.here hx rfl (hb hby own_dfm7_26) rfl k) ?_
  show own_Fin _ _ _ _ _ _ _ (s₁.setTop (mkF m 27 #[.val (.int va)] [(.int va)]))
  refine own_Fin.go (fun t k => XS.iconst X0.here hx rfl (hb hby own_dfm7_27) k) ?_
  show own_Fin _ _ _ _ _ _ _ (s₁.setTop (mkF m 28 #[.val (.int va)] [(.int (3 : Int32)), (.int va)]))
  have hc28 : ¬ (va = (3 : Int32)) := hk3
  refine own_Fin.go (fun t k => XS.icmpYes X0.here hx rfl (pc0 := 28) (pc' := 35) rfl (hb hby own_dfm7_28) rfl (Jvm.Free.XT.ii_ne_t hc28) (by decide) (by decide) k) ?_
  show own_Fin _ _ _ _ _ _ _ (s₁.setTop (mkF m 35 #[.val (.int va)] []))
  refine own_Fin.go (fun t k => XS.iloadN X0.here hx rfl (hb hby own_dfm7_35) rfl k) ?_
  show own_Fin _ _ _ _ _ _ _ (s₁.setTop (mkF m 36 #[.val (.int va)] [(.int va)]))
  refine own_Fin.go (fun t k => XS.iconst X0.here hx rfl (hb hby own_dfm7_36) k) ?_
  show own_Fin _ _ _ _ _ _ _ (s₁.setTop (mkF m 37 #[.val (.int va)] [(.int (4 : Int32)), (.int va)]))
  have hc37 : ¬ (va = (4 : Int32)) := hk4
  refine own_Fin.go (fun t k => XS.icmpYes X0.here hx rfl (pc0 := 37) (pc' := 44) rfl (hb hby own_dfm7_37) rfl (Jvm.Free.XT.ii_ne_t hc37) (by decide) (by decide) k) ?_
  show own_Fin _ _ _ _ _ _ _ (s₁.setTop (mkF m 44 #[.val (.int va)] []))
  refine own_Fin.go (fun t k => XS.iloadN X0.here hx rfl (hb hby own_dfm7_44) rfl k) ?_
  show own_Fin _ _ _ _ _ _ _ (s₁.setTop (mkF m 45 #[.val (.int va)] [(.int va)]))
  refine own_Fin.go (fun t k => XS.iconst X0.here hx rfl (hb hby own_dfm7_45) k) ?_
  show own_Fin _ _ _ _ _ _ _ (s₁.setTop (mkF m 46 #[.val (.int va)] [(.int (5 : Int32)), (.int va)]))
  have hc46 : ¬ (va = (5 : Int32)) := hk5
  refine own_Fin.go (fun t k => XS.icmpYes X0.here hx rfl (pc0 := 46) (pc' := 53) rfl (hb hby own_dfm7_46) rfl (Jvm.Free.XT.ii_ne_t hc46) (by decide) (by decide) k) ?_
  show own_Fin _ _ _ _ _ _ _ (s₁.setTop (mkF m 53 #[.val (.int va)] []))
  refine own_Fin.go (fun t k => XS.iloadN X0.here hx rfl (hb hby own_dfm7_53) rfl k) ?_
  show own_Fin _ _ _ _ _ _ _ (s₁.setTop (mkF m 54 #[.val (.int va)] [(.int va)]))
  refine own_Fin.go (fun t k => XS.bipush X0.here hx rfl (hb hby own_dfm7_54) k) ?_
  show own_Fin _ _ _ _ _ _ _ (s₁.setTop (mkF m 56 #[.val (.int va)] [(.int (6 : Int32)), (.int va)]))
  have hc56 : ¬ (va = (6 : Int32)) := hk6
  refine own_Fin.go (fun t k => XS.icmpYes X0.here hx rfl (pc0 := 56) (pc' := 63) rfl (hb hby own_dfm7_56) rfl (Jvm.Free.XT.ii_ne_t hc56) (by decide) (by decide) k) ?_
  show own_Fin _ _ _ _ _ _ _ (s₁.setTop (mkF m 63 #[.val (.int va)] []))
  refine own_Fin.go (fun t k => XS.iloadN X0.here hx rfl (hb hby own_dfm7_63) rfl k) ?_
  show own_Fin _ _ _ _ _ _ _ (s₁.setTop (mkF m 64 #[.val (.int va)] [(.int va)]))
  refine own_Fin.go (fun t k => XS.bipush X0.here hx rfl (hb hby own_dfm7_64) k) ?_
  show own_Fin _ _ _ _ _ _ _ (s₁.setTop (mkF m 66 #[.val (.int va)] [(.int (7 : Int32)), (.int va)]))
  have hc66 : va = (7 : Int32) := hk7
  refine own_Fin.go (fun t k => XS.icmpNo X0.here hx rfl (hb hby own_dfm7_66) rfl (Jvm.Free.XT.ii_ne_f hc66) k) ?_
  show own_Fin _ _ _ _ _ _ _ (s₁.setTop (mkF m 69 #[.val (.int va)] []))
  obtain ⟨T1, X1, e1, st1⟩ := getS2 X0 hx hZ hown (host := "") (Or.inl (hw _ (List.mem_of_getElem? (i := 28) rfl))) Via.refl e0 S_UPPER_DIAG_COL (g := (mkF m 69 #[.val (.int va)] [])) rfl (hb hby own_dfm7_69)
  refine own_Fin.go st1 ?_
  show own_Fin _ _ _ _ _ _ _ (T1.setTop (mkF m 72 #[.val (.int va)] [(.ref oUPPER_DIAG_COL)]))
  refine own_retA X1 hx Bd.returns rfl (hb hby own_dfm7_72) Bd.notSynchronized (by decide) (by decide) ?_
  rw [e1]
  exact ⟨rfl, N0, rfl⟩
theorem own_dfm8_0 : decode method_2_code 0 = .ok (.iload_n 0, 1) := by decide +kernel
theorem own_dfm8_1 : decode method_2_code 1 = .ok (.ifCond .ne 7, 3) := by decide +kernel
theorem own_dfm8_8 : decode method_2_code 8 = .ok (.iload_n 0, 1) := by decide +kernel
theorem own_dfm8_9 : decode method_2_code 9 = .ok (.iconst 1, 1) := by decide +kernel
theorem own_dfm8_10 : decode method_2_code 10 = .ok (.if_icmp .ne 7, 3) := by decide +kernel
theorem own_dfm8_17 : decode method_2_code 17 = .ok (.iload_n 0, 1) := by decide +kernel
theorem own_dfm8_18 : decode method_2_code 18 = .ok (.iconst 2, 1) := by decide +kernel
theorem own_dfm8_19 : decode method_2_code 19 = .ok (.if_icmp .ne 7, 3) := by decide +kernel
theorem own_dfm8_26 : decode method_2_code 26 = .ok (.iload_n 0, 1) := by decide +kernel
theorem own_dfm8_27 : decode method_2_code 27 = .ok (.iconst 3, 1) := by decide +kernel
theorem own_dfm8_28 : decode method_2_code 28 = .ok (.if_icmp .ne 7, 3) := by decide +kernel
theorem own_dfm8_35 : decode method_2_code 35 = .ok (.iload_n 0, 1) := by decide +kernel
theorem own_dfm8_36 : decode method_2_code 36 = .ok (.iconst 4, 1) := by decide +kernel
theorem own_dfm8_37 : decode method_2_code 37 = .ok (.if_icmp .ne 7, 3) := by decide +kernel
theorem own_dfm8_44 : decode method_2_code 44 = .ok (.iload_n 0, 1) := by decide +kernel
theorem own_dfm8_45 : decode method_2_code 45 = .ok (.iconst 5, 1) := by decide +kernel
theorem own_dfm8_46 : decode method_2_code 46 = .ok (.if_icmp .ne 7, 3) := by decide +kernel
theorem own_dfm8_53 : decode method_2_code 53 = .ok (.iload_n 0, 1) := by decide +kernel
theorem own_dfm8_54 : decode method_2_code 54 = .ok (.bipush 6, 2) := by decide +kernel
theorem own_dfm8_56 : decode method_2_code 56 = .ok (.if_icmp .ne 7, 3) := by decide +kernel
theorem own_dfm8_63 : decode method_2_code 63 = .ok (.iload_n 0, 1) := by decide +kernel
theorem own_dfm8_64 : decode method_2_code 64 = .ok (.bipush 7, 2) := by decide +kernel
theorem own_dfm8_66 : decode method_2_code 66 = .ok (.if_icmp .ne 7, 3) := by decide +kernel
theorem own_dfm8_73 : decode method_2_code 73 = .ok (.getstatic 34, 3) := by decide +kernel
theorem own_dfm8_76 : decode method_2_code 76 = .ok (.areturn, 1) := by decide +kernel
theorem own_ef_fm8 (m : MethodId) (va : Int32) : entryFrame m #[(.int va)] 1 = mkF m 0 #[.val (.int va)] [] := by first | (simp [entryFrame, mkF, argsToLocals, Value.category]; done) | rfl
def own_Q_fm8 (Z : State) (va : Int32) (oLOWER_DIAG_COL : Addr) (h0 : Heap) (n0 : Nat) (v : Option Value) (h : Heap) (L : List Loc) : Prop := v = some (.ref oLOWER_DIAG_COL) ∧ Fr n0 L ∧ h = h0
set_option maxRecDepth 65536 in
set_option maxHeartbeats 40000000 in
theorem own_rm_fm8 (l : Launch) (Z : State) (a0 : Array Value) (hw : ∀ d ∈ tables_1, d.before a0 Z = true) (ws : List Jvm.Cond) (va : Int32) (oLOWER_DIAG_COL : Addr) (h0 : Heap) (n0 : Nat) (Z0 : n0 ≤ h0.size) (S_LOWER_DIAG_COL : Sta Z h0 "com/example/parlay/parlay/problems/tsp/MatrixFormat" "LOWER_DIAG_COL" "Lcom/example/parlay/parlay/problems/tsp/MatrixFormat;" (.ref oLOWER_DIAG_COL)) (hk0 : ¬ va = (0 : Int32)) (hk1 : ¬ va = (1 : Int32)) (hk2 : ¬ va = (2 : Int32)) (hk3 : ¬ va = (3 : Int32)) (hk4 : ¬ va = (4 : Int32)) (hk5 : ¬ va = (5 : Int32)) (hk6 : ¬ va = (6 : Int32)) (hk7 : ¬ va = (7 : Int32)) :
    MetFree l (⟨"com/example/parlay/parlay/problems/tsp/MatrixFormatEndPinLaw", "format", "(I)Lcom/example/parlay/parlay/problems/tsp/MatrixFormat;"⟩ : MethodName) (head1 (Jvm.Cond.code (⟨"com/example/parlay/parlay/problems/tsp/MatrixFormatEndPinLaw", "format", "(I)Lcom/example/parlay/parlay/problems/tsp/MatrixFormat;"⟩ : MethodName) method_2_code 1 (some (.object "com/example/parlay/parlay/problems/tsp/MatrixFormat")) :: ws) ({ frames := 0, cells := 0, slots := 0, locals := 0 } : Room)) (fun a U => a = #[(.int va)] ∧ Z.Warmed39 U.vm ∧ U.heap = h0) (fun _ _ _ _ _ => True) (fun _ U o U' => ∃ v L, o = .returned v ∧ own_Q_fm8 Z va oLOWER_DIAG_COL h0 n0 v U'.heap L ∧ FrameEnd U o U' L ({ frames := 0, cells := 0, slots := 0, locals := 0 } : Room).cells ({ frames := 0, cells := 0, slots := 0, locals := 0 } : Room).slots) := by
  refine MetFree.of_bodySF (plainFor_of_name own_pn0) hisR ?_
  intro p e s m args below meth c s₁ Bd hml0 hP hK
  obtain ⟨rfl, hZ, hh⟩ := hP
  have hx := Bd.exec
  have hby := Bd.bytes
  have hml : c.maxLocals = 1 := hml0
  have hown : s.vm.findClass "com/example/parlay/parlay/problems/tsp/MatrixFormatEndPinLaw" = some m.cls := findClass_of_methodNamed Bd.named
  have hnm := (name_of_methodNamed Bd.named Bd.method).1
  have X0 : Stand p l e ({ frames := 0, cells := 0, slots := 0, locals := 0 } : Room) s m #[(.int va)] below meth c s₁ [] 0 0 := Stand.of_body Bd
  have e0 : s₁.heap = h0 := by rw [← hh, Bd.state]; rfl
  have N0 := Fr.nil n0
  show own_Fin p e below s (own_Q_fm8 Z va oLOWER_DIAG_COL h0 n0) ({ frames := 0, cells := 0, slots := 0, locals := 0 } : Room).cells ({ frames := 0, cells := 0, slots := 0, locals := 0 } : Room).slots (s₁.setTop (entryFrame m #[(.int va)] 1))
  refine own_Fin.go (fun t k => castTop (own_ef_fm8 m va) k) ?_
  refine own_Fin.go (fun t k => XS.iloadN X0.here hx rfl (hb hby own_dfm8_0) rfl k) ?_
  show own_Fin _ _ _ _ _ _ _ (s₁.setTop (mkF m 1 #[.val (.int va)] [(.int va)]))
  have hc1 : ¬ (va = (0 : Int32)) := hk0
  refine own_Fin.go (fun t k => XS.ifYes X0.here hx rfl (pc0 := 1) (pc' := 8) rfl (hb hby own_dfm8_1) rfl (Jvm.Free.XT.i0_ne_t hc1) (by decide) (by decide) k) ?_
  show own_Fin _ _ _ _ _ _ _ (s₁.setTop (mkF m 8 #[.val (.int va)] []))
  refine own_Fin.go (fun t k => XS.iloadN X0.here hx rfl (hb hby own_dfm8_8) rfl k) ?_
  show own_Fin _ _ _ _ _ _ _ (s₁.setTop (mkF m 9 #[.val (.int va)] [(.int va)]))
  refine own_Fin.go (fun t k => XS.iconst X0.here hx rfl (hb hby own_dfm8_9) k) ?_
  show own_Fin _ _ _ _ _ _ _ (s₁.setTop (mkF m 10 #[.val (.int va)] [(.int (1 : Int32)), (.int va)]))
  have hc10 : ¬ (va = (1 : Int32)) := hk1
  refine own_Fin.go (fun t k => XS.icmpYes X0.here hx rfl (pc0 := 10) (pc' := 17) rfl (hb hby own_dfm8_10) rfl (Jvm.Free.XT.ii_ne_t hc10) (by decide) (by decide) k) ?_
  show own_Fin _ _ _ _ _ _ _ (s₁.setTop (mkF m 17 #[.val (.int va)] []))
  refine own_Fin.go (fun t k => XS.iloadN X0.here hx rfl (hb hby own_dfm8_17) rfl k) ?_
  show own_Fin _ _ _ _ _ _ _ (s₁.setTop (mkF m 18 #[.val (.int va)] [(.int va)]))
  refine own_Fin.go (fun t k => XS.iconst X0.here hx rfl (hb hby own_dfm8_18) k) ?_
  show own_Fin _ _ _ _ _ _ _ (s₁.setTop (mkF m 19 #[.val (.int va)] [(.int (2 : Int32)), (.int va)]))
  have hc19 : ¬ (va = (2 : Int32)) := hk2
  refine own_Fin.go (fun t k => XS.icmpYes X0.here hx rfl (pc0 := 19) (pc' := 26) rfl (hb hby own_dfm8_19) rfl (Jvm.Free.XT.ii_ne_t hc19) (by decide) (by decide) k) ?_
  show own_Fin _ _ _ _ _ _ _ (s₁.setTop (mkF m 26 #[.val (.int va)] []))
  refine own_Fin.go (fun t k => XS.iloadN X0.here hx rfl (hb hby own_dfm8_26) rfl k) ?_
  show own_Fin _ _ _ _ _ _ _ (s₁.setTop (mkF m 27 #[.val (.int va)] [(.int va)]))
  refine own_Fin.go (fun t k => XS.iconst X0.here hx rfl (hb hby own_dfm8_27) k) ?_
  show own_Fin _ _ _ _ _ _ _ (s₁.setTop (mkF m 28 #[.val (.int va)] [(.int (3 : Int32)), (.int va)]))
  have hc28 : ¬ (va = (3 : Int32)) := hk3
  refine own_Fin.go (fun t k => XS.icmpYes X0.here hx rfl (pc0 := 28) (pc' := 35) rfl (hb hby own_dfm8_28) rfl (Jvm.Free.XT.ii_ne_t hc28) (by decide) (by decide) k) ?_
  show own_Fin _ _ _ _ _ _ _ (s₁.setTop (mkF m 35 #[.val (.int va)] []))
  refine own_Fin.go (fun t k => XS.iloadN X0.here hx rfl (hb hby own_dfm8_35) rfl k) ?_
  show own_Fin _ _ _ _ _ _ _ (s₁.setTop (mkF m 36 #[.val (.int va)] [(.int va)]))
  refine own_Fin.go (fun t k => XS.iconst X0.here hx rfl (hb hby own_dfm8_36) k) ?_
  show own_Fin _ _ _ _ _ _ _ (s₁.setTop (mkF m 37 #[.val (.int va)] [(.int (4 : Int32)), (.int va)]))
  have hc37 : ¬ (va = (4 : Int32)) := hk4
  refine own_Fin.go (fun t k => XS.icmpYes X0.here hx rfl (pc0 := 37) (pc' := 44) rfl (hb hby own_dfm8_37) rfl (Jvm.Free.XT.ii_ne_t hc37) (by decide) (by decide) k) ?_
  show own_Fin _ _ _ _ _ _ _ (s₁.setTop (mkF m 44 #[.val (.int va)] []))
  refine own_Fin.go (fun t k => XS.iloadN X0.here hx rfl (hb hby own_dfm8_44) rfl k) ?_
  show own_Fin _ _ _ _ _ _ _ (s₁.setTop (mkF m 45 #[.val (.int va)] [(.int va)]))
  refine own_Fin.go (fun t k => XS.iconst X0.here hx rfl (hb hby own_dfm8_45) k) ?_
  show own_Fin _ _ _ _ _ _ _ (s₁.setTop (mkF m 46 #[.val (.int va)] [(.int (5 : Int32)), (.int va)]))
  have hc46 : ¬ (va = (5 : Int32)) := hk5
  refine own_Fin.go (fun t k => XS.icmpYes X0.here hx rfl (pc0 := 46) (pc' := 53) rfl (hb hby own_dfm8_46) rfl (Jvm.Free.XT.ii_ne_t hc46) (by decide) (by decide) k) ?_
  show own_Fin _ _ _ _ _ _ _ (s₁.setTop (mkF m 53 #[.val (.int va)] []))
  refine own_Fin.go (fun t k => XS.iloadN X0.here hx rfl (hb hby own_dfm8_53) rfl k) ?_
  show own_Fin _ _ _ _ _ _ _ (s₁.setTop (mkF m 54 #[.val (.int va)] [(.int va)]))
  refine own_Fin.go (fun t k => XS.bipush X0.here hx rfl (hb hby own_dfm8_54) k) ?_
  show own_Fin _ _ _ _ _ _ _ (s₁.setTop (mkF m 56 #[.val (.int va)] [(.int (6 : Int32)), (.int va)]))
  have hc56 : ¬ (va = (6 : Int32)) := hk6
  refine own_Fin.go (fun t k => XS.icmpYes X0.here hx rfl (pc0 := 56) (pc' := 63) rfl (hb hby own_dfm8_56) rfl (Jvm.Free.XT.ii_ne_t hc56) (by decide) (by decide) k) ?_
  show own_Fin _ _ _ _ _ _ _ (s₁.setTop (mkF m 63 #[.val (.int va)] []))
  refine own_Fin.go (fun t k => XS.iloadN X0.here hx rfl (hb hby own_dfm8_63) rfl k) ?_
  show own_Fin _ _ _ _ _ _ _ (s₁.setTop (mkF m 64 #[.val (.int va)] [(.int va)]))
  refine own_Fin.go (fun t k => XS.bipush X0.here hx rfl (hb hby own_dfm8_64) k) ?_
  show own_Fin _ _ _ _ _ _ _ (s₁.setTop (mkF m 66 #[.val (.int va)] [(.int (7 : Int32)), (.int va)]))
  have hc66 : ¬ (va = (7 : Int32)) := hk7
  refine own_Fin.go (fun t k => XS.icmpYes X0.here hx rfl (pc0 := 66) (pc' := 73) rfl (hb hby own_dfm8_66) rfl (Jvm.Free.XT.ii_ne_t hc66) (by decide) (by decide) k) ?_
  show own_Fin _ _ _ _ _ _ _ (s₁.setTop (mkF m 73 #[.val (.int va)] []))
  obtain ⟨T1, X1, e1, st1⟩ := getS2 X0 hx hZ hown (host := "") (Or.inl (hw _ (List.mem_of_getElem? (i := 24) rfl))) Via.refl e0 S_LOWER_DIAG_COL (g := (mkF m 73 #[.val (.int va)] [])) rfl (hb hby own_dfm8_73)
  refine own_Fin.go st1 ?_
  show own_Fin _ _ _ _ _ _ _ (T1.setTop (mkF m 76 #[.val (.int va)] [(.ref oLOWER_DIAG_COL)]))
  refine own_retA X1 hx Bd.returns rfl (hb hby own_dfm8_76) Bd.notSynchronized (by decide) (by decide) ?_
  rw [e1]
  exact ⟨rfl, N0, rfl⟩
theorem own_den_0 : decode prog_73_method_5_code 0 = .ok (.aload_n 0, 1) := by decide +kernel
theorem own_den_1 : decode prog_73_method_5_code 1 = .ok (.getfield 57, 3) := by decide +kernel
theorem own_den_4 : decode prog_73_method_5_code 4 = .ok (.ifCond .eq 7, 3) := by decide +kernel
theorem own_den_7 : decode prog_73_method_5_code 7 = .ok (.iload_n 2, 1) := by decide +kernel
theorem own_den_8 : decode prog_73_method_5_code 8 = .ok (.goto 17, 3) := by decide +kernel
theorem own_den_11 : decode prog_73_method_5_code 11 = .ok (.aload_n 0, 1) := by decide +kernel
theorem own_den_12 : decode prog_73_method_5_code 12 = .ok (.getfield 54, 3) := by decide +kernel
theorem own_den_15 : decode prog_73_method_5_code 15 = .ok (.ifCond .eq 9, 3) := by decide +kernel
theorem own_den_18 : decode prog_73_method_5_code 18 = .ok (.iload_n 1, 1) := by decide +kernel
theorem own_den_19 : decode prog_73_method_5_code 19 = .ok (.iconst 1, 1) := by decide +kernel
theorem own_den_20 : decode prog_73_method_5_code 20 = .ok (.iadd, 1) := by decide +kernel
theorem own_den_21 : decode prog_73_method_5_code 21 = .ok (.goto 4, 3) := by decide +kernel
theorem own_den_24 : decode prog_73_method_5_code 24 = .ok (.iload_n 1, 1) := by decide +kernel
theorem own_den_25 : decode prog_73_method_5_code 25 = .ok (.ireturn, 1) := by decide +kernel
theorem own_pn1 : plainName "com/example/parlay/parlay/problems/tsp/MatrixFormat" = true := by first | (simp [plainName, overriddenIn]; done) | decide +kernel
theorem own_ef_en (m : MethodId) (oa : Addr) (va : Int32) (vb : Int32) : entryFrame m #[(.ref oa), (.int va), (.int vb)] 3 = mkF m 0 #[.val (.ref oa), .val (.int va), .val (.int vb)] [] := by first | (simp [entryFrame, mkF, argsToLocals, Value.category]; done) | rfl
def own_Q_en (Z : State) (oa : Addr) (va : Int32) (vb : Int32) (ur : Int32) (ud : Int32) (h0 : Heap) (n0 : Nat) (v : Option Value) (h : Heap) (L : List Loc) : Prop := v = some (.int (own_en ur ud va vb)) ∧ Fr n0 L ∧ h = h0
set_option maxRecDepth 65536 in
set_option maxHeartbeats 40000000 in
theorem own_rm_en (l : Launch) (Z : State) (a0 : Array Value) (hw : ∀ d ∈ tables_1, d.before a0 Z = true) (ws : List Jvm.Cond) (oa : Addr) (va : Int32) (vb : Int32) (ur : Int32) (ud : Int32) (h0 : Heap) (n0 : Nat) (Z0 : n0 ≤ h0.size) (F_oa_right : Fld Z h0 oa "com/example/parlay/parlay/problems/tsp/MatrixFormat" "right" "Z" (.int ur)) (F_oa_diagonal : Fld Z h0 oa "com/example/parlay/parlay/problems/tsp/MatrixFormat" "diagonal" "Z" (.int ud)) :
    MetFree l (⟨"com/example/parlay/parlay/problems/tsp/MatrixFormat", "end", "(II)I"⟩ : MethodName) (head1 (Jvm.Cond.code (⟨"com/example/parlay/parlay/problems/tsp/MatrixFormat", "end", "(II)I"⟩ : MethodName) prog_73_method_5_code 3 (some .int) :: ws) ({ frames := 0, cells := 0, slots := 0, locals := 0 } : Room)) (fun a U => a = #[(.ref oa), (.int va), (.int vb)] ∧ Z.Warmed39 U.vm ∧ U.heap = h0) (fun _ _ _ _ _ => True) (fun _ U o U' => ∃ v L, o = .returned v ∧ own_Q_en Z oa va vb ur ud h0 n0 v U'.heap L ∧ FrameEnd U o U' L ({ frames := 0, cells := 0, slots := 0, locals := 0 } : Room).cells ({ frames := 0, cells := 0, slots := 0, locals := 0 } : Room).slots) := by
  refine MetFree.of_bodySF (plainFor_of_name own_pn1) hisR ?_
  intro p e s m args below meth c s₁ Bd hml0 hP hK
  obtain ⟨rfl, hZ, hh⟩ := hP
  have hx := Bd.exec
  have hby := Bd.bytes
  have hml : c.maxLocals = 3 := hml0
  have hown : s.vm.findClass "com/example/parlay/parlay/problems/tsp/MatrixFormat" = some m.cls := findClass_of_methodNamed Bd.named
  have hnm := (name_of_methodNamed Bd.named Bd.method).1
  have X0 : Stand p l e ({ frames := 0, cells := 0, slots := 0, locals := 0 } : Room) s m #[(.ref oa), (.int va), (.int vb)] below meth c s₁ [] 0 0 := Stand.of_body Bd
  have e0 : s₁.heap = h0 := by rw [← hh, Bd.state]; rfl
  have N0 := Fr.nil n0
  show own_Fin p e below s (own_Q_en Z oa va vb ur ud h0 n0) ({ frames := 0, cells := 0, slots := 0, locals := 0 } : Room).cells ({ frames := 0, cells := 0, slots := 0, locals := 0 } : Room).slots (s₁.setTop (entryFrame m #[(.ref oa), (.int va), (.int vb)] 3))
  refine own_Fin.go (fun t k => castTop (own_ef_en m oa va vb) k) ?_
  refine own_Fin.go (fun t k => XS.aloadN X0.here hx rfl (hb hby own_den_0) rfl rfl k) ?_
  show own_Fin _ _ _ _ _ _ _ (s₁.setTop (mkF m 1 #[.val (.ref oa), .val (.int va), .val (.int vb)] [(.ref oa)]))
  obtain ⟨T1, X1, e1, st1⟩ := getF X0 hx hZ hown (host := "") (Or.inl (hw _ (List.mem_of_getElem? (i := 13) rfl))) Via.refl e0 F_oa_right (g := (mkF m 1 #[.val (.ref oa), .val (.int va), .val (.int vb)] [(.ref oa)])) rfl rfl (hb hby own_den_1)
  refine own_Fin.go st1 ?_
  show own_Fin _ _ _ _ _ _ _ (T1.setTop (mkF m 4 #[.val (.ref oa), .val (.int va), .val (.int vb)] [(.int ur)]))
  by_cases hc4 : ur = (0 : Int32)
  · refine own_Fin.go (fun t k => XS.ifYes X1.here hx rfl (pc0 := 4) (pc' := 11) rfl (hb hby own_den_4) rfl (Jvm.Free.XT.i0_eq_t hc4) (by decide) (by decide) k) ?_
    show own_Fin _ _ _ _ _ _ _ (T1.setTop (mkF m 11 #[.val (.ref oa), .val (.int va), .val (.int vb)] []))
    refine own_Fin.go (fun t k => XS.aloadN X1.here hx rfl (hb hby own_den_11) rfl rfl k) ?_
    show own_Fin _ _ _ _ _ _ _ (T1.setTop (mkF m 12 #[.val (.ref oa), .val (.int va), .val (.int vb)] [(.ref oa)]))
    obtain ⟨T2, X2, e2, st2⟩ := getF X1 hx hZ hown (host := "") (Or.inl (hw _ (List.mem_of_getElem? (i := 22) rfl))) Via.refl e1 F_oa_diagonal (g := (mkF m 12 #[.val (.ref oa), .val (.int va), .val (.int vb)] [(.ref oa)])) rfl rfl (hb hby own_den_12)
    refine own_Fin.go st2 ?_
    show own_Fin _ _ _ _ _ _ _ (T2.setTop (mkF m 15 #[.val (.ref oa), .val (.int va), .val (.int vb)] [(.int ud)]))
    by_cases hc15 : ud = (0 : Int32)
    · refine own_Fin.go (fun t k => XS.ifYes X2.here hx rfl (pc0 := 15) (pc' := 24) rfl (hb hby own_den_15) rfl (Jvm.Free.XT.i0_eq_t hc15) (by decide) (by decide) k) ?_
      show own_Fin _ _ _ _ _ _ _ (T2.setTop (mkF m 24 #[.val (.ref oa), .val (.int va), .val (.int vb)] []))
      refine own_Fin.go (fun t k => XS.iloadN X2.here hx rfl (hb hby own_den_24) rfl k) ?_
      show own_Fin _ _ _ _ _ _ _ (T2.setTop (mkF m 25 #[.val (.ref oa), .val (.int va), .val (.int vb)] [(.int va)]))
      refine own_retI X2 hx Bd.returns (hb hby own_den_25) Bd.notSynchronized (by decide) (by decide) ?_
      rw [e2]
      exact ⟨by simp only [own_en, if_pos hc4, if_pos hc15], N0, rfl⟩
    · refine own_Fin.go (fun t k => XS.ifNo X2.here hx rfl (hb hby own_den_15) rfl (Jvm.Free.XT.i0_eq_f hc15) k) ?_
      show own_Fin _ _ _ _ _ _ _ (T2.setTop (mkF m 18 #[.val (.ref oa), .val (.int va), .val (.int vb)] []))
      refine own_Fin.go (fun t k => XS.iloadN X2.here hx rfl (hb hby own_den_18) rfl k) ?_
      show own_Fin _ _ _ _ _ _ _ (T2.setTop (mkF m 19 #[.val (.ref oa), .val (.int va), .val (.int vb)] [(.int va)]))
      refine own_Fin.go (fun t k => XS.iconst X2.here hx rfl (hb hby own_den_19) k) ?_
      show own_Fin _ _ _ _ _ _ _ (T2.setTop (mkF m 20 #[.val (.ref oa), .val (.int va), .val (.int vb)] [(.int (1 : Int32)), (.int va)]))
      refine own_Fin.go (fun t k => XS.iadd X2.here hx rfl (hb hby own_den_20) rfl k) ?_
      show own_Fin _ _ _ _ _ _ _ (T2.setTop (mkF m 21 #[.val (.ref oa), .val (.int va), .val (.int vb)] [(.int (va + (1 : Int32)))]))
      refine own_Fin.go (fun t k => XS.goto X2.here hx rfl (pc0 := 21) (pc' := 25) rfl (hb hby own_den_21) (by decide) (by decide) k) ?_
      show own_Fin _ _ _ _ _ _ _ (T2.setTop (mkF m 25 #[.val (.ref oa), .val (.int va), .val (.int vb)] [(.int (va + (1 : Int32)))]))
      refine own_retI X2 hx Bd.returns (hb hby own_den_25) Bd.notSynchronized (by decide) (by decide) ?_
      rw [e2]
      exact ⟨by simp only [own_en, if_pos hc4, if_neg hc15], N0, rfl⟩
  · refine own_Fin.go (fun t k => XS.ifNo X1.here hx rfl (hb hby own_den_4) rfl (Jvm.Free.XT.i0_eq_f hc4) k) ?_
    show own_Fin _ _ _ _ _ _ _ (T1.setTop (mkF m 7 #[.val (.ref oa), .val (.int va), .val (.int vb)] []))
    refine own_Fin.go (fun t k => XS.iloadN X1.here hx rfl (hb hby own_den_7) rfl k) ?_
    show own_Fin _ _ _ _ _ _ _ (T1.setTop (mkF m 8 #[.val (.ref oa), .val (.int va), .val (.int vb)] [(.int vb)]))
    refine own_Fin.go (fun t k => XS.goto X1.here hx rfl (pc0 := 8) (pc' := 25) rfl (hb hby own_den_8) (by decide) (by decide) k) ?_
    show own_Fin _ _ _ _ _ _ _ (T1.setTop (mkF m 25 #[.val (.ref oa), .val (.int va), .val (.int vb)] [(.int vb)]))
    refine own_retI X1 hx Bd.returns (hb hby own_den_25) Bd.notSynchronized (by decide) (by decide) ?_
    rw [e1]
    exact ⟨by simp only [own_en, if_neg hc4], N0, rfl⟩
theorem own_dex_0 : decode method_3_code 0 = .ok (.iload_n 0, 1) := by decide +kernel
theorem own_dex_1 : decode method_3_code 1 = .ok (.iconst 2, 1) := by decide +kernel
theorem own_dex_2 : decode method_3_code 2 = .ok (.if_icmp .eq 8, 3) := by decide +kernel
theorem own_dex_5 : decode method_3_code 5 = .ok (.iload_n 0, 1) := by decide +kernel
theorem own_dex_6 : decode method_3_code 6 = .ok (.iconst 5, 1) := by decide +kernel
theorem own_dex_7 : decode method_3_code 7 = .ok (.if_icmp .ne 5, 3) := by decide +kernel
theorem own_dex_10 : decode method_3_code 10 = .ok (.iload_n 1, 1) := by decide +kernel
theorem own_dex_11 : decode method_3_code 11 = .ok (.ireturn, 1) := by decide +kernel
theorem own_dex_12 : decode method_3_code 12 = .ok (.iload_n 0, 1) := by decide +kernel
theorem own_dex_13 : decode method_3_code 13 = .ok (.iconst 4, 1) := by decide +kernel
theorem own_dex_14 : decode method_3_code 14 = .ok (.if_icmp .eq 9, 3) := by decide +kernel
theorem own_dex_17 : decode method_3_code 17 = .ok (.iload_n 0, 1) := by decide +kernel
theorem own_dex_18 : decode method_3_code 18 = .ok (.bipush 7, 2) := by decide +kernel
theorem own_dex_20 : decode method_3_code 20 = .ok (.if_icmp .ne 7, 3) := by decide +kernel
theorem own_dex_23 : decode method_3_code 23 = .ok (.iload_n 1, 1) := by decide +kernel
theorem own_dex_24 : decode method_3_code 24 = .ok (.iconst 1, 1) := by decide +kernel
theorem own_dex_25 : decode method_3_code 25 = .ok (.iadd, 1) := by decide +kernel
theorem own_dex_26 : decode method_3_code 26 = .ok (.ireturn, 1) := by decide +kernel
theorem own_dex_27 : decode method_3_code 27 = .ok (.iload_n 2, 1) := by decide +kernel
theorem own_dex_28 : decode method_3_code 28 = .ok (.ireturn, 1) := by decide +kernel
theorem own_ef_ex (m : MethodId) (va : Int32) (vb : Int32) (vc : Int32) : entryFrame m #[(.int va), (.int vb), (.int vc)] 3 = mkF m 0 #[.val (.int va), .val (.int vb), .val (.int vc)] [] := by first | (simp [entryFrame, mkF, argsToLocals, Value.category]; done) | rfl
def own_Q_ex (Z : State) (va : Int32) (vb : Int32) (vc : Int32) (h0 : Heap) (n0 : Nat) (v : Option Value) (h : Heap) (L : List Loc) : Prop := v = some (.int (own_exp va vb vc)) ∧ Fr n0 L ∧ h = h0
set_option maxRecDepth 65536 in
set_option maxHeartbeats 40000000 in
theorem own_rm_ex (l : Launch) (Z : State) (a0 : Array Value) (hw : ∀ d ∈ tables_1, d.before a0 Z = true) (ws : List Jvm.Cond) (va : Int32) (vb : Int32) (vc : Int32) (h0 : Heap) (n0 : Nat) (Z0 : n0 ≤ h0.size) :
    MetFree l (⟨"com/example/parlay/parlay/problems/tsp/MatrixFormatEndPinLaw", "expected", "(III)I"⟩ : MethodName) (head1 (Jvm.Cond.code (⟨"com/example/parlay/parlay/problems/tsp/MatrixFormatEndPinLaw", "expected", "(III)I"⟩ : MethodName) method_3_code 3 (some .int) :: ws) ({ frames := 0, cells := 0, slots := 0, locals := 0 } : Room)) (fun a U => a = #[(.int va), (.int vb), (.int vc)] ∧ Z.Warmed39 U.vm ∧ U.heap = h0) (fun _ _ _ _ _ => True) (fun _ U o U' => ∃ v L, o = .returned v ∧ own_Q_ex Z va vb vc h0 n0 v U'.heap L ∧ FrameEnd U o U' L ({ frames := 0, cells := 0, slots := 0, locals := 0 } : Room).cells ({ frames := 0, cells := 0, slots := 0, locals := 0 } : Room).slots) := by
  refine MetFree.of_bodySF (plainFor_of_name own_pn0) hisR ?_
  intro p e s m args below meth c s₁ Bd hml0 hP hK
  obtain ⟨rfl, hZ, hh⟩ := hP
  have hx := Bd.exec
  have hby := Bd.bytes
  have hml : c.maxLocals = 3 := hml0
  have hown : s.vm.findClass "com/example/parlay/parlay/problems/tsp/MatrixFormatEndPinLaw" = some m.cls := findClass_of_methodNamed Bd.named
  have hnm := (name_of_methodNamed Bd.named Bd.method).1
  have X0 : Stand p l e ({ frames := 0, cells := 0, slots := 0, locals := 0 } : Room) s m #[(.int va), (.int vb), (.int vc)] below meth c s₁ [] 0 0 := Stand.of_body Bd
  have e0 : s₁.heap = h0 := by rw [← hh, Bd.state]; rfl
  have N0 := Fr.nil n0
  show own_Fin p e below s (own_Q_ex Z va vb vc h0 n0) ({ frames := 0, cells := 0, slots := 0, locals := 0 } : Room).cells ({ frames := 0, cells := 0, slots := 0, locals := 0 } : Room).slots (s₁.setTop (entryFrame m #[(.int va), (.int vb), (.int vc)] 3))
  refine own_Fin.go (fun t k => castTop (own_ef_ex m va vb vc) k) ?_
  refine own_Fin.go (fun t k => XS.iloadN X0.here hx rfl (hb hby own_dex_0) rfl k) ?_
  show own_Fin _ _ _ _ _ _ _ (s₁.setTop (mkF m 1 #[.val (.int va), .val (.int vb), .val (.int vc)] [(.int va)]))
  refine own_Fin.go (fun t k => XS.iconst X0.here hx rfl (hb hby own_dex_1) k) ?_
  show own_Fin _ _ _ _ _ _ _ (s₁.setTop (mkF m 2 #[.val (.int va), .val (.int vb), .val (.int vc)] [(.int (2 : Int32)), (.int va)]))
  by_cases hc2 : va = (2 : Int32)
  · refine own_Fin.go (fun t k => XS.icmpYes X0.here hx rfl (pc0 := 2) (pc' := 10) rfl (hb hby own_dex_2) rfl (Jvm.Free.XT.ii_eq_t hc2) (by decide) (by decide) k) ?_
    show own_Fin _ _ _ _ _ _ _ (s₁.setTop (mkF m 10 #[.val (.int va), .val (.int vb), .val (.int vc)] []))
    refine own_Fin.go (fun t k => XS.iloadN X0.here hx rfl (hb hby own_dex_10) rfl k) ?_
    show own_Fin _ _ _ _ _ _ _ (s₁.setTop (mkF m 11 #[.val (.int va), .val (.int vb), .val (.int vc)] [(.int vb)]))
    refine own_retI X0 hx Bd.returns (hb hby own_dex_11) Bd.notSynchronized (by decide) (by decide) ?_
    rw [e0]
    exact ⟨by simp only [own_exp, if_pos hc2], N0, rfl⟩
  · refine own_Fin.go (fun t k => XS.icmpNo X0.here hx rfl (hb hby own_dex_2) rfl (Jvm.Free.XT.ii_eq_f hc2) k) ?_
    show own_Fin _ _ _ _ _ _ _ (s₁.setTop (mkF m 5 #[.val (.int va), .val (.int vb), .val (.int vc)] []))
    refine own_Fin.go (fun t k => XS.iloadN X0.here hx rfl (hb hby own_dex_5) rfl k) ?_
    show own_Fin _ _ _ _ _ _ _ (s₁.setTop (mkF m 6 #[.val (.int va), .val (.int vb), .val (.int vc)] [(.int va)]))
    refine own_Fin.go (fun t k => XS.iconst X0.here hx rfl (hb hby own_dex_6) k) ?_
    show own_Fin _ _ _ _ _ _ _ (s₁.setTop (mkF m 7 #[.val (.int va), .val (.int vb), .val (.int vc)] [(.int (5 : Int32)), (.int va)]))
    by_cases hc7 : va = (5 : Int32)
    · refine own_Fin.go (fun t k => XS.icmpNo X0.here hx rfl (hb hby own_dex_7) rfl (Jvm.Free.XT.ii_ne_f hc7) k) ?_
      show own_Fin _ _ _ _ _ _ _ (s₁.setTop (mkF m 10 #[.val (.int va), .val (.int vb), .val (.int vc)] []))
      refine own_Fin.go (fun t k => XS.iloadN X0.here hx rfl (hb hby own_dex_10) rfl k) ?_
      show own_Fin _ _ _ _ _ _ _ (s₁.setTop (mkF m 11 #[.val (.int va), .val (.int vb), .val (.int vc)] [(.int vb)]))
      refine own_retI X0 hx Bd.returns (hb hby own_dex_11) Bd.notSynchronized (by decide) (by decide) ?_
      rw [e0]
      exact ⟨by simp only [own_exp, if_neg hc2, if_pos hc7], N0, rfl⟩
    · refine own_Fin.go (fun t k => XS.icmpYes X0.here hx rfl (pc0 := 7) (pc' := 12) rfl (hb hby own_dex_7) rfl (Jvm.Free.XT.ii_ne_t hc7) (by decide) (by decide) k) ?_
      show own_Fin _ _ _ _ _ _ _ (s₁.setTop (mkF m 12 #[.val (.int va), .val (.int vb), .val (.int vc)] []))
      refine own_Fin.go (fun t k => XS.iloadN X0.here hx rfl (hb hby own_dex_12) rfl k) ?_
      show own_Fin _ _ _ _ _ _ _ (s₁.setTop (mkF m 13 #[.val (.int va), .val (.int vb), .val (.int vc)] [(.int va)]))
      refine own_Fin.go (fun t k => XS.iconst X0.here hx rfl (hb hby own_dex_13) k) ?_
      show own_Fin _ _ _ _ _ _ _ (s₁.setTop (mkF m 14 #[.val (.int va), .val (.int vb), .val (.int vc)] [(.int (4 : Int32)), (.int va)]))
      by_cases hc14 : va = (4 : Int32)
      · refine own_Fin.go (fun t k => XS.icmpYes X0.here hx rfl (pc0 := 14) (pc' := 23) rfl (hb hby own_dex_14) rfl (Jvm.Free.XT.ii_eq_t hc14) (by decide) (by decide) k) ?_
        show own_Fin _ _ _ _ _ _ _ (s₁.setTop (mkF m 23 #[.val (.int va), .val (.int vb), .val (.int vc)] []))
        refine own_Fin.go (fun t k => XS.iloadN X0.here hx rfl (hb hby own_dex_23) rfl k) ?_
        show own_Fin _ _ _ _ _ _ _ (s₁.setTop (mkF m 24 #[.val (.int va), .val (.int vb), .val (.int vc)] [(.int vb)]))
        refine own_Fin.go (fun t k => XS.iconst X0.here hx rfl (hb hby own_dex_24) k) ?_
        show own_Fin _ _ _ _ _ _ _ (s₁.setTop (mkF m 25 #[.val (.int va), .val (.int vb), .val (.int vc)] [(.int (1 : Int32)), (.int vb)]))
        refine own_Fin.go (fun t k => XS.iadd X0.here hx rfl (hb hby own_dex_25) rfl k) ?_
        show own_Fin _ _ _ _ _ _ _ (s₁.setTop (mkF m 26 #[.val (.int va), .val (.int vb), .val (.int vc)] [(.int (vb + (1 : Int32)))]))
        refine own_retI X0 hx Bd.returns (hb hby own_dex_26) Bd.notSynchronized (by decide) (by decide) ?_
        rw [e0]
        exact ⟨by simp only [own_exp, if_neg hc2, if_neg hc7, if_pos hc14], N0, rfl⟩
      · refine own_Fin.go (fun t k => XS.icmpNo X0.here hx rfl (hb hby own_dex_14) rfl (Jvm.Free.XT.ii_eq_f hc14) k) ?_
        show own_Fin _ _ _ _ _ _ _ (s₁.setTop (mkF m 17 #[.val (.int va), .val (.int vb), .val (.int vc)] []))
        refine own_Fin.go (fun t k => XS.iloadN X0.here hx rfl (hb hby own_dex_17) rfl k) ?_
        show own_Fin _ _ _ _ _ _ _ (s₁.setTop (mkF m 18 #[.val (.int va), .val (.int vb), .val (.int vc)] [(.int va)]))
        refine own_Fin.go (fun t k => XS.bipush X0.here hx rfl (hb hby own_dex_18) k) ?_
        show own_Fin _ _ _ _ _ _ _ (s₁.setTop (mkF m 20 #[.val (.int va), .val (.int vb), .val (.int vc)] [(.int (7 : Int32)), (.int va)]))
        by_cases hc20 : va = (7 : Int32)
        · refine own_Fin.go (fun t k => XS.icmpNo X0.here hx rfl (hb hby own_dex_20) rfl (Jvm.Free.XT.ii_ne_f hc20) k) ?_
          show own_Fin _ _ _ _ _ _ _ (s₁.setTop (mkF m 23 #[.val (.int va), .val (.int vb), .val (.int vc)] []))
          refine own_Fin.go (fun t k => XS.iloadN X0.here hx rfl (hb hby own_dex_23) rfl k) ?_
          show own_Fin _ _ _ _ _ _ _ (s₁.setTop (mkF m 24 #[.val (.int va), .val (.int vb), .val (.int vc)] [(.int vb)]))
          refine own_Fin.go (fun t k => XS.iconst X0.here hx rfl (hb hby own_dex_24) k) ?_
          show own_Fin _ _ _ _ _ _ _ (s₁.setTop (mkF m 25 #[.val (.int va), .val (.int vb), .val (.int vc)] [(.int (1 : Int32)), (.int vb)]))
          refine own_Fin.go (fun t k => XS.iadd X0.here hx rfl (hb hby own_dex_25) rfl k) ?_
          show own_Fin _ _ _ _ _ _ _ (s₁.setTop (mkF m 26 #[.val (.int va), .val (.int vb), .val (.int vc)] [(.int (vb + (1 : Int32)))]))
          refine own_retI X0 hx Bd.returns (hb hby own_dex_26) Bd.notSynchronized (by decide) (by decide) ?_
          rw [e0]
          exact ⟨by simp only [own_exp, if_neg hc2, if_neg hc7, if_neg hc14, if_pos hc20], N0, rfl⟩
        · refine own_Fin.go (fun t k => XS.icmpYes X0.here hx rfl (pc0 := 20) (pc' := 27) rfl (hb hby own_dex_20) rfl (Jvm.Free.XT.ii_ne_t hc20) (by decide) (by decide) k) ?_
          show own_Fin _ _ _ _ _ _ _ (s₁.setTop (mkF m 27 #[.val (.int va), .val (.int vb), .val (.int vc)] []))
          refine own_Fin.go (fun t k => XS.iloadN X0.here hx rfl (hb hby own_dex_27) rfl k) ?_
          show own_Fin _ _ _ _ _ _ _ (s₁.setTop (mkF m 28 #[.val (.int va), .val (.int vb), .val (.int vc)] [(.int vc)]))
          refine own_retI X0 hx Bd.returns (hb hby own_dex_28) Bd.notSynchronized (by decide) (by decide) ?_
          rw [e0]
          exact ⟨by simp only [own_exp, if_neg hc2, if_neg hc7, if_neg hc14, if_neg hc20], N0, rfl⟩
theorem own_last (a : Int32) (h0 : ¬ (a &&& (2147483647 : Int32)) % (9 : Int32) = 0) (h1 : ¬ (a &&& (2147483647 : Int32)) % (9 : Int32) = 1) (h2 : ¬ (a &&& (2147483647 : Int32)) % (9 : Int32) = 2) (h3 : ¬ (a &&& (2147483647 : Int32)) % (9 : Int32) = 3) (h4 : ¬ (a &&& (2147483647 : Int32)) % (9 : Int32) = 4) (h5 : ¬ (a &&& (2147483647 : Int32)) % (9 : Int32) = 5) (h6 : ¬ (a &&& (2147483647 : Int32)) % (9 : Int32) = 6) (h7 : ¬ (a &&& (2147483647 : Int32)) % (9 : Int32) = 7) : (a &&& (2147483647 : Int32)) % (9 : Int32) = 8 := by
  have q := c_mask a 2147483647 31 (by decide) (by decide)
  have r := (c_irem (a &&& 2147483647) 9 9 rfl).1 (by omega)
  generalize (a &&& (2147483647 : Int32)) % (9 : Int32) = k at *
  rw [← Int32.toInt_inj] at *
  have e0 : (0 : Int32).toInt = 0 := rfl
  have e1 : (1 : Int32).toInt = 1 := rfl
  have e2 : (2 : Int32).toInt = 2 := rfl
  have e3 : (3 : Int32).toInt = 3 := rfl
  have e4 : (4 : Int32).toInt = 4 := rfl
  have e5 : (5 : Int32).toInt = 5 := rfl
  have e6 : (6 : Int32).toInt = 6 := rfl
  have e7 : (7 : Int32).toInt = 7 := rfl
  have e8 : (8 : Int32).toInt = 8 := rfl
  omega
theorem own_pd0 : parseMethodDescriptor "(I)Lcom/example/parlay/parlay/problems/tsp/MatrixFormat;" = some ⟨[.int], some (.object "com/example/parlay/parlay/problems/tsp/MatrixFormat")⟩ := by decide +kernel
theorem own_pd1 : parseMethodDescriptor "(II)I" = some ⟨[.int, .int], some .int⟩ := by decide +kernel
theorem own_pd2 : parseMethodDescriptor "(III)I" = some ⟨[.int, .int, .int], some .int⟩ := by decide +kernel
theorem own_ef_law (m : MethodId) (va : Int32) (vb : Int32) (vc : Int32) : entryFrame m #[(.int va), (.int vb), (.int vc)] maxLocals = mkF m 0 #[.val (.int va), .val (.int vb), .val (.int vc), .unset, .unset] [] := by first | (simp [entryFrame, mkF, argsToLocals, Value.category, maxLocals]; done) | rfl
def own_Q_law (Z : State) (va : Int32) (vb : Int32) (vc : Int32) (oFULL_MATRIX : Addr) (oUPPER_ROW : Addr) (oLOWER_ROW : Addr) (oUPPER_DIAG_ROW : Addr) (oLOWER_DIAG_ROW : Addr) (oUPPER_COL : Addr) (oLOWER_COL : Addr) (oUPPER_DIAG_COL : Addr) (oLOWER_DIAG_COL : Addr) (h0 : Heap) (n0 : Nat) (v : Option Value) (h : Heap) (L : List Loc) : Prop := v = some (.int (1 : Int32)) ∧ Fr n0 L
set_option maxRecDepth 65536 in
set_option maxHeartbeats 40000000 in
theorem own_rm_law (l : Launch) (Z : State) (a0 : Array Value) (hw : ∀ d ∈ tables_1, d.before a0 Z = true) (ws : List Jvm.Cond) (va : Int32) (vb : Int32) (vc : Int32) (oFULL_MATRIX : Addr) (oUPPER_ROW : Addr) (oLOWER_ROW : Addr) (oUPPER_DIAG_ROW : Addr) (oLOWER_DIAG_ROW : Addr) (oUPPER_COL : Addr) (oLOWER_COL : Addr) (oUPPER_DIAG_COL : Addr) (oLOWER_DIAG_COL : Addr) (h0 : Heap) (n0 : Nat) (Z0 : n0 ≤ h0.size) (S_FULL_MATRIX : Sta Z h0 "com/example/parlay/parlay/problems/tsp/MatrixFormat" "FULL_MATRIX" "Lcom/example/parlay/parlay/problems/tsp/MatrixFormat;" (.ref oFULL_MATRIX)) (E_oFULL_MATRIX : Exa Z h0 oFULL_MATRIX "com/example/parlay/parlay/problems/tsp/MatrixFormat") (S_UPPER_ROW : Sta Z h0 "com/example/parlay/parlay/problems/tsp/MatrixFormat" "UPPER_ROW" "Lcom/example/parlay/parlay/problems/tsp/MatrixFormat;" (.ref oUPPER_ROW)) (E_oUPPER_ROW : Exa Z h0 oUPPER_ROW "com/example/parlay/parlay/problems/tsp/MatrixFormat") (S_LOWER_ROW : Sta Z h0 "com/example/parlay/parlay/problems/tsp/MatrixFormat" "LOWER_ROW" "Lcom/example/parlay/parlay/problems/tsp/MatrixFormat;" (.ref oLOWER_ROW)) (E_oLOWER_ROW : Exa Z h0 oLOWER_ROW "com/example/parlay/parlay/problems/tsp/MatrixFormat") (S_LOWER_DIAG_COL : Sta Z h0 "com/example/parlay/parlay/problems/tsp/MatrixFormat" "LOWER_DIAG_COL" "Lcom/example/parlay/parlay/problems/tsp/MatrixFormat;" (.ref oLOWER_DIAG_COL)) (E_oLOWER_DIAG_COL : Exa Z h0 oLOWER_DIAG_COL "com/example/parlay/parlay/problems/tsp/MatrixFormat") (S_LOWER_COL : Sta Z h0 "com/example/parlay/parlay/problems/tsp/MatrixFormat" "LOWER_COL" "Lcom/example/parlay/parlay/problems/tsp/MatrixFormat;" (.ref oLOWER_COL)) (E_oLOWER_COL : Exa Z h0 oLOWER_COL "com/example/parlay/parlay/problems/tsp/MatrixFormat") (S_UPPER_DIAG_COL : Sta Z h0 "com/example/parlay/parlay/problems/tsp/MatrixFormat" "UPPER_DIAG_COL" "Lcom/example/parlay/parlay/problems/tsp/MatrixFormat;" (.ref oUPPER_DIAG_COL)) (E_oUPPER_DIAG_COL : Exa Z h0 oUPPER_DIAG_COL "com/example/parlay/parlay/problems/tsp/MatrixFormat") (S_UPPER_DIAG_ROW : Sta Z h0 "com/example/parlay/parlay/problems/tsp/MatrixFormat" "UPPER_DIAG_ROW" "Lcom/example/parlay/parlay/problems/tsp/MatrixFormat;" (.ref oUPPER_DIAG_ROW)) (E_oUPPER_DIAG_ROW : Exa Z h0 oUPPER_DIAG_ROW "com/example/parlay/parlay/problems/tsp/MatrixFormat") (S_LOWER_DIAG_ROW : Sta Z h0 "com/example/parlay/parlay/problems/tsp/MatrixFormat" "LOWER_DIAG_ROW" "Lcom/example/parlay/parlay/problems/tsp/MatrixFormat;" (.ref oLOWER_DIAG_ROW)) (E_oLOWER_DIAG_ROW : Exa Z h0 oLOWER_DIAG_ROW "com/example/parlay/parlay/problems/tsp/MatrixFormat") (S_UPPER_COL : Sta Z h0 "com/example/parlay/parlay/problems/tsp/MatrixFormat" "UPPER_COL" "Lcom/example/parlay/parlay/problems/tsp/MatrixFormat;" (.ref oUPPER_COL)) (E_oUPPER_COL : Exa Z h0 oUPPER_COL "com/example/parlay/parlay/problems/tsp/MatrixFormat") (F_oFULL_MATRIX_right : Fld Z h0 oFULL_MATRIX "com/example/parlay/parlay/problems/tsp/MatrixFormat" "right" "Z" (.int (1 : Int32))) (F_oUPPER_ROW_right : Fld Z h0 oUPPER_ROW "com/example/parlay/parlay/problems/tsp/MatrixFormat" "right" "Z" (.int (1 : Int32))) (F_oLOWER_ROW_right : Fld Z h0 oLOWER_ROW "com/example/parlay/parlay/problems/tsp/MatrixFormat" "right" "Z" (.int (0 : Int32))) (F_oLOWER_ROW_diagonal : Fld Z h0 oLOWER_ROW "com/example/parlay/parlay/problems/tsp/MatrixFormat" "diagonal" "Z" (.int (0 : Int32))) (F_oLOWER_DIAG_COL_right : Fld Z h0 oLOWER_DIAG_COL "com/example/parlay/parlay/problems/tsp/MatrixFormat" "right" "Z" (.int (1 : Int32))) (F_oLOWER_COL_right : Fld Z h0 oLOWER_COL "com/example/parlay/parlay/problems/tsp/MatrixFormat" "right" "Z" (.int (1 : Int32))) (F_oUPPER_DIAG_COL_right : Fld Z h0 oUPPER_DIAG_COL "com/example/parlay/parlay/problems/tsp/MatrixFormat" "right" "Z" (.int (0 : Int32))) (F_oUPPER_DIAG_COL_diagonal : Fld Z h0 oUPPER_DIAG_COL "com/example/parlay/parlay/problems/tsp/MatrixFormat" "diagonal" "Z" (.int (1 : Int32))) (F_oUPPER_DIAG_ROW_right : Fld Z h0 oUPPER_DIAG_ROW "com/example/parlay/parlay/problems/tsp/MatrixFormat" "right" "Z" (.int (1 : Int32))) (F_oLOWER_DIAG_ROW_right : Fld Z h0 oLOWER_DIAG_ROW "com/example/parlay/parlay/problems/tsp/MatrixFormat" "right" "Z" (.int (0 : Int32))) (F_oLOWER_DIAG_ROW_diagonal : Fld Z h0 oLOWER_DIAG_ROW "com/example/parlay/parlay/problems/tsp/MatrixFormat" "diagonal" "Z" (.int (1 : Int32))) (F_oUPPER_COL_right : Fld Z h0 oUPPER_COL "com/example/parlay/parlay/problems/tsp/MatrixFormat" "right" "Z" (.int (0 : Int32))) (F_oUPPER_COL_diagonal : Fld Z h0 oUPPER_COL "com/example/parlay/parlay/problems/tsp/MatrixFormat" "diagonal" "Z" (.int (0 : Int32))) (F_oFULL_MATRIX_diagonal : Fld Z h0 oFULL_MATRIX "com/example/parlay/parlay/problems/tsp/MatrixFormat" "diagonal" "Z" (.int (1 : Int32))) (F_oUPPER_ROW_diagonal : Fld Z h0 oUPPER_ROW "com/example/parlay/parlay/problems/tsp/MatrixFormat" "diagonal" "Z" (.int (0 : Int32))) (F_oLOWER_DIAG_COL_diagonal : Fld Z h0 oLOWER_DIAG_COL "com/example/parlay/parlay/problems/tsp/MatrixFormat" "diagonal" "Z" (.int (1 : Int32))) (F_oLOWER_COL_diagonal : Fld Z h0 oLOWER_COL "com/example/parlay/parlay/problems/tsp/MatrixFormat" "diagonal" "Z" (.int (0 : Int32))) (F_oUPPER_DIAG_ROW_diagonal : Fld Z h0 oUPPER_DIAG_ROW "com/example/parlay/parlay/problems/tsp/MatrixFormat" "diagonal" "Z" (.int (1 : Int32))) :
    MetFree l x (head1 (Jvm.Cond.code x code maxLocals ret :: ws) room_1) (fun a U => a = #[(.int va), (.int vb), (.int vc)] ∧ Z.Warmed39 U.vm ∧ U.heap = h0) (fun _ _ _ _ _ => True) (fun _ U o U' => ∃ v L, o = .returned v ∧ own_Q_law Z va vb vc oFULL_MATRIX oUPPER_ROW oLOWER_ROW oUPPER_DIAG_ROW oLOWER_DIAG_ROW oUPPER_COL oLOWER_COL oUPPER_DIAG_COL oLOWER_DIAG_COL h0 n0 v U'.heap L ∧ FrameEnd U o U' L room_1.cells room_1.slots) := by
  refine MetFree.of_bodySF (plainFor_of_name own_pn0) hisR ?_
  intro p e s m args below meth c s₁ Bd hml0 hP hK
  obtain ⟨rfl, hZ, hh⟩ := hP
  have hx := Bd.exec
  have hby := Bd.bytes
  have hml : c.maxLocals = 5 := hml0
  have hown : s.vm.findClass "com/example/parlay/parlay/problems/tsp/MatrixFormatEndPinLaw" = some m.cls := findClass_of_methodNamed Bd.named
  have hnm := (name_of_methodNamed Bd.named Bd.method).1
  have X0 : Stand p l e room_1 s m #[(.int va), (.int vb), (.int vc)] below meth c s₁ [] 0 0 := Stand.of_body Bd
  have e0 : s₁.heap = h0 := by rw [← hh, Bd.state]; rfl
  have N0 := Fr.nil n0
  show own_Fin p e below s (own_Q_law Z va vb vc oFULL_MATRIX oUPPER_ROW oLOWER_ROW oUPPER_DIAG_ROW oLOWER_DIAG_ROW oUPPER_COL oLOWER_COL oUPPER_DIAG_COL oLOWER_DIAG_COL h0 n0) room_1.cells room_1.slots (s₁.setTop (entryFrame m #[(.int va), (.int vb), (.int vc)] maxLocals))
  refine own_Fin.go (fun t k => castTop (own_ef_law m va vb vc) k) ?_
  refine own_Fin.go (fun t k => XS.iloadN X0.here hx rfl (hb hby at_0) rfl k) ?_
  show own_Fin _ _ _ _ _ _ _ (s₁.setTop (mkF m 1 #[.val (.int va), .val (.int vb), .val (.int vc), .unset, .unset] [(.int va)]))
  refine own_Fin.go (fun t k => X0.ldcInt hx hown (mvT hZ (hw _ (List.mem_of_getElem? (i := 0) rfl))) (g := (mkF m 1 #[.val (.int va), .val (.int vb), .val (.int vc), .unset, .unset] [(.int va)])) rfl (hb hby at_1) t k) ?_
  show own_Fin _ _ _ _ _ _ _ (s₁.setTop (mkF m 3 #[.val (.int va), .val (.int vb), .val (.int vc), .unset, .unset] [(.int (2147483647 : Int32)), (.int va)]))
  refine own_Fin.go (fun t k => XS.iand X0.here hx rfl (hb hby at_3) rfl k) ?_
  show own_Fin _ _ _ _ _ _ _ (s₁.setTop (mkF m 4 #[.val (.int va), .val (.int vb), .val (.int vc), .unset, .unset] [(.int (va &&& (2147483647 : Int32)))]))
  refine own_Fin.go (fun t k => XS.bipush X0.here hx rfl (hb hby at_4) k) ?_
  show own_Fin _ _ _ _ _ _ _ (s₁.setTop (mkF m 6 #[.val (.int va), .val (.int vb), .val (.int vc), .unset, .unset] [(.int (9 : Int32)), (.int (va &&& (2147483647 : Int32)))]))
  refine own_Fin.go (fun t k => iremM X0 hx rfl (hb hby at_6) rfl (by decide) k) ?_
  show own_Fin _ _ _ _ _ _ _ (s₁.setTop (mkF m 7 #[.val (.int va), .val (.int vb), .val (.int vc), .unset, .unset] [(.int ((va &&& (2147483647 : Int32)) % (9 : Int32)))]))
  refine own_Fin.go (fun t k => XS.istoreN X0.here hx rfl (hb hby at_7) rfl (l' := #[.val (.int va), .val (.int vb), .val (.int vc), .val (.int ((va &&& (2147483647 : Int32)) % (9 : Int32))), .unset]) rfl k) ?_
  show own_Fin _ _ _ _ _ _ _ (s₁.setTop (mkF m 8 #[.val (.int va), .val (.int vb), .val (.int vc), .val (.int ((va &&& (2147483647 : Int32)) % (9 : Int32))), .unset] []))
  by_cases hk0 : ((va &&& (2147483647 : Int32)) % (9 : Int32)) = (0 : Int32)
  · show own_Fin _ _ _ _ _ _ _ (s₁.setTop (mkF m 8 #[.val (.int va), .val (.int vb), .val (.int vc), .val (.int ((va &&& (2147483647 : Int32)) % (9 : Int32))), .unset] []))
    refine own_Fin.go (fun t k => XS.iloadN X0.here hx rfl (hb hby at_8) rfl k) ?_
    show own_Fin _ _ _ _ _ _ _ (s₁.setTop (mkF m 9 #[.val (.int va), .val (.int vb), .val (.int vc), .val (.int ((va &&& (2147483647 : Int32)) % (9 : Int32))), .unset] [(.int ((va &&& (2147483647 : Int32)) % (9 : Int32)))]))
    obtain ⟨_, _, ⟨T1, L1, k1, n1⟩, -, X1, ⟨Lc1, hQ1, l1, y1, z1⟩, st1⟩ := Jvm.LawKit.callS X0 hx (y := (⟨"com/example/parlay/parlay/problems/tsp/MatrixFormatEndPinLaw", "format", "(I)Lcom/example/parlay/parlay/problems/tsp/MatrixFormat;"⟩ : MethodName)) hown (mvT hZ (hw _ (List.mem_of_getElem? (i := 1) rfl))) (mvT hZ (hw _ (List.mem_of_getElem? (i := 2) rfl))) (mvT hZ (hw _ (List.mem_of_getElem? (i := 3) rfl))) (mvT hZ (hw _ (List.mem_of_getElem? (i := 4) rfl))) (by decide) (backOf (W := 0) (own_rm_fm0 l Z a0 hw [] ((va &&& (2147483647 : Int32)) % (9 : Int32)) oFULL_MATRIX h0 n0 Z0 S_FULL_MATRIX (by assumption)) hZ (hw _ (List.mem_of_getElem? (i := 4) rfl)) (hw _ (List.mem_of_getElem? (i := 3) rfl)) (by decide) (by decide)) (g := (mkF m 9 #[.val (.int va), .val (.int vb), .val (.int vc), .val (.int ((va &&& (2147483647 : Int32)) % (9 : Int32))), .unset] [(.int ((va &&& (2147483647 : Int32)) % (9 : Int32)))])) rfl (by rw [hml]; rfl) (argsL := [(.int ((va &&& (2147483647 : Int32)) % (9 : Int32)))]) (rest := []) (lenOf own_pd0 rfl) rfl (by show 2 * 0 + _ ≤ _; exact Nat.le_of_eq rfl) (hb hby at_9) (fun _ _ => ⟨rfl, e0, (by decide : 0 + 0 ≤ _), (by decide : 0 + 0 ≤ _)⟩)
    dsimp only [Pt.U, Pt.locs, Pt.cells, Pt.slots] at X1 l1 y1 z1 st1 hQ1
    subst l1 y1 z1
    obtain ⟨rfl, N1q, e1⟩ := hQ1
    refine own_Fin.go (fun t k => st1 t k) ?_
    have N1 := Fr.app N0 N1q
    show own_Fin _ _ _ _ _ _ _ (T1.setTop (mkF m 12 #[.val (.int va), .val (.int vb), .val (.int vc), .val (.int ((va &&& (2147483647 : Int32)) % (9 : Int32))), .unset] [(.ref oFULL_MATRIX)]))
    refine own_Fin.go (fun t k => XS.astore X1.here hx rfl (hb hby at_12) rfl rfl (l' := #[.val (.int va), .val (.int vb), .val (.int vc), .val (.int ((va &&& (2147483647 : Int32)) % (9 : Int32))), .val (.ref oFULL_MATRIX)]) rfl k) ?_
    show own_Fin _ _ _ _ _ _ _ (T1.setTop (mkF m 14 #[.val (.int va), .val (.int vb), .val (.int vc), .val (.int ((va &&& (2147483647 : Int32)) % (9 : Int32))), .val (.ref oFULL_MATRIX)] []))
    refine own_Fin.go (fun t k => XS.aload X1.here hx rfl (hb hby at_14) rfl rfl k) ?_
    show own_Fin _ _ _ _ _ _ _ (T1.setTop (mkF m 16 #[.val (.int va), .val (.int vb), .val (.int vc), .val (.int ((va &&& (2147483647 : Int32)) % (9 : Int32))), .val (.ref oFULL_MATRIX)] [(.ref oFULL_MATRIX)]))
    refine own_Fin.go (fun t k => XS.iloadN X1.here hx rfl (hb hby at_16) rfl k) ?_
    show own_Fin _ _ _ _ _ _ _ (T1.setTop (mkF m 17 #[.val (.int va), .val (.int vb), .val (.int vc), .val (.int ((va &&& (2147483647 : Int32)) % (9 : Int32))), .val (.ref oFULL_MATRIX)] [(.int vb), (.ref oFULL_MATRIX)]))
    refine own_Fin.go (fun t k => XS.iloadN X1.here hx rfl (hb hby at_17) rfl k) ?_
    show own_Fin _ _ _ _ _ _ _ (T1.setTop (mkF m 18 #[.val (.int va), .val (.int vb), .val (.int vc), .val (.int ((va &&& (2147483647 : Int32)) % (9 : Int32))), .val (.ref oFULL_MATRIX)] [(.int vc), (.int vb), (.ref oFULL_MATRIX)]))
    obtain ⟨cq2, kq2, q2a, q2b, q2c⟩ := isOf hZ e1 E_oFULL_MATRIX
    obtain ⟨_, _, ⟨T2, L2, k2, n2⟩, -, X2, ⟨Lc2, hQ2, l2, y2, z2⟩, st2⟩ := X1.virtualBack hx (y := (⟨"com/example/parlay/parlay/problems/tsp/MatrixFormat", "end", "(II)I"⟩ : MethodName)) (z := (⟨"com/example/parlay/parlay/problems/tsp/MatrixFormat", "end", "(II)I"⟩ : MethodName)) hown (mvT hZ (hw _ (List.mem_of_getElem? (i := 8) rfl))) (mvT hZ (hw _ (List.mem_of_getElem? (i := 9) rfl))) (notFace_of_selects (args := #[]) (mvT hZ (hw _ (List.mem_of_getElem? (i := 11) rfl)))) (mvT hZ (hw _ (List.mem_of_getElem? (i := 11) rfl))) (mvT hZ (hw _ (List.mem_of_getElem? (i := 10) rfl))) (by decide) (backOf (W := 0) (own_rm_en l Z a0 hw [] oFULL_MATRIX vb vc (1 : Int32) (1 : Int32) h0 n0 Z0 F_oFULL_MATRIX_right F_oFULL_MATRIX_diagonal) hZ (hw _ (List.mem_of_getElem? (i := 12) rfl)) (hw _ (List.mem_of_getElem? (i := 6) rfl)) (by decide) (by decide)) q2a q2c (g := (mkF m 18 #[.val (.int va), .val (.int vb), .val (.int vc), .val (.int ((va &&& (2147483647 : Int32)) % (9 : Int32))), .val (.ref oFULL_MATRIX)] [(.int vc), (.int vb), (.ref oFULL_MATRIX)])) rfl (by rw [hml]; rfl) (Steps.refl _) (argsL := [(.int vb), (.int vc)]) (rest := []) (lenOf own_pd1 rfl) rfl (by show 2 * 0 + _ ≤ _; exact Nat.le_of_eq rfl) (hb hby at_18) (fun _ _ => ⟨rfl, e1, (by decide : 0 + 0 ≤ _), (by decide : 0 + 0 ≤ _)⟩)
    dsimp only [Pt.U, Pt.locs, Pt.cells, Pt.slots] at X2 l2 y2 z2 st2 hQ2
    subst l2 y2 z2
    obtain ⟨rfl, N2q, e2⟩ := hQ2
    refine own_Fin.go (fun t k => st2.trans k) ?_
    have N2 := Fr.app N1 N2q
    show own_Fin _ _ _ _ _ _ _ (T2.setTop (mkF m 21 #[.val (.int va), .val (.int vb), .val (.int vc), .val (.int ((va &&& (2147483647 : Int32)) % (9 : Int32))), .val (.ref oFULL_MATRIX)] [(.int (own_en (1 : Int32) (1 : Int32) vb vc))]))
    refine own_Fin.go (fun t k => XS.iloadN X2.here hx rfl (hb hby at_21) rfl k) ?_
    show own_Fin _ _ _ _ _ _ _ (T2.setTop (mkF m 22 #[.val (.int va), .val (.int vb), .val (.int vc), .val (.int ((va &&& (2147483647 : Int32)) % (9 : Int32))), .val (.ref oFULL_MATRIX)] [(.int ((va &&& (2147483647 : Int32)) % (9 : Int32))), (.int (own_en (1 : Int32) (1 : Int32) vb vc))]))
    refine own_Fin.go (fun t k => XS.iloadN X2.here hx rfl (hb hby at_22) rfl k) ?_
    show own_Fin _ _ _ _ _ _ _ (T2.setTop (mkF m 23 #[.val (.int va), .val (.int vb), .val (.int vc), .val (.int ((va &&& (2147483647 : Int32)) % (9 : Int32))), .val (.ref oFULL_MATRIX)] [(.int vb), (.int ((va &&& (2147483647 : Int32)) % (9 : Int32))), (.int (own_en (1 : Int32) (1 : Int32) vb vc))]))
    refine own_Fin.go (fun t k => XS.iloadN X2.here hx rfl (hb hby at_23) rfl k) ?_
    show own_Fin _ _ _ _ _ _ _ (T2.setTop (mkF m 24 #[.val (.int va), .val (.int vb), .val (.int vc), .val (.int ((va &&& (2147483647 : Int32)) % (9 : Int32))), .val (.ref oFULL_MATRIX)] [(.int vc), (.int vb), (.int ((va &&& (2147483647 : Int32)) % (9 : Int32))), (.int (own_en (1 : Int32) (1 : Int32) vb vc))]))
    obtain ⟨_, _, ⟨T3, L3, k3, n3⟩, -, X3, ⟨Lc3, hQ3, l3, y3, z3⟩, st3⟩ := Jvm.LawKit.callS X2 hx (y := (⟨"com/example/parlay/parlay/problems/tsp/MatrixFormatEndPinLaw", "expected", "(III)I"⟩ : MethodName)) hown (mvT hZ (hw _ (List.mem_of_getElem? (i := 15) rfl))) (mvT hZ (hw _ (List.mem_of_getElem? (i := 16) rfl))) (mvT hZ (hw _ (List.mem_of_getElem? (i := 3) rfl))) (mvT hZ (hw _ (List.mem_of_getElem? (i := 17) rfl))) (by decide) (backOf (W := 1) (own_rm_ex l Z a0 hw [] ((va &&& (2147483647 : Int32)) % (9 : Int32)) vb vc  h0 n0 Z0 ) hZ (hw _ (List.mem_of_getElem? (i := 17) rfl)) (hw _ (List.mem_of_getElem? (i := 3) rfl)) (by decide) (by decide)) (g := (mkF m 24 #[.val (.int va), .val (.int vb), .val (.int vc), .val (.int ((va &&& (2147483647 : Int32)) % (9 : Int32))), .val (.ref oFULL_MATRIX)] [(.int vc), (.int vb), (.int ((va &&& (2147483647 : Int32)) % (9 : Int32))), (.int (own_en (1 : Int32) (1 : Int32) vb vc))])) rfl (by rw [hml]; rfl) (argsL := [(.int ((va &&& (2147483647 : Int32)) % (9 : Int32))), (.int vb), (.int vc)]) (rest := [(.int (own_en (1 : Int32) (1 : Int32) vb vc))]) (lenOf own_pd2 rfl) rfl (by show 2 * 0 + _ ≤ _; exact Nat.le_of_eq rfl) (hb hby at_24) (fun _ _ => ⟨rfl, e2, (by decide : 0 + 0 ≤ _), (by decide : 0 + 0 ≤ _)⟩)
    dsimp only [Pt.U, Pt.locs, Pt.cells, Pt.slots] at X3 l3 y3 z3 st3 hQ3
    subst l3 y3 z3
    obtain ⟨rfl, N3q, e3⟩ := hQ3
    refine own_Fin.go (fun t k => st3 t k) ?_
    have N3 := Fr.app N2 N3q
    show own_Fin _ _ _ _ _ _ _ (T3.setTop (mkF m 27 #[.val (.int va), .val (.int vb), .val (.int vc), .val (.int ((va &&& (2147483647 : Int32)) % (9 : Int32))), .val (.ref oFULL_MATRIX)] [(.int (own_exp ((va &&& (2147483647 : Int32)) % (9 : Int32)) vb vc)), (.int (own_en (1 : Int32) (1 : Int32) vb vc))]))
    have hc27 : (own_en (1 : Int32) (1 : Int32) vb vc) = (own_exp ((va &&& (2147483647 : Int32)) % (9 : Int32)) vb vc) := by rw [hk0]; rfl
    refine own_Fin.go (fun t k => XS.icmpNo X3.here hx rfl (hb hby at_27) rfl (Jvm.Free.XT.ii_ne_f hc27) k) ?_
    show own_Fin _ _ _ _ _ _ _ (T3.setTop (mkF m 30 #[.val (.int va), .val (.int vb), .val (.int vc), .val (.int ((va &&& (2147483647 : Int32)) % (9 : Int32))), .val (.ref oFULL_MATRIX)] []))
    refine own_Fin.go (fun t k => XS.iconst X3.here hx rfl (hb hby at_30) k) ?_
    show own_Fin _ _ _ _ _ _ _ (T3.setTop (mkF m 31 #[.val (.int va), .val (.int vb), .val (.int vc), .val (.int ((va &&& (2147483647 : Int32)) % (9 : Int32))), .val (.ref oFULL_MATRIX)] [(.int (1 : Int32))]))
    refine own_Fin.go (fun t k => XS.goto X3.here hx rfl (pc0 := 31) (pc' := 35) rfl (hb hby at_31) (by decide) (by decide) k) ?_
    show own_Fin _ _ _ _ _ _ _ (T3.setTop (mkF m 35 #[.val (.int va), .val (.int vb), .val (.int vc), .val (.int ((va &&& (2147483647 : Int32)) % (9 : Int32))), .val (.ref oFULL_MATRIX)] [(.int (1 : Int32))]))
    refine own_retN X3 hx (t := .boolean) (w := (1 : Int32)) Bd.returns (by simp) (hb hby at_35) Bd.notSynchronized rfl (by decide) (by decide) ?_
    rw [e3]
    exact ⟨rfl, N3⟩
  by_cases hk1 : ((va &&& (2147483647 : Int32)) % (9 : Int32)) = (1 : Int32)
  · show own_Fin _ _ _ _ _ _ _ (s₁.setTop (mkF m 8 #[.val (.int va), .val (.int vb), .val (.int vc), .val (.int ((va &&& (2147483647 : Int32)) % (9 : Int32))), .unset] []))
    refine own_Fin.go (fun t k => XS.iloadN X0.here hx rfl (hb hby at_8) rfl k) ?_
    show own_Fin _ _ _ _ _ _ _ (s₁.setTop (mkF m 9 #[.val (.int va), .val (.int vb), .val (.int vc), .val (.int ((va &&& (2147483647 : Int32)) % (9 : Int32))), .unset] [(.int ((va &&& (2147483647 : Int32)) % (9 : Int32)))]))
    obtain ⟨_, _, ⟨T4, L4, k4, n4⟩, -, X4, ⟨Lc4, hQ4, l4, y4, z4⟩, st4⟩ := Jvm.LawKit.callS X0 hx (y := (⟨"com/example/parlay/parlay/problems/tsp/MatrixFormatEndPinLaw", "format", "(I)Lcom/example/parlay/parlay/problems/tsp/MatrixFormat;"⟩ : MethodName)) hown (mvT hZ (hw _ (List.mem_of_getElem? (i := 1) rfl))) (mvT hZ (hw _ (List.mem_of_getElem? (i := 2) rfl))) (mvT hZ (hw _ (List.mem_of_getElem? (i := 3) rfl))) (mvT hZ (hw _ (List.mem_of_getElem? (i := 4) rfl))) (by decide) (backOf (W := 0) (own_rm_fm1 l Z a0 hw [] ((va &&& (2147483647 : Int32)) % (9 : Int32)) oUPPER_ROW h0 n0 Z0 S_UPPER_ROW (by assumption) (by assumption)) hZ (hw _ (List.mem_of_getElem? (i := 4) rfl)) (hw _ (List.mem_of_getElem? (i := 3) rfl)) (by decide) (by decide)) (g := (mkF m 9 #[.val (.int va), .val (.int vb), .val (.int vc), .val (.int ((va &&& (2147483647 : Int32)) % (9 : Int32))), .unset] [(.int ((va &&& (2147483647 : Int32)) % (9 : Int32)))])) rfl (by rw [hml]; rfl) (argsL := [(.int ((va &&& (2147483647 : Int32)) % (9 : Int32)))]) (rest := []) (lenOf own_pd0 rfl) rfl (by show 2 * 0 + _ ≤ _; exact Nat.le_of_eq rfl) (hb hby at_9) (fun _ _ => ⟨rfl, e0, (by decide : 0 + 0 ≤ _), (by decide : 0 + 0 ≤ _)⟩)
    dsimp only [Pt.U, Pt.locs, Pt.cells, Pt.slots] at X4 l4 y4 z4 st4 hQ4
    subst l4 y4 z4
    obtain ⟨rfl, N4q, e4⟩ := hQ4
    refine own_Fin.go (fun t k => st4 t k) ?_
    have N4 := Fr.app N0 N4q
    show own_Fin _ _ _ _ _ _ _ (T4.setTop (mkF m 12 #[.val (.int va), .val (.int vb), .val (.int vc), .val (.int ((va &&& (2147483647 : Int32)) % (9 : Int32))), .unset] [(.ref oUPPER_ROW)]))
    refine own_Fin.go (fun t k => XS.astore X4.here hx rfl (hb hby at_12) rfl rfl (l' := #[.val (.int va), .val (.int vb), .val (.int vc), .val (.int ((va &&& (2147483647 : Int32)) % (9 : Int32))), .val (.ref oUPPER_ROW)]) rfl k) ?_
    show own_Fin _ _ _ _ _ _ _ (T4.setTop (mkF m 14 #[.val (.int va), .val (.int vb), .val (.int vc), .val (.int ((va &&& (2147483647 : Int32)) % (9 : Int32))), .val (.ref oUPPER_ROW)] []))
    refine own_Fin.go (fun t k => XS.aload X4.here hx rfl (hb hby at_14) rfl rfl k) ?_
    show own_Fin _ _ _ _ _ _ _ (T4.setTop (mkF m 16 #[.val (.int va), .val (.int vb), .val (.int vc), .val (.int ((va &&& (2147483647 : Int32)) % (9 : Int32))), .val (.ref oUPPER_ROW)] [(.ref oUPPER_ROW)]))
    refine own_Fin.go (fun t k => XS.iloadN X4.here hx rfl (hb hby at_16) rfl k) ?_
    show own_Fin _ _ _ _ _ _ _ (T4.setTop (mkF m 17 #[.val (.int va), .val (.int vb), .val (.int vc), .val (.int ((va &&& (2147483647 : Int32)) % (9 : Int32))), .val (.ref oUPPER_ROW)] [(.int vb), (.ref oUPPER_ROW)]))
    refine own_Fin.go (fun t k => XS.iloadN X4.here hx rfl (hb hby at_17) rfl k) ?_
    show own_Fin _ _ _ _ _ _ _ (T4.setTop (mkF m 18 #[.val (.int va), .val (.int vb), .val (.int vc), .val (.int ((va &&& (2147483647 : Int32)) % (9 : Int32))), .val (.ref oUPPER_ROW)] [(.int vc), (.int vb), (.ref oUPPER_ROW)]))
    obtain ⟨cq5, kq5, q5a, q5b, q5c⟩ := isOf hZ e4 E_oUPPER_ROW
    obtain ⟨_, _, ⟨T5, L5, k5, n5⟩, -, X5, ⟨Lc5, hQ5, l5, y5, z5⟩, st5⟩ := X4.virtualBack hx (y := (⟨"com/example/parlay/parlay/problems/tsp/MatrixFormat", "end", "(II)I"⟩ : MethodName)) (z := (⟨"com/example/parlay/parlay/problems/tsp/MatrixFormat", "end", "(II)I"⟩ : MethodName)) hown (mvT hZ (hw _ (List.mem_of_getElem? (i := 8) rfl))) (mvT hZ (hw _ (List.mem_of_getElem? (i := 9) rfl))) (notFace_of_selects (args := #[]) (mvT hZ (hw _ (List.mem_of_getElem? (i := 11) rfl)))) (mvT hZ (hw _ (List.mem_of_getElem? (i := 11) rfl))) (mvT hZ (hw _ (List.mem_of_getElem? (i := 10) rfl))) (by decide) (backOf (W := 0) (own_rm_en l Z a0 hw [] oUPPER_ROW vb vc (1 : Int32) (0 : Int32) h0 n0 Z0 F_oUPPER_ROW_right F_oUPPER_ROW_diagonal) hZ (hw _ (List.mem_of_getElem? (i := 12) rfl)) (hw _ (List.mem_of_getElem? (i := 6) rfl)) (by decide) (by decide)) q5a q5c (g := (mkF m 18 #[.val (.int va), .val (.int vb), .val (.int vc), .val (.int ((va &&& (2147483647 : Int32)) % (9 : Int32))), .val (.ref oUPPER_ROW)] [(.int vc), (.int vb), (.ref oUPPER_ROW)])) rfl (by rw [hml]; rfl) (Steps.refl _) (argsL := [(.int vb), (.int vc)]) (rest := []) (lenOf own_pd1 rfl) rfl (by show 2 * 0 + _ ≤ _; exact Nat.le_of_eq rfl) (hb hby at_18) (fun _ _ => ⟨rfl, e4, (by decide : 0 + 0 ≤ _), (by decide : 0 + 0 ≤ _)⟩)
    dsimp only [Pt.U, Pt.locs, Pt.cells, Pt.slots] at X5 l5 y5 z5 st5 hQ5
    subst l5 y5 z5
    obtain ⟨rfl, N5q, e5⟩ := hQ5
    refine own_Fin.go (fun t k => st5.trans k) ?_
    have N5 := Fr.app N4 N5q
    show own_Fin _ _ _ _ _ _ _ (T5.setTop (mkF m 21 #[.val (.int va), .val (.int vb), .val (.int vc), .val (.int ((va &&& (2147483647 : Int32)) % (9 : Int32))), .val (.ref oUPPER_ROW)] [(.int (own_en (1 : Int32) (0 : Int32) vb vc))]))
    refine own_Fin.go (fun t k => XS.iloadN X5.here hx rfl (hb hby at_21) rfl k) ?_
    show own_Fin _ _ _ _ _ _ _ (T5.setTop (mkF m 22 #[.val (.int va), .val (.int vb), .val (.int vc), .val (.int ((va &&& (2147483647 : Int32)) % (9 : Int32))), .val (.ref oUPPER_ROW)] [(.int ((va &&& (2147483647 : Int32)) % (9 : Int32))), (.int (own_en (1 : Int32) (0 : Int32) vb vc))]))
    refine own_Fin.go (fun t k => XS.iloadN X5.here hx rfl (hb hby at_22) rfl k) ?_
    show own_Fin _ _ _ _ _ _ _ (T5.setTop (mkF m 23 #[.val (.int va), .val (.int vb), .val (.int vc), .val (.int ((va &&& (2147483647 : Int32)) % (9 : Int32))), .val (.ref oUPPER_ROW)] [(.int vb), (.int ((va &&& (2147483647 : Int32)) % (9 : Int32))), (.int (own_en (1 : Int32) (0 : Int32) vb vc))]))
    refine own_Fin.go (fun t k => XS.iloadN X5.here hx rfl (hb hby at_23) rfl k) ?_
    show own_Fin _ _ _ _ _ _ _ (T5.setTop (mkF m 24 #[.val (.int va), .val (.int vb), .val (.int vc), .val (.int ((va &&& (2147483647 : Int32)) % (9 : Int32))), .val (.ref oUPPER_ROW)] [(.int vc), (.int vb), (.int ((va &&& (2147483647 : Int32)) % (9 : Int32))), (.int (own_en (1 : Int32) (0 : Int32) vb vc))]))
    obtain ⟨_, _, ⟨T6, L6, k6, n6⟩, -, X6, ⟨Lc6, hQ6, l6, y6, z6⟩, st6⟩ := Jvm.LawKit.callS X5 hx (y := (⟨"com/example/parlay/parlay/problems/tsp/MatrixFormatEndPinLaw", "expected", "(III)I"⟩ : MethodName)) hown (mvT hZ (hw _ (List.mem_of_getElem? (i := 15) rfl))) (mvT hZ (hw _ (List.mem_of_getElem? (i := 16) rfl))) (mvT hZ (hw _ (List.mem_of_getElem? (i := 3) rfl))) (mvT hZ (hw _ (List.mem_of_getElem? (i := 17) rfl))) (by decide) (backOf (W := 1) (own_rm_ex l Z a0 hw [] ((va &&& (2147483647 : Int32)) % (9 : Int32)) vb vc  h0 n0 Z0 ) hZ (hw _ (List.mem_of_getElem? (i := 17) rfl)) (hw _ (List.mem_of_getElem? (i := 3) rfl)) (by decide) (by decide)) (g := (mkF m 24 #[.val (.int va), .val (.int vb), .val (.int vc), .val (.int ((va &&& (2147483647 : Int32)) % (9 : Int32))), .val (.ref oUPPER_ROW)] [(.int vc), (.int vb), (.int ((va &&& (2147483647 : Int32)) % (9 : Int32))), (.int (own_en (1 : Int32) (0 : Int32) vb vc))])) rfl (by rw [hml]; rfl) (argsL := [(.int ((va &&& (2147483647 : Int32)) % (9 : Int32))), (.int vb), (.int vc)]) (rest := [(.int (own_en (1 : Int32) (0 : Int32) vb vc))]) (lenOf own_pd2 rfl) rfl (by show 2 * 0 + _ ≤ _; exact Nat.le_of_eq rfl) (hb hby at_24) (fun _ _ => ⟨rfl, e5, (by decide : 0 + 0 ≤ _), (by decide : 0 + 0 ≤ _)⟩)
    dsimp only [Pt.U, Pt.locs, Pt.cells, Pt.slots] at X6 l6 y6 z6 st6 hQ6
    subst l6 y6 z6
    obtain ⟨rfl, N6q, e6⟩ := hQ6
    refine own_Fin.go (fun t k => st6 t k) ?_
    have N6 := Fr.app N5 N6q
    show own_Fin _ _ _ _ _ _ _ (T6.setTop (mkF m 27 #[.val (.int va), .val (.int vb), .val (.int vc), .val (.int ((va &&& (2147483647 : Int32)) % (9 : Int32))), .val (.ref oUPPER_ROW)] [(.int (own_exp ((va &&& (2147483647 : Int32)) % (9 : Int32)) vb vc)), (.int (own_en (1 : Int32) (0 : Int32) vb vc))]))
    have hc27 : (own_en (1 : Int32) (0 : Int32) vb vc) = (own_exp ((va &&& (2147483647 : Int32)) % (9 : Int32)) vb vc) := by rw [hk1]; rfl
    refine own_Fin.go (fun t k => XS.icmpNo X6.here hx rfl (hb hby at_27) rfl (Jvm.Free.XT.ii_ne_f hc27) k) ?_
    show own_Fin _ _ _ _ _ _ _ (T6.setTop (mkF m 30 #[.val (.int va), .val (.int vb), .val (.int vc), .val (.int ((va &&& (2147483647 : Int32)) % (9 : Int32))), .val (.ref oUPPER_ROW)] []))
    refine own_Fin.go (fun t k => XS.iconst X6.here hx rfl (hb hby at_30) k) ?_
    show own_Fin _ _ _ _ _ _ _ (T6.setTop (mkF m 31 #[.val (.int va), .val (.int vb), .val (.int vc), .val (.int ((va &&& (2147483647 : Int32)) % (9 : Int32))), .val (.ref oUPPER_ROW)] [(.int (1 : Int32))]))
    refine own_Fin.go (fun t k => XS.goto X6.here hx rfl (pc0 := 31) (pc' := 35) rfl (hb hby at_31) (by decide) (by decide) k) ?_
    show own_Fin _ _ _ _ _ _ _ (T6.setTop (mkF m 35 #[.val (.int va), .val (.int vb), .val (.int vc), .val (.int ((va &&& (2147483647 : Int32)) % (9 : Int32))), .val (.ref oUPPER_ROW)] [(.int (1 : Int32))]))
    refine own_retN X6 hx (t := .boolean) (w := (1 : Int32)) Bd.returns (by simp) (hb hby at_35) Bd.notSynchronized rfl (by decide) (by decide) ?_
    rw [e6]
    exact ⟨rfl, N6⟩
  by_cases hk2 : ((va &&& (2147483647 : Int32)) % (9 : Int32)) = (2 : Int32)
  · show own_Fin _ _ _ _ _ _ _ (s₁.setTop (mkF m 8 #[.val (.int va), .val (.int vb), .val (.int vc), .val (.int ((va &&& (2147483647 : Int32)) % (9 : Int32))), .unset] []))
    refine own_Fin.go (fun t k => XS.iloadN X0.here hx rfl (hb hby at_8) rfl k) ?_
    show own_Fin _ _ _ _ _ _ _ (s₁.setTop (mkF m 9 #[.val (.int va), .val (.int vb), .val (.int vc), .val (.int ((va &&& (2147483647 : Int32)) % (9 : Int32))), .unset] [(.int ((va &&& (2147483647 : Int32)) % (9 : Int32)))]))
    obtain ⟨_, _, ⟨T7, L7, k7, n7⟩, -, X7, ⟨Lc7, hQ7, l7, y7, z7⟩, st7⟩ := Jvm.LawKit.callS X0 hx (y := (⟨"com/example/parlay/parlay/problems/tsp/MatrixFormatEndPinLaw", "format", "(I)Lcom/example/parlay/parlay/problems/tsp/MatrixFormat;"⟩ : MethodName)) hown (mvT hZ (hw _ (List.mem_of_getElem? (i := 1) rfl))) (mvT hZ (hw _ (List.mem_of_getElem? (i := 2) rfl))) (mvT hZ (hw _ (List.mem_of_getElem? (i := 3) rfl))) (mvT hZ (hw _ (List.mem_of_getElem? (i := 4) rfl))) (by decide) (backOf (W := 0) (own_rm_fm2 l Z a0 hw [] ((va &&& (2147483647 : Int32)) % (9 : Int32)) oLOWER_ROW h0 n0 Z0 S_LOWER_ROW (by assumption) (by assumption) (by assumption)) hZ (hw _ (List.mem_of_getElem? (i := 4) rfl)) (hw _ (List.mem_of_getElem? (i := 3) rfl)) (by decide) (by decide)) (g := (mkF m 9 #[.val (.int va), .val (.int vb), .val (.int vc), .val (.int ((va &&& (2147483647 : Int32)) % (9 : Int32))), .unset] [(.int ((va &&& (2147483647 : Int32)) % (9 : Int32)))])) rfl (by rw [hml]; rfl) (argsL := [(.int ((va &&& (2147483647 : Int32)) % (9 : Int32)))]) (rest := []) (lenOf own_pd0 rfl) rfl (by show 2 * 0 + _ ≤ _; exact Nat.le_of_eq rfl) (hb hby at_9) (fun _ _ => ⟨rfl, e0, (by decide : 0 + 0 ≤ _), (by decide : 0 + 0 ≤ _)⟩)
    dsimp only [Pt.U, Pt.locs, Pt.cells, Pt.slots] at X7 l7 y7 z7 st7 hQ7
    subst l7 y7 z7
    obtain ⟨rfl, N7q, e7⟩ := hQ7
    refine own_Fin.go (fun t k => st7 t k) ?_
    have N7 := Fr.app N0 N7q
    show own_Fin _ _ _ _ _ _ _ (T7.setTop (mkF m 12 #[.val (.int va), .val (.int vb), .val (.int vc), .val (.int ((va &&& (2147483647 : Int32)) % (9 : Int32))), .unset] [(.ref oLOWER_ROW)]))
    refine own_Fin.go (fun t k => XS.astore X7.here hx rfl (hb hby at_12) rfl rfl (l' := #[.val (.int va), .val (.int vb), .val (.int vc), .val (.int ((va &&& (2147483647 : Int32)) % (9 : Int32))), .val (.ref oLOWER_ROW)]) rfl k) ?_
    show own_Fin _ _ _ _ _ _ _ (T7.setTop (mkF m 14 #[.val (.int va), .val (.int vb), .val (.int vc), .val (.int ((va &&& (2147483647 : Int32)) % (9 : Int32))), .val (.ref oLOWER_ROW)] []))
    refine own_Fin.go (fun t k => XS.aload X7.here hx rfl (hb hby at_14) rfl rfl k) ?_
    show own_Fin _ _ _ _ _ _ _ (T7.setTop (mkF m 16 #[.val (.int va), .val (.int vb), .val (.int vc), .val (.int ((va &&& (2147483647 : Int32)) % (9 : Int32))), .val (.ref oLOWER_ROW)] [(.ref oLOWER_ROW)]))
    refine own_Fin.go (fun t k => XS.iloadN X7.here hx rfl (hb hby at_16) rfl k) ?_
    show own_Fin _ _ _ _ _ _ _ (T7.setTop (mkF m 17 #[.val (.int va), .val (.int vb), .val (.int vc), .val (.int ((va &&& (2147483647 : Int32)) % (9 : Int32))), .val (.ref oLOWER_ROW)] [(.int vb), (.ref oLOWER_ROW)]))
    refine own_Fin.go (fun t k => XS.iloadN X7.here hx rfl (hb hby at_17) rfl k) ?_
    show own_Fin _ _ _ _ _ _ _ (T7.setTop (mkF m 18 #[.val (.int va), .val (.int vb), .val (.int vc), .val (.int ((va &&& (2147483647 : Int32)) % (9 : Int32))), .val (.ref oLOWER_ROW)] [(.int vc), (.int vb), (.ref oLOWER_ROW)]))
    obtain ⟨cq8, kq8, q8a, q8b, q8c⟩ := isOf hZ e7 E_oLOWER_ROW
    obtain ⟨_, _, ⟨T8, L8, k8, n8⟩, -, X8, ⟨Lc8, hQ8, l8, y8, z8⟩, st8⟩ := X7.virtualBack hx (y := (⟨"com/example/parlay/parlay/problems/tsp/MatrixFormat", "end", "(II)I"⟩ : MethodName)) (z := (⟨"com/example/parlay/parlay/problems/tsp/MatrixFormat", "end", "(II)I"⟩ : MethodName)) hown (mvT hZ (hw _ (List.mem_of_getElem? (i := 8) rfl))) (mvT hZ (hw _ (List.mem_of_getElem? (i := 9) rfl))) (notFace_of_selects (args := #[]) (mvT hZ (hw _ (List.mem_of_getElem? (i := 11) rfl)))) (mvT hZ (hw _ (List.mem_of_getElem? (i := 11) rfl))) (mvT hZ (hw _ (List.mem_of_getElem? (i := 10) rfl))) (by decide) (backOf (W := 0) (own_rm_en l Z a0 hw [] oLOWER_ROW vb vc (0 : Int32) (0 : Int32) h0 n0 Z0 F_oLOWER_ROW_right F_oLOWER_ROW_diagonal) hZ (hw _ (List.mem_of_getElem? (i := 12) rfl)) (hw _ (List.mem_of_getElem? (i := 6) rfl)) (by decide) (by decide)) q8a q8c (g := (mkF m 18 #[.val (.int va), .val (.int vb), .val (.int vc), .val (.int ((va &&& (2147483647 : Int32)) % (9 : Int32))), .val (.ref oLOWER_ROW)] [(.int vc), (.int vb), (.ref oLOWER_ROW)])) rfl (by rw [hml]; rfl) (Steps.refl _) (argsL := [(.int vb), (.int vc)]) (rest := []) (lenOf own_pd1 rfl) rfl (by show 2 * 0 + _ ≤ _; exact Nat.le_of_eq rfl) (hb hby at_18) (fun _ _ => ⟨rfl, e7, (by decide : 0 + 0 ≤ _), (by decide : 0 + 0 ≤ _)⟩)
    dsimp only [Pt.U, Pt.locs, Pt.cells, Pt.slots] at X8 l8 y8 z8 st8 hQ8
    subst l8 y8 z8
    obtain ⟨rfl, N8q, e8⟩ := hQ8
    refine own_Fin.go (fun t k => st8.trans k) ?_
    have N8 := Fr.app N7 N8q
    show own_Fin _ _ _ _ _ _ _ (T8.setTop (mkF m 21 #[.val (.int va), .val (.int vb), .val (.int vc), .val (.int ((va &&& (2147483647 : Int32)) % (9 : Int32))), .val (.ref oLOWER_ROW)] [(.int (own_en (0 : Int32) (0 : Int32) vb vc))]))
    refine own_Fin.go (fun t k => XS.iloadN X8.here hx rfl (hb hby at_21) rfl k) ?_
    show own_Fin _ _ _ _ _ _ _ (T8.setTop (mkF m 22 #[.val (.int va), .val (.int vb), .val (.int vc), .val (.int ((va &&& (2147483647 : Int32)) % (9 : Int32))), .val (.ref oLOWER_ROW)] [(.int ((va &&& (2147483647 : Int32)) % (9 : Int32))), (.int (own_en (0 : Int32) (0 : Int32) vb vc))]))
    refine own_Fin.go (fun t k => XS.iloadN X8.here hx rfl (hb hby at_22) rfl k) ?_
    show own_Fin _ _ _ _ _ _ _ (T8.setTop (mkF m 23 #[.val (.int va), .val (.int vb), .val (.int vc), .val (.int ((va &&& (2147483647 : Int32)) % (9 : Int32))), .val (.ref oLOWER_ROW)] [(.int vb), (.int ((va &&& (2147483647 : Int32)) % (9 : Int32))), (.int (own_en (0 : Int32) (0 : Int32) vb vc))]))
    refine own_Fin.go (fun t k => XS.iloadN X8.here hx rfl (hb hby at_23) rfl k) ?_
    show own_Fin _ _ _ _ _ _ _ (T8.setTop (mkF m 24 #[.val (.int va), .val (.int vb), .val (.int vc), .val (.int ((va &&& (2147483647 : Int32)) % (9 : Int32))), .val (.ref oLOWER_ROW)] [(.int vc), (.int vb), (.int ((va &&& (2147483647 : Int32)) % (9 : Int32))), (.int (own_en (0 : Int32) (0 : Int32) vb vc))]))
    obtain ⟨_, _, ⟨T9, L9, k9, n9⟩, -, X9, ⟨Lc9, hQ9, l9, y9, z9⟩, st9⟩ := Jvm.LawKit.callS X8 hx (y := (⟨"com/example/parlay/parlay/problems/tsp/MatrixFormatEndPinLaw", "expected", "(III)I"⟩ : MethodName)) hown (mvT hZ (hw _ (List.mem_of_getElem? (i := 15) rfl))) (mvT hZ (hw _ (List.mem_of_getElem? (i := 16) rfl))) (mvT hZ (hw _ (List.mem_of_getElem? (i := 3) rfl))) (mvT hZ (hw _ (List.mem_of_getElem? (i := 17) rfl))) (by decide) (backOf (W := 1) (own_rm_ex l Z a0 hw [] ((va &&& (2147483647 : Int32)) % (9 : Int32)) vb vc  h0 n0 Z0 ) hZ (hw _ (List.mem_of_getElem? (i := 17) rfl)) (hw _ (List.mem_of_getElem? (i := 3) rfl)) (by decide) (by decide)) (g := (mkF m 24 #[.val (.int va), .val (.int vb), .val (.int vc), .val (.int ((va &&& (2147483647 : Int32)) % (9 : Int32))), .val (.ref oLOWER_ROW)] [(.int vc), (.int vb), (.int ((va &&& (2147483647 : Int32)) % (9 : Int32))), (.int (own_en (0 : Int32) (0 : Int32) vb vc))])) rfl (by rw [hml]; rfl) (argsL := [(.int ((va &&& (2147483647 : Int32)) % (9 : Int32))), (.int vb), (.int vc)]) (rest := [(.int (own_en (0 : Int32) (0 : Int32) vb vc))]) (lenOf own_pd2 rfl) rfl (by show 2 * 0 + _ ≤ _; exact Nat.le_of_eq rfl) (hb hby at_24) (fun _ _ => ⟨rfl, e8, (by decide : 0 + 0 ≤ _), (by decide : 0 + 0 ≤ _)⟩)
    dsimp only [Pt.U, Pt.locs, Pt.cells, Pt.slots] at X9 l9 y9 z9 st9 hQ9
    subst l9 y9 z9
    obtain ⟨rfl, N9q, e9⟩ := hQ9
    refine own_Fin.go (fun t k => st9 t k) ?_
    have N9 := Fr.app N8 N9q
    show own_Fin _ _ _ _ _ _ _ (T9.setTop (mkF m 27 #[.val (.int va), .val (.int vb), .val (.int vc), .val (.int ((va &&& (2147483647 : Int32)) % (9 : Int32))), .val (.ref oLOWER_ROW)] [(.int (own_exp ((va &&& (2147483647 : Int32)) % (9 : Int32)) vb vc)), (.int (own_en (0 : Int32) (0 : Int32) vb vc))]))
    have hc27 : (own_en (0 : Int32) (0 : Int32) vb vc) = (own_exp ((va &&& (2147483647 : Int32)) % (9 : Int32)) vb vc) := by rw [hk2]; rfl
    refine own_Fin.go (fun t k => XS.icmpNo X9.here hx rfl (hb hby at_27) rfl (Jvm.Free.XT.ii_ne_f hc27) k) ?_
    show own_Fin _ _ _ _ _ _ _ (T9.setTop (mkF m 30 #[.val (.int va), .val (.int vb), .val (.int vc), .val (.int ((va &&& (2147483647 : Int32)) % (9 : Int32))), .val (.ref oLOWER_ROW)] []))
    refine own_Fin.go (fun t k => XS.iconst X9.here hx rfl (hb hby at_30) k) ?_
    show own_Fin _ _ _ _ _ _ _ (T9.setTop (mkF m 31 #[.val (.int va), .val (.int vb), .val (.int vc), .val (.int ((va &&& (2147483647 : Int32)) % (9 : Int32))), .val (.ref oLOWER_ROW)] [(.int (1 : Int32))]))
    refine own_Fin.go (fun t k => XS.goto X9.here hx rfl (pc0 := 31) (pc' := 35) rfl (hb hby at_31) (by decide) (by decide) k) ?_
    show own_Fin _ _ _ _ _ _ _ (T9.setTop (mkF m 35 #[.val (.int va), .val (.int vb), .val (.int vc), .val (.int ((va &&& (2147483647 : Int32)) % (9 : Int32))), .val (.ref oLOWER_ROW)] [(.int (1 : Int32))]))
    refine own_retN X9 hx (t := .boolean) (w := (1 : Int32)) Bd.returns (by simp) (hb hby at_35) Bd.notSynchronized rfl (by decide) (by decide) ?_
    rw [e9]
    exact ⟨rfl, N9⟩
  by_cases hk3 : ((va &&& (2147483647 : Int32)) % (9 : Int32)) = (3 : Int32)
  · show own_Fin _ _ _ _ _ _ _ (s₁.setTop (mkF m 8 #[.val (.int va), .val (.int vb), .val (.int vc), .val (.int ((va &&& (2147483647 : Int32)) % (9 : Int32))), .unset] []))
    refine own_Fin.go (fun t k => XS.iloadN X0.here hx rfl (hb hby at_8) rfl k) ?_
    show own_Fin _ _ _ _ _ _ _ (s₁.setTop (mkF m 9 #[.val (.int va), .val (.int vb), .val (.int vc), .val (.int ((va &&& (2147483647 : Int32)) % (9 : Int32))), .unset] [(.int ((va &&& (2147483647 : Int32)) % (9 : Int32)))]))
    obtain ⟨_, _, ⟨T10, L10, k10, n10⟩, -, X10, ⟨Lc10, hQ10, l10, y10, z10⟩, st10⟩ := Jvm.LawKit.callS X0 hx (y := (⟨"com/example/parlay/parlay/problems/tsp/MatrixFormatEndPinLaw", "format", "(I)Lcom/example/parlay/parlay/problems/tsp/MatrixFormat;"⟩ : MethodName)) hown (mvT hZ (hw _ (List.mem_of_getElem? (i := 1) rfl))) (mvT hZ (hw _ (List.mem_of_getElem? (i := 2) rfl))) (mvT hZ (hw _ (List.mem_of_getElem? (i := 3) rfl))) (mvT hZ (hw _ (List.mem_of_getElem? (i := 4) rfl))) (by decide) (backOf (W := 0) (own_rm_fm3 l Z a0 hw [] ((va &&& (2147483647 : Int32)) % (9 : Int32)) oUPPER_DIAG_ROW h0 n0 Z0 S_UPPER_DIAG_ROW (by assumption) (by assumption) (by assumption) (by assumption)) hZ (hw _ (List.mem_of_getElem? (i := 4) rfl)) (hw _ (List.mem_of_getElem? (i := 3) rfl)) (by decide) (by decide)) (g := (mkF m 9 #[.val (.int va), .val (.int vb), .val (.int vc), .val (.int ((va &&& (2147483647 : Int32)) % (9 : Int32))), .unset] [(.int ((va &&& (2147483647 : Int32)) % (9 : Int32)))])) rfl (by rw [hml]; rfl) (argsL := [(.int ((va &&& (2147483647 : Int32)) % (9 : Int32)))]) (rest := []) (lenOf own_pd0 rfl) rfl (by show 2 * 0 + _ ≤ _; exact Nat.le_of_eq rfl) (hb hby at_9) (fun _ _ => ⟨rfl, e0, (by decide : 0 + 0 ≤ _), (by decide : 0 + 0 ≤ _)⟩)
    dsimp only [Pt.U, Pt.locs, Pt.cells, Pt.slots] at X10 l10 y10 z10 st10 hQ10
    subst l10 y10 z10
    obtain ⟨rfl, N10q, e10⟩ := hQ10
    refine own_Fin.go (fun t k => st10 t k) ?_
    have N10 := Fr.app N0 N10q
    show own_Fin _ _ _ _ _ _ _ (T10.setTop (mkF m 12 #[.val (.int va), .val (.int vb), .val (.int vc), .val (.int ((va &&& (2147483647 : Int32)) % (9 : Int32))), .unset] [(.ref oUPPER_DIAG_ROW)]))
    refine own_Fin.go (fun t k => XS.astore X10.here hx rfl (hb hby at_12) rfl rfl (l' := #[.val (.int va), .val (.int vb), .val (.int vc), .val (.int ((va &&& (2147483647 : Int32)) % (9 : Int32))), .val (.ref oUPPER_DIAG_ROW)]) rfl k) ?_
    show own_Fin _ _ _ _ _ _ _ (T10.setTop (mkF m 14 #[.val (.int va), .val (.int vb), .val (.int vc), .val (.int ((va &&& (2147483647 : Int32)) % (9 : Int32))), .val (.ref oUPPER_DIAG_ROW)] []))
    refine own_Fin.go (fun t k => XS.aload X10.here hx rfl (hb hby at_14) rfl rfl k) ?_
    show own_Fin _ _ _ _ _ _ _ (T10.setTop (mkF m 16 #[.val (.int va), .val (.int vb), .val (.int vc), .val (.int ((va &&& (2147483647 : Int32)) % (9 : Int32))), .val (.ref oUPPER_DIAG_ROW)] [(.ref oUPPER_DIAG_ROW)]))
    refine own_Fin.go (fun t k => XS.iloadN X10.here hx rfl (hb hby at_16) rfl k) ?_
    show own_Fin _ _ _ _ _ _ _ (T10.setTop (mkF m 17 #[.val (.int va), .val (.int vb), .val (.int vc), .val (.int ((va &&& (2147483647 : Int32)) % (9 : Int32))), .val (.ref oUPPER_DIAG_ROW)] [(.int vb), (.ref oUPPER_DIAG_ROW)]))
    refine own_Fin.go (fun t k => XS.iloadN X10.here hx rfl (hb hby at_17) rfl k) ?_
    show own_Fin _ _ _ _ _ _ _ (T10.setTop (mkF m 18 #[.val (.int va), .val (.int vb), .val (.int vc), .val (.int ((va &&& (2147483647 : Int32)) % (9 : Int32))), .val (.ref oUPPER_DIAG_ROW)] [(.int vc), (.int vb), (.ref oUPPER_DIAG_ROW)]))
    obtain ⟨cq11, kq11, q11a, q11b, q11c⟩ := isOf hZ e10 E_oUPPER_DIAG_ROW
    obtain ⟨_, _, ⟨T11, L11, k11, n11⟩, -, X11, ⟨Lc11, hQ11, l11, y11, z11⟩, st11⟩ := X10.virtualBack hx (y := (⟨"com/example/parlay/parlay/problems/tsp/MatrixFormat", "end", "(II)I"⟩ : MethodName)) (z := (⟨"com/example/parlay/parlay/problems/tsp/MatrixFormat", "end", "(II)I"⟩ : MethodName)) hown (mvT hZ (hw _ (List.mem_of_getElem? (i := 8) rfl))) (mvT hZ (hw _ (List.mem_of_getElem? (i := 9) rfl))) (notFace_of_selects (args := #[]) (mvT hZ (hw _ (List.mem_of_getElem? (i := 11) rfl)))) (mvT hZ (hw _ (List.mem_of_getElem? (i := 11) rfl))) (mvT hZ (hw _ (List.mem_of_getElem? (i := 10) rfl))) (by decide) (backOf (W := 0) (own_rm_en l Z a0 hw [] oUPPER_DIAG_ROW vb vc (1 : Int32) (1 : Int32) h0 n0 Z0 F_oUPPER_DIAG_ROW_right F_oUPPER_DIAG_ROW_diagonal) hZ (hw _ (List.mem_of_getElem? (i := 12) rfl)) (hw _ (List.mem_of_getElem? (i := 6) rfl)) (by decide) (by decide)) q11a q11c (g := (mkF m 18 #[.val (.int va), .val (.int vb), .val (.int vc), .val (.int ((va &&& (2147483647 : Int32)) % (9 : Int32))), .val (.ref oUPPER_DIAG_ROW)] [(.int vc), (.int vb), (.ref oUPPER_DIAG_ROW)])) rfl (by rw [hml]; rfl) (Steps.refl _) (argsL := [(.int vb), (.int vc)]) (rest := []) (lenOf own_pd1 rfl) rfl (by show 2 * 0 + _ ≤ _; exact Nat.le_of_eq rfl) (hb hby at_18) (fun _ _ => ⟨rfl, e10, (by decide : 0 + 0 ≤ _), (by decide : 0 + 0 ≤ _)⟩)
    dsimp only [Pt.U, Pt.locs, Pt.cells, Pt.slots] at X11 l11 y11 z11 st11 hQ11
    subst l11 y11 z11
    obtain ⟨rfl, N11q, e11⟩ := hQ11
    refine own_Fin.go (fun t k => st11.trans k) ?_
    have N11 := Fr.app N10 N11q
    show own_Fin _ _ _ _ _ _ _ (T11.setTop (mkF m 21 #[.val (.int va), .val (.int vb), .val (.int vc), .val (.int ((va &&& (2147483647 : Int32)) % (9 : Int32))), .val (.ref oUPPER_DIAG_ROW)] [(.int (own_en (1 : Int32) (1 : Int32) vb vc))]))
    refine own_Fin.go (fun t k => XS.iloadN X11.here hx rfl (hb hby at_21) rfl k) ?_
    show own_Fin _ _ _ _ _ _ _ (T11.setTop (mkF m 22 #[.val (.int va), .val (.int vb), .val (.int vc), .val (.int ((va &&& (2147483647 : Int32)) % (9 : Int32))), .val (.ref oUPPER_DIAG_ROW)] [(.int ((va &&& (2147483647 : Int32)) % (9 : Int32))), (.int (own_en (1 : Int32) (1 : Int32) vb vc))]))
    refine own_Fin.go (fun t k => XS.iloadN X11.here hx rfl (hb hby at_22) rfl k) ?_
    show own_Fin _ _ _ _ _ _ _ (T11.setTop (mkF m 23 #[.val (.int va), .val (.int vb), .val (.int vc), .val (.int ((va &&& (2147483647 : Int32)) % (9 : Int32))), .val (.ref oUPPER_DIAG_ROW)] [(.int vb), (.int ((va &&& (2147483647 : Int32)) % (9 : Int32))), (.int (own_en (1 : Int32) (1 : Int32) vb vc))]))
    refine own_Fin.go (fun t k => XS.iloadN X11.here hx rfl (hb hby at_23) rfl k) ?_
    show own_Fin _ _ _ _ _ _ _ (T11.setTop (mkF m 24 #[.val (.int va), .val (.int vb), .val (.int vc), .val (.int ((va &&& (2147483647 : Int32)) % (9 : Int32))), .val (.ref oUPPER_DIAG_ROW)] [(.int vc), (.int vb), (.int ((va &&& (2147483647 : Int32)) % (9 : Int32))), (.int (own_en (1 : Int32) (1 : Int32) vb vc))]))
    obtain ⟨_, _, ⟨T12, L12, k12, n12⟩, -, X12, ⟨Lc12, hQ12, l12, y12, z12⟩, st12⟩ := Jvm.LawKit.callS X11 hx (y := (⟨"com/example/parlay/parlay/problems/tsp/MatrixFormatEndPinLaw", "expected", "(III)I"⟩ : MethodName)) hown (mvT hZ (hw _ (List.mem_of_getElem? (i := 15) rfl))) (mvT hZ (hw _ (List.mem_of_getElem? (i := 16) rfl))) (mvT hZ (hw _ (List.mem_of_getElem? (i := 3) rfl))) (mvT hZ (hw _ (List.mem_of_getElem? (i := 17) rfl))) (by decide) (backOf (W := 1) (own_rm_ex l Z a0 hw [] ((va &&& (2147483647 : Int32)) % (9 : Int32)) vb vc  h0 n0 Z0 ) hZ (hw _ (List.mem_of_getElem? (i := 17) rfl)) (hw _ (List.mem_of_getElem? (i := 3) rfl)) (by decide) (by decide)) (g := (mkF m 24 #[.val (.int va), .val (.int vb), .val (.int vc), .val (.int ((va &&& (2147483647 : Int32)) % (9 : Int32))), .val (.ref oUPPER_DIAG_ROW)] [(.int vc), (.int vb), (.int ((va &&& (2147483647 : Int32)) % (9 : Int32))), (.int (own_en (1 : Int32) (1 : Int32) vb vc))])) rfl (by rw [hml]; rfl) (argsL := [(.int ((va &&& (2147483647 : Int32)) % (9 : Int32))), (.int vb), (.int vc)]) (rest := [(.int (own_en (1 : Int32) (1 : Int32) vb vc))]) (lenOf own_pd2 rfl) rfl (by show 2 * 0 + _ ≤ _; exact Nat.le_of_eq rfl) (hb hby at_24) (fun _ _ => ⟨rfl, e11, (by decide : 0 + 0 ≤ _), (by decide : 0 + 0 ≤ _)⟩)
    dsimp only [Pt.U, Pt.locs, Pt.cells, Pt.slots] at X12 l12 y12 z12 st12 hQ12
    subst l12 y12 z12
    obtain ⟨rfl, N12q, e12⟩ := hQ12
    refine own_Fin.go (fun t k => st12 t k) ?_
    have N12 := Fr.app N11 N12q
    show own_Fin _ _ _ _ _ _ _ (T12.setTop (mkF m 27 #[.val (.int va), .val (.int vb), .val (.int vc), .val (.int ((va &&& (2147483647 : Int32)) % (9 : Int32))), .val (.ref oUPPER_DIAG_ROW)] [(.int (own_exp ((va &&& (2147483647 : Int32)) % (9 : Int32)) vb vc)), (.int (own_en (1 : Int32) (1 : Int32) vb vc))]))
    have hc27 : (own_en (1 : Int32) (1 : Int32) vb vc) = (own_exp ((va &&& (2147483647 : Int32)) % (9 : Int32)) vb vc) := by rw [hk3]; rfl
    refine own_Fin.go (fun t k => XS.icmpNo X12.here hx rfl (hb hby at_27) rfl (Jvm.Free.XT.ii_ne_f hc27) k) ?_
    show own_Fin _ _ _ _ _ _ _ (T12.setTop (mkF m 30 #[.val (.int va), .val (.int vb), .val (.int vc), .val (.int ((va &&& (2147483647 : Int32)) % (9 : Int32))), .val (.ref oUPPER_DIAG_ROW)] []))
    refine own_Fin.go (fun t k => XS.iconst X12.here hx rfl (hb hby at_30) k) ?_
    show own_Fin _ _ _ _ _ _ _ (T12.setTop (mkF m 31 #[.val (.int va), .val (.int vb), .val (.int vc), .val (.int ((va &&& (2147483647 : Int32)) % (9 : Int32))), .val (.ref oUPPER_DIAG_ROW)] [(.int (1 : Int32))]))
    refine own_Fin.go (fun t k => XS.goto X12.here hx rfl (pc0 := 31) (pc' := 35) rfl (hb hby at_31) (by decide) (by decide) k) ?_
    show own_Fin _ _ _ _ _ _ _ (T12.setTop (mkF m 35 #[.val (.int va), .val (.int vb), .val (.int vc), .val (.int ((va &&& (2147483647 : Int32)) % (9 : Int32))), .val (.ref oUPPER_DIAG_ROW)] [(.int (1 : Int32))]))
    refine own_retN X12 hx (t := .boolean) (w := (1 : Int32)) Bd.returns (by simp) (hb hby at_35) Bd.notSynchronized rfl (by decide) (by decide) ?_
    rw [e12]
    exact ⟨rfl, N12⟩
  by_cases hk4 : ((va &&& (2147483647 : Int32)) % (9 : Int32)) = (4 : Int32)
  · show own_Fin _ _ _ _ _ _ _ (s₁.setTop (mkF m 8 #[.val (.int va), .val (.int vb), .val (.int vc), .val (.int ((va &&& (2147483647 : Int32)) % (9 : Int32))), .unset] []))
    refine own_Fin.go (fun t k => XS.iloadN X0.here hx rfl (hb hby at_8) rfl k) ?_
    show own_Fin _ _ _ _ _ _ _ (s₁.setTop (mkF m 9 #[.val (.int va), .val (.int vb), .val (.int vc), .val (.int ((va &&& (2147483647 : Int32)) % (9 : Int32))), .unset] [(.int ((va &&& (2147483647 : Int32)) % (9 : Int32)))]))
    obtain ⟨_, _, ⟨T13, L13, k13, n13⟩, -, X13, ⟨Lc13, hQ13, l13, y13, z13⟩, st13⟩ := Jvm.LawKit.callS X0 hx (y := (⟨"com/example/parlay/parlay/problems/tsp/MatrixFormatEndPinLaw", "format", "(I)Lcom/example/parlay/parlay/problems/tsp/MatrixFormat;"⟩ : MethodName)) hown (mvT hZ (hw _ (List.mem_of_getElem? (i := 1) rfl))) (mvT hZ (hw _ (List.mem_of_getElem? (i := 2) rfl))) (mvT hZ (hw _ (List.mem_of_getElem? (i := 3) rfl))) (mvT hZ (hw _ (List.mem_of_getElem? (i := 4) rfl))) (by decide) (backOf (W := 0) (own_rm_fm4 l Z a0 hw [] ((va &&& (2147483647 : Int32)) % (9 : Int32)) oLOWER_DIAG_ROW h0 n0 Z0 S_LOWER_DIAG_ROW (by assumption) (by assumption) (by assumption) (by assumption) (by assumption)) hZ (hw _ (List.mem_of_getElem? (i := 4) rfl)) (hw _ (List.mem_of_getElem? (i := 3) rfl)) (by decide) (by decide)) (g := (mkF m 9 #[.val (.int va), .val (.int vb), .val (.int vc), .val (.int ((va &&& (2147483647 : Int32)) % (9 : Int32))), .unset] [(.int ((va &&& (2147483647 : Int32)) % (9 : Int32)))])) rfl (by rw [hml]; rfl) (argsL := [(.int ((va &&& (2147483647 : Int32)) % (9 : Int32)))]) (rest := []) (lenOf own_pd0 rfl) rfl (by show 2 * 0 + _ ≤ _; exact Nat.le_of_eq rfl) (hb hby at_9) (fun _ _ => ⟨rfl, e0, (by decide : 0 + 0 ≤ _), (by decide : 0 + 0 ≤ _)⟩)
    dsimp only [Pt.U, Pt.locs, Pt.cells, Pt.slots] at X13 l13 y13 z13 st13 hQ13
    subst l13 y13 z13
    obtain ⟨rfl, N13q, e13⟩ := hQ13
    refine own_Fin.go (fun t k => st13 t k) ?_
    have N13 := Fr.app N0 N13q
    show own_Fin _ _ _ _ _ _ _ (T13.setTop (mkF m 12 #[.val (.int va), .val (.int vb), .val (.int vc), .val (.int ((va &&& (2147483647 : Int32)) % (9 : Int32))), .unset] [(.ref oLOWER_DIAG_ROW)]))
    refine own_Fin.go (fun t k => XS.astore X13.here hx rfl (hb hby at_12) rfl rfl (l' := #[.val (.int va), .val (.int vb), .val (.int vc), .val (.int ((va &&& (2147483647 : Int32)) % (9 : Int32))), .val (.ref oLOWER_DIAG_ROW)]) rfl k) ?_
    show own_Fin _ _ _ _ _ _ _ (T13.setTop (mkF m 14 #[.val (.int va), .val (.int vb), .val (.int vc), .val (.int ((va &&& (2147483647 : Int32)) % (9 : Int32))), .val (.ref oLOWER_DIAG_ROW)] []))
    refine own_Fin.go (fun t k => XS.aload X13.here hx rfl (hb hby at_14) rfl rfl k) ?_
    show own_Fin _ _ _ _ _ _ _ (T13.setTop (mkF m 16 #[.val (.int va), .val (.int vb), .val (.int vc), .val (.int ((va &&& (2147483647 : Int32)) % (9 : Int32))), .val (.ref oLOWER_DIAG_ROW)] [(.ref oLOWER_DIAG_ROW)]))
    refine own_Fin.go (fun t k => XS.iloadN X13.here hx rfl (hb hby at_16) rfl k) ?_
    show own_Fin _ _ _ _ _ _ _ (T13.setTop (mkF m 17 #[.val (.int va), .val (.int vb), .val (.int vc), .val (.int ((va &&& (2147483647 : Int32)) % (9 : Int32))), .val (.ref oLOWER_DIAG_ROW)] [(.int vb), (.ref oLOWER_DIAG_ROW)]))
    refine own_Fin.go (fun t k => XS.iloadN X13.here hx rfl (hb hby at_17) rfl k) ?_
    show own_Fin _ _ _ _ _ _ _ (T13.setTop (mkF m 18 #[.val (.int va), .val (.int vb), .val (.int vc), .val (.int ((va &&& (2147483647 : Int32)) % (9 : Int32))), .val (.ref oLOWER_DIAG_ROW)] [(.int vc), (.int vb), (.ref oLOWER_DIAG_ROW)]))
    obtain ⟨cq14, kq14, q14a, q14b, q14c⟩ := isOf hZ e13 E_oLOWER_DIAG_ROW
    obtain ⟨_, _, ⟨T14, L14, k14, n14⟩, -, X14, ⟨Lc14, hQ14, l14, y14, z14⟩, st14⟩ := X13.virtualBack hx (y := (⟨"com/example/parlay/parlay/problems/tsp/MatrixFormat", "end", "(II)I"⟩ : MethodName)) (z := (⟨"com/example/parlay/parlay/problems/tsp/MatrixFormat", "end", "(II)I"⟩ : MethodName)) hown (mvT hZ (hw _ (List.mem_of_getElem? (i := 8) rfl))) (mvT hZ (hw _ (List.mem_of_getElem? (i := 9) rfl))) (notFace_of_selects (args := #[]) (mvT hZ (hw _ (List.mem_of_getElem? (i := 11) rfl)))) (mvT hZ (hw _ (List.mem_of_getElem? (i := 11) rfl))) (mvT hZ (hw _ (List.mem_of_getElem? (i := 10) rfl))) (by decide) (backOf (W := 0) (own_rm_en l Z a0 hw [] oLOWER_DIAG_ROW vb vc (0 : Int32) (1 : Int32) h0 n0 Z0 F_oLOWER_DIAG_ROW_right F_oLOWER_DIAG_ROW_diagonal) hZ (hw _ (List.mem_of_getElem? (i := 12) rfl)) (hw _ (List.mem_of_getElem? (i := 6) rfl)) (by decide) (by decide)) q14a q14c (g := (mkF m 18 #[.val (.int va), .val (.int vb), .val (.int vc), .val (.int ((va &&& (2147483647 : Int32)) % (9 : Int32))), .val (.ref oLOWER_DIAG_ROW)] [(.int vc), (.int vb), (.ref oLOWER_DIAG_ROW)])) rfl (by rw [hml]; rfl) (Steps.refl _) (argsL := [(.int vb), (.int vc)]) (rest := []) (lenOf own_pd1 rfl) rfl (by show 2 * 0 + _ ≤ _; exact Nat.le_of_eq rfl) (hb hby at_18) (fun _ _ => ⟨rfl, e13, (by decide : 0 + 0 ≤ _), (by decide : 0 + 0 ≤ _)⟩)
    dsimp only [Pt.U, Pt.locs, Pt.cells, Pt.slots] at X14 l14 y14 z14 st14 hQ14
    subst l14 y14 z14
    obtain ⟨rfl, N14q, e14⟩ := hQ14
    refine own_Fin.go (fun t k => st14.trans k) ?_
    have N14 := Fr.app N13 N14q
    show own_Fin _ _ _ _ _ _ _ (T14.setTop (mkF m 21 #[.val (.int va), .val (.int vb), .val (.int vc), .val (.int ((va &&& (2147483647 : Int32)) % (9 : Int32))), .val (.ref oLOWER_DIAG_ROW)] [(.int (own_en (0 : Int32) (1 : Int32) vb vc))]))
    refine own_Fin.go (fun t k => XS.iloadN X14.here hx rfl (hb hby at_21) rfl k) ?_
    show own_Fin _ _ _ _ _ _ _ (T14.setTop (mkF m 22 #[.val (.int va), .val (.int vb), .val (.int vc), .val (.int ((va &&& (2147483647 : Int32)) % (9 : Int32))), .val (.ref oLOWER_DIAG_ROW)] [(.int ((va &&& (2147483647 : Int32)) % (9 : Int32))), (.int (own_en (0 : Int32) (1 : Int32) vb vc))]))
    refine own_Fin.go (fun t k => XS.iloadN X14.here hx rfl (hb hby at_22) rfl k) ?_
    show own_Fin _ _ _ _ _ _ _ (T14.setTop (mkF m 23 #[.val (.int va), .val (.int vb), .val (.int vc), .val (.int ((va &&& (2147483647 : Int32)) % (9 : Int32))), .val (.ref oLOWER_DIAG_ROW)] [(.int vb), (.int ((va &&& (2147483647 : Int32)) % (9 : Int32))), (.int (own_en (0 : Int32) (1 : Int32) vb vc))]))
    refine own_Fin.go (fun t k => XS.iloadN X14.here hx rfl (hb hby at_23) rfl k) ?_
    show own_Fin _ _ _ _ _ _ _ (T14.setTop (mkF m 24 #[.val (.int va), .val (.int vb), .val (.int vc), .val (.int ((va &&& (2147483647 : Int32)) % (9 : Int32))), .val (.ref oLOWER_DIAG_ROW)] [(.int vc), (.int vb), (.int ((va &&& (2147483647 : Int32)) % (9 : Int32))), (.int (own_en (0 : Int32) (1 : Int32) vb vc))]))
    obtain ⟨_, _, ⟨T15, L15, k15, n15⟩, -, X15, ⟨Lc15, hQ15, l15, y15, z15⟩, st15⟩ := Jvm.LawKit.callS X14 hx (y := (⟨"com/example/parlay/parlay/problems/tsp/MatrixFormatEndPinLaw", "expected", "(III)I"⟩ : MethodName)) hown (mvT hZ (hw _ (List.mem_of_getElem? (i := 15) rfl))) (mvT hZ (hw _ (List.mem_of_getElem? (i := 16) rfl))) (mvT hZ (hw _ (List.mem_of_getElem? (i := 3) rfl))) (mvT hZ (hw _ (List.mem_of_getElem? (i := 17) rfl))) (by decide) (backOf (W := 1) (own_rm_ex l Z a0 hw [] ((va &&& (2147483647 : Int32)) % (9 : Int32)) vb vc  h0 n0 Z0 ) hZ (hw _ (List.mem_of_getElem? (i := 17) rfl)) (hw _ (List.mem_of_getElem? (i := 3) rfl)) (by decide) (by decide)) (g := (mkF m 24 #[.val (.int va), .val (.int vb), .val (.int vc), .val (.int ((va &&& (2147483647 : Int32)) % (9 : Int32))), .val (.ref oLOWER_DIAG_ROW)] [(.int vc), (.int vb), (.int ((va &&& (2147483647 : Int32)) % (9 : Int32))), (.int (own_en (0 : Int32) (1 : Int32) vb vc))])) rfl (by rw [hml]; rfl) (argsL := [(.int ((va &&& (2147483647 : Int32)) % (9 : Int32))), (.int vb), (.int vc)]) (rest := [(.int (own_en (0 : Int32) (1 : Int32) vb vc))]) (lenOf own_pd2 rfl) rfl (by show 2 * 0 + _ ≤ _; exact Nat.le_of_eq rfl) (hb hby at_24) (fun _ _ => ⟨rfl, e14, (by decide : 0 + 0 ≤ _), (by decide : 0 + 0 ≤ _)⟩)
    dsimp only [Pt.U, Pt.locs, Pt.cells, Pt.slots] at X15 l15 y15 z15 st15 hQ15
    subst l15 y15 z15
    obtain ⟨rfl, N15q, e15⟩ := hQ15
    refine own_Fin.go (fun t k => st15 t k) ?_
    have N15 := Fr.app N14 N15q
    show own_Fin _ _ _ _ _ _ _ (T15.setTop (mkF m 27 #[.val (.int va), .val (.int vb), .val (.int vc), .val (.int ((va &&& (2147483647 : Int32)) % (9 : Int32))), .val (.ref oLOWER_DIAG_ROW)] [(.int (own_exp ((va &&& (2147483647 : Int32)) % (9 : Int32)) vb vc)), (.int (own_en (0 : Int32) (1 : Int32) vb vc))]))
    have hc27 : (own_en (0 : Int32) (1 : Int32) vb vc) = (own_exp ((va &&& (2147483647 : Int32)) % (9 : Int32)) vb vc) := by rw [hk4]; rfl
    refine own_Fin.go (fun t k => XS.icmpNo X15.here hx rfl (hb hby at_27) rfl (Jvm.Free.XT.ii_ne_f hc27) k) ?_
    show own_Fin _ _ _ _ _ _ _ (T15.setTop (mkF m 30 #[.val (.int va), .val (.int vb), .val (.int vc), .val (.int ((va &&& (2147483647 : Int32)) % (9 : Int32))), .val (.ref oLOWER_DIAG_ROW)] []))
    refine own_Fin.go (fun t k => XS.iconst X15.here hx rfl (hb hby at_30) k) ?_
    show own_Fin _ _ _ _ _ _ _ (T15.setTop (mkF m 31 #[.val (.int va), .val (.int vb), .val (.int vc), .val (.int ((va &&& (2147483647 : Int32)) % (9 : Int32))), .val (.ref oLOWER_DIAG_ROW)] [(.int (1 : Int32))]))
    refine own_Fin.go (fun t k => XS.goto X15.here hx rfl (pc0 := 31) (pc' := 35) rfl (hb hby at_31) (by decide) (by decide) k) ?_
    show own_Fin _ _ _ _ _ _ _ (T15.setTop (mkF m 35 #[.val (.int va), .val (.int vb), .val (.int vc), .val (.int ((va &&& (2147483647 : Int32)) % (9 : Int32))), .val (.ref oLOWER_DIAG_ROW)] [(.int (1 : Int32))]))
    refine own_retN X15 hx (t := .boolean) (w := (1 : Int32)) Bd.returns (by simp) (hb hby at_35) Bd.notSynchronized rfl (by decide) (by decide) ?_
    rw [e15]
    exact ⟨rfl, N15⟩
  by_cases hk5 : ((va &&& (2147483647 : Int32)) % (9 : Int32)) = (5 : Int32)
  · show own_Fin _ _ _ _ _ _ _ (s₁.setTop (mkF m 8 #[.val (.int va), .val (.int vb), .val (.int vc), .val (.int ((va &&& (2147483647 : Int32)) % (9 : Int32))), .unset] []))
    refine own_Fin.go (fun t k => XS.iloadN X0.here hx rfl (hb hby at_8) rfl k) ?_
    show own_Fin _ _ _ _ _ _ _ (s₁.setTop (mkF m 9 #[.val (.int va), .val (.int vb), .val (.int vc), .val (.int ((va &&& (2147483647 : Int32)) % (9 : Int32))), .unset] [(.int ((va &&& (2147483647 : Int32)) % (9 : Int32)))]))
    obtain ⟨_, _, ⟨T16, L16, k16, n16⟩, -, X16, ⟨Lc16, hQ16, l16, y16, z16⟩, st16⟩ := Jvm.LawKit.callS X0 hx (y := (⟨"com/example/parlay/parlay/problems/tsp/MatrixFormatEndPinLaw", "format", "(I)Lcom/example/parlay/parlay/problems/tsp/MatrixFormat;"⟩ : MethodName)) hown (mvT hZ (hw _ (List.mem_of_getElem? (i := 1) rfl))) (mvT hZ (hw _ (List.mem_of_getElem? (i := 2) rfl))) (mvT hZ (hw _ (List.mem_of_getElem? (i := 3) rfl))) (mvT hZ (hw _ (List.mem_of_getElem? (i := 4) rfl))) (by decide) (backOf (W := 0) (own_rm_fm5 l Z a0 hw [] ((va &&& (2147483647 : Int32)) % (9 : Int32)) oUPPER_COL h0 n0 Z0 S_UPPER_COL (by assumption) (by assumption) (by assumption) (by assumption) (by assumption) (by assumption)) hZ (hw _ (List.mem_of_getElem? (i := 4) rfl)) (hw _ (List.mem_of_getElem? (i := 3) rfl)) (by decide) (by decide)) (g := (mkF m 9 #[.val (.int va), .val (.int vb), .val (.int vc), .val (.int ((va &&& (2147483647 : Int32)) % (9 : Int32))), .unset] [(.int ((va &&& (2147483647 : Int32)) % (9 : Int32)))])) rfl (by rw [hml]; rfl) (argsL := [(.int ((va &&& (2147483647 : Int32)) % (9 : Int32)))]) (rest := []) (lenOf own_pd0 rfl) rfl (by show 2 * 0 + _ ≤ _; exact Nat.le_of_eq rfl) (hb hby at_9) (fun _ _ => ⟨rfl, e0, (by decide : 0 + 0 ≤ _), (by decide : 0 + 0 ≤ _)⟩)
    dsimp only [Pt.U, Pt.locs, Pt.cells, Pt.slots] at X16 l16 y16 z16 st16 hQ16
    subst l16 y16 z16
    obtain ⟨rfl, N16q, e16⟩ := hQ16
    refine own_Fin.go (fun t k => st16 t k) ?_
    have N16 := Fr.app N0 N16q
    show own_Fin _ _ _ _ _ _ _ (T16.setTop (mkF m 12 #[.val (.int va), .val (.int vb), .val (.int vc), .val (.int ((va &&& (2147483647 : Int32)) % (9 : Int32))), .unset] [(.ref oUPPER_COL)]))
    refine own_Fin.go (fun t k => XS.astore X16.here hx rfl (hb hby at_12) rfl rfl (l' := #[.val (.int va), .val (.int vb), .val (.int vc), .val (.int ((va &&& (2147483647 : Int32)) % (9 : Int32))), .val (.ref oUPPER_COL)]) rfl k) ?_
    show own_Fin _ _ _ _ _ _ _ (T16.setTop (mkF m 14 #[.val (.int va), .val (.int vb), .val (.int vc), .val (.int ((va &&& (2147483647 : Int32)) % (9 : Int32))), .val (.ref oUPPER_COL)] []))
    refine own_Fin.go (fun t k => XS.aload X16.here hx rfl (hb hby at_14) rfl rfl k) ?_
    show own_Fin _ _ _ _ _ _ _ (T16.setTop (mkF m 16 #[.val (.int va), .val (.int vb), .val (.int vc), .val (.int ((va &&& (2147483647 : Int32)) % (9 : Int32))), .val (.ref oUPPER_COL)] [(.ref oUPPER_COL)]))
    refine own_Fin.go (fun t k => XS.iloadN X16.here hx rfl (hb hby at_16) rfl k) ?_
    show own_Fin _ _ _ _ _ _ _ (T16.setTop (mkF m 17 #[.val (.int va), .val (.int vb), .val (.int vc), .val (.int ((va &&& (2147483647 : Int32)) % (9 : Int32))), .val (.ref oUPPER_COL)] [(.int vb), (.ref oUPPER_COL)]))
    refine own_Fin.go (fun t k => XS.iloadN X16.here hx rfl (hb hby at_17) rfl k) ?_
    show own_Fin _ _ _ _ _ _ _ (T16.setTop (mkF m 18 #[.val (.int va), .val (.int vb), .val (.int vc), .val (.int ((va &&& (2147483647 : Int32)) % (9 : Int32))), .val (.ref oUPPER_COL)] [(.int vc), (.int vb), (.ref oUPPER_COL)]))
    obtain ⟨cq17, kq17, q17a, q17b, q17c⟩ := isOf hZ e16 E_oUPPER_COL
    obtain ⟨_, _, ⟨T17, L17, k17, n17⟩, -, X17, ⟨Lc17, hQ17, l17, y17, z17⟩, st17⟩ := X16.virtualBack hx (y := (⟨"com/example/parlay/parlay/problems/tsp/MatrixFormat", "end", "(II)I"⟩ : MethodName)) (z := (⟨"com/example/parlay/parlay/problems/tsp/MatrixFormat", "end", "(II)I"⟩ : MethodName)) hown (mvT hZ (hw _ (List.mem_of_getElem? (i := 8) rfl))) (mvT hZ (hw _ (List.mem_of_getElem? (i := 9) rfl))) (notFace_of_selects (args := #[]) (mvT hZ (hw _ (List.mem_of_getElem? (i := 11) rfl)))) (mvT hZ (hw _ (List.mem_of_getElem? (i := 11) rfl))) (mvT hZ (hw _ (List.mem_of_getElem? (i := 10) rfl))) (by decide) (backOf (W := 0) (own_rm_en l Z a0 hw [] oUPPER_COL vb vc (0 : Int32) (0 : Int32) h0 n0 Z0 F_oUPPER_COL_right F_oUPPER_COL_diagonal) hZ (hw _ (List.mem_of_getElem? (i := 12) rfl)) (hw _ (List.mem_of_getElem? (i := 6) rfl)) (by decide) (by decide)) q17a q17c (g := (mkF m 18 #[.val (.int va), .val (.int vb), .val (.int vc), .val (.int ((va &&& (2147483647 : Int32)) % (9 : Int32))), .val (.ref oUPPER_COL)] [(.int vc), (.int vb), (.ref oUPPER_COL)])) rfl (by rw [hml]; rfl) (Steps.refl _) (argsL := [(.int vb), (.int vc)]) (rest := []) (lenOf own_pd1 rfl) rfl (by show 2 * 0 + _ ≤ _; exact Nat.le_of_eq rfl) (hb hby at_18) (fun _ _ => ⟨rfl, e16, (by decide : 0 + 0 ≤ _), (by decide : 0 + 0 ≤ _)⟩)
    dsimp only [Pt.U, Pt.locs, Pt.cells, Pt.slots] at X17 l17 y17 z17 st17 hQ17
    subst l17 y17 z17
    obtain ⟨rfl, N17q, e17⟩ := hQ17
    refine own_Fin.go (fun t k => st17.trans k) ?_
    have N17 := Fr.app N16 N17q
    show own_Fin _ _ _ _ _ _ _ (T17.setTop (mkF m 21 #[.val (.int va), .val (.int vb), .val (.int vc), .val (.int ((va &&& (2147483647 : Int32)) % (9 : Int32))), .val (.ref oUPPER_COL)] [(.int (own_en (0 : Int32) (0 : Int32) vb vc))]))
    refine own_Fin.go (fun t k => XS.iloadN X17.here hx rfl (hb hby at_21) rfl k) ?_
    show own_Fin _ _ _ _ _ _ _ (T17.setTop (mkF m 22 #[.val (.int va), .val (.int vb), .val (.int vc), .val (.int ((va &&& (2147483647 : Int32)) % (9 : Int32))), .val (.ref oUPPER_COL)] [(.int ((va &&& (2147483647 : Int32)) % (9 : Int32))), (.int (own_en (0 : Int32) (0 : Int32) vb vc))]))
    refine own_Fin.go (fun t k => XS.iloadN X17.here hx rfl (hb hby at_22) rfl k) ?_
    show own_Fin _ _ _ _ _ _ _ (T17.setTop (mkF m 23 #[.val (.int va), .val (.int vb), .val (.int vc), .val (.int ((va &&& (2147483647 : Int32)) % (9 : Int32))), .val (.ref oUPPER_COL)] [(.int vb), (.int ((va &&& (2147483647 : Int32)) % (9 : Int32))), (.int (own_en (0 : Int32) (0 : Int32) vb vc))]))
    refine own_Fin.go (fun t k => XS.iloadN X17.here hx rfl (hb hby at_23) rfl k) ?_
    show own_Fin _ _ _ _ _ _ _ (T17.setTop (mkF m 24 #[.val (.int va), .val (.int vb), .val (.int vc), .val (.int ((va &&& (2147483647 : Int32)) % (9 : Int32))), .val (.ref oUPPER_COL)] [(.int vc), (.int vb), (.int ((va &&& (2147483647 : Int32)) % (9 : Int32))), (.int (own_en (0 : Int32) (0 : Int32) vb vc))]))
    obtain ⟨_, _, ⟨T18, L18, k18, n18⟩, -, X18, ⟨Lc18, hQ18, l18, y18, z18⟩, st18⟩ := Jvm.LawKit.callS X17 hx (y := (⟨"com/example/parlay/parlay/problems/tsp/MatrixFormatEndPinLaw", "expected", "(III)I"⟩ : MethodName)) hown (mvT hZ (hw _ (List.mem_of_getElem? (i := 15) rfl))) (mvT hZ (hw _ (List.mem_of_getElem? (i := 16) rfl))) (mvT hZ (hw _ (List.mem_of_getElem? (i := 3) rfl))) (mvT hZ (hw _ (List.mem_of_getElem? (i := 17) rfl))) (by decide) (backOf (W := 1) (own_rm_ex l Z a0 hw [] ((va &&& (2147483647 : Int32)) % (9 : Int32)) vb vc  h0 n0 Z0 ) hZ (hw _ (List.mem_of_getElem? (i := 17) rfl)) (hw _ (List.mem_of_getElem? (i := 3) rfl)) (by decide) (by decide)) (g := (mkF m 24 #[.val (.int va), .val (.int vb), .val (.int vc), .val (.int ((va &&& (2147483647 : Int32)) % (9 : Int32))), .val (.ref oUPPER_COL)] [(.int vc), (.int vb), (.int ((va &&& (2147483647 : Int32)) % (9 : Int32))), (.int (own_en (0 : Int32) (0 : Int32) vb vc))])) rfl (by rw [hml]; rfl) (argsL := [(.int ((va &&& (2147483647 : Int32)) % (9 : Int32))), (.int vb), (.int vc)]) (rest := [(.int (own_en (0 : Int32) (0 : Int32) vb vc))]) (lenOf own_pd2 rfl) rfl (by show 2 * 0 + _ ≤ _; exact Nat.le_of_eq rfl) (hb hby at_24) (fun _ _ => ⟨rfl, e17, (by decide : 0 + 0 ≤ _), (by decide : 0 + 0 ≤ _)⟩)
    dsimp only [Pt.U, Pt.locs, Pt.cells, Pt.slots] at X18 l18 y18 z18 st18 hQ18
    subst l18 y18 z18
    obtain ⟨rfl, N18q, e18⟩ := hQ18
    refine own_Fin.go (fun t k => st18 t k) ?_
    have N18 := Fr.app N17 N18q
    show own_Fin _ _ _ _ _ _ _ (T18.setTop (mkF m 27 #[.val (.int va), .val (.int vb), .val (.int vc), .val (.int ((va &&& (2147483647 : Int32)) % (9 : Int32))), .val (.ref oUPPER_COL)] [(.int (own_exp ((va &&& (2147483647 : Int32)) % (9 : Int32)) vb vc)), (.int (own_en (0 : Int32) (0 : Int32) vb vc))]))
    have hc27 : (own_en (0 : Int32) (0 : Int32) vb vc) = (own_exp ((va &&& (2147483647 : Int32)) % (9 : Int32)) vb vc) := by rw [hk5]; rfl
    refine own_Fin.go (fun t k => XS.icmpNo X18.here hx rfl (hb hby at_27) rfl (Jvm.Free.XT.ii_ne_f hc27) k) ?_
    show own_Fin _ _ _ _ _ _ _ (T18.setTop (mkF m 30 #[.val (.int va), .val (.int vb), .val (.int vc), .val (.int ((va &&& (2147483647 : Int32)) % (9 : Int32))), .val (.ref oUPPER_COL)] []))
    refine own_Fin.go (fun t k => XS.iconst X18.here hx rfl (hb hby at_30) k) ?_
    show own_Fin _ _ _ _ _ _ _ (T18.setTop (mkF m 31 #[.val (.int va), .val (.int vb), .val (.int vc), .val (.int ((va &&& (2147483647 : Int32)) % (9 : Int32))), .val (.ref oUPPER_COL)] [(.int (1 : Int32))]))
    refine own_Fin.go (fun t k => XS.goto X18.here hx rfl (pc0 := 31) (pc' := 35) rfl (hb hby at_31) (by decide) (by decide) k) ?_
    show own_Fin _ _ _ _ _ _ _ (T18.setTop (mkF m 35 #[.val (.int va), .val (.int vb), .val (.int vc), .val (.int ((va &&& (2147483647 : Int32)) % (9 : Int32))), .val (.ref oUPPER_COL)] [(.int (1 : Int32))]))
    refine own_retN X18 hx (t := .boolean) (w := (1 : Int32)) Bd.returns (by simp) (hb hby at_35) Bd.notSynchronized rfl (by decide) (by decide) ?_
    rw [e18]
    exact ⟨rfl, N18⟩
  by_cases hk6 : ((va &&& (2147483647 : Int32)) % (9 : Int32)) = (6 : Int32)
  · show own_Fin _ _ _ _ _ _ _ (s₁.setTop (mkF m 8 #[.val (.int va), .val (.int vb), .val (.int vc), .val (.int ((va &&& (2147483647 : Int32)) % (9 : Int32))), .unset] []))
    refine own_Fin.go (fun t k => XS.iloadN X0.here hx rfl (hb hby at_8) rfl k) ?_
    show own_Fin _ _ _ _ _ _ _ (s₁.setTop (mkF m 9 #[.val (.int va), .val (.int vb), .val (.int vc), .val (.int ((va &&& (2147483647 : Int32)) % (9 : Int32))), .unset] [(.int ((va &&& (2147483647 : Int32)) % (9 : Int32)))]))
    obtain ⟨_, _, ⟨T19, L19, k19, n19⟩, -, X19, ⟨Lc19, hQ19, l19, y19, z19⟩, st19⟩ := Jvm.LawKit.callS X0 hx (y := (⟨"com/example/parlay/parlay/problems/tsp/MatrixFormatEndPinLaw", "format", "(I)Lcom/example/parlay/parlay/problems/tsp/MatrixFormat;"⟩ : MethodName)) hown (mvT hZ (hw _ (List.mem_of_getElem? (i := 1) rfl))) (mvT hZ (hw _ (List.mem_of_getElem? (i := 2) rfl))) (mvT hZ (hw _ (List.mem_of_getElem? (i := 3) rfl))) (mvT hZ (hw _ (List.mem_of_getElem? (i := 4) rfl))) (by decide) (backOf (W := 0) (own_rm_fm6 l Z a0 hw [] ((va &&& (2147483647 : Int32)) % (9 : Int32)) oLOWER_COL h0 n0 Z0 S_LOWER_COL (by assumption) (by assumption) (by assumption) (by assumption) (by assumption) (by assumption) (by assumption)) hZ (hw _ (List.mem_of_getElem? (i := 4) rfl)) (hw _ (List.mem_of_getElem? (i := 3) rfl)) (by decide) (by decide)) (g := (mkF m 9 #[.val (.int va), .val (.int vb), .val (.int vc), .val (.int ((va &&& (2147483647 : Int32)) % (9 : Int32))), .unset] [(.int ((va &&& (2147483647 : Int32)) % (9 : Int32)))])) rfl (by rw [hml]; rfl) (argsL := [(.int ((va &&& (2147483647 : Int32)) % (9 : Int32)))]) (rest := []) (lenOf own_pd0 rfl) rfl (by show 2 * 0 + _ ≤ _; exact Nat.le_of_eq rfl) (hb hby at_9) (fun _ _ => ⟨rfl, e0, (by decide : 0 + 0 ≤ _), (by decide : 0 + 0 ≤ _)⟩)
    dsimp only [Pt.U, Pt.locs, Pt.cells, Pt.slots] at X19 l19 y19 z19 st19 hQ19
    subst l19 y19 z19
    obtain ⟨rfl, N19q, e19⟩ := hQ19
    refine own_Fin.go (fun t k => st19 t k) ?_
    have N19 := Fr.app N0 N19q
    show own_Fin _ _ _ _ _ _ _ (T19.setTop (mkF m 12 #[.val (.int va), .val (.int vb), .val (.int vc), .val (.int ((va &&& (2147483647 : Int32)) % (9 : Int32))), .unset] [(.ref oLOWER_COL)]))
    refine own_Fin.go (fun t k => XS.astore X19.here hx rfl (hb hby at_12) rfl rfl (l' := #[.val (.int va), .val (.int vb), .val (.int vc), .val (.int ((va &&& (2147483647 : Int32)) % (9 : Int32))), .val (.ref oLOWER_COL)]) rfl k) ?_
    show own_Fin _ _ _ _ _ _ _ (T19.setTop (mkF m 14 #[.val (.int va), .val (.int vb), .val (.int vc), .val (.int ((va &&& (2147483647 : Int32)) % (9 : Int32))), .val (.ref oLOWER_COL)] []))
    refine own_Fin.go (fun t k => XS.aload X19.here hx rfl (hb hby at_14) rfl rfl k) ?_
    show own_Fin _ _ _ _ _ _ _ (T19.setTop (mkF m 16 #[.val (.int va), .val (.int vb), .val (.int vc), .val (.int ((va &&& (2147483647 : Int32)) % (9 : Int32))), .val (.ref oLOWER_COL)] [(.ref oLOWER_COL)]))
    refine own_Fin.go (fun t k => XS.iloadN X19.here hx rfl (hb hby at_16) rfl k) ?_
    show own_Fin _ _ _ _ _ _ _ (T19.setTop (mkF m 17 #[.val (.int va), .val (.int vb), .val (.int vc), .val (.int ((va &&& (2147483647 : Int32)) % (9 : Int32))), .val (.ref oLOWER_COL)] [(.int vb), (.ref oLOWER_COL)]))
    refine own_Fin.go (fun t k => XS.iloadN X19.here hx rfl (hb hby at_17) rfl k) ?_
    show own_Fin _ _ _ _ _ _ _ (T19.setTop (mkF m 18 #[.val (.int va), .val (.int vb), .val (.int vc), .val (.int ((va &&& (2147483647 : Int32)) % (9 : Int32))), .val (.ref oLOWER_COL)] [(.int vc), (.int vb), (.ref oLOWER_COL)]))
    obtain ⟨cq20, kq20, q20a, q20b, q20c⟩ := isOf hZ e19 E_oLOWER_COL
    obtain ⟨_, _, ⟨T20, L20, k20, n20⟩, -, X20, ⟨Lc20, hQ20, l20, y20, z20⟩, st20⟩ := X19.virtualBack hx (y := (⟨"com/example/parlay/parlay/problems/tsp/MatrixFormat", "end", "(II)I"⟩ : MethodName)) (z := (⟨"com/example/parlay/parlay/problems/tsp/MatrixFormat", "end", "(II)I"⟩ : MethodName)) hown (mvT hZ (hw _ (List.mem_of_getElem? (i := 8) rfl))) (mvT hZ (hw _ (List.mem_of_getElem? (i := 9) rfl))) (notFace_of_selects (args := #[]) (mvT hZ (hw _ (List.mem_of_getElem? (i := 11) rfl)))) (mvT hZ (hw _ (List.mem_of_getElem? (i := 11) rfl))) (mvT hZ (hw _ (List.mem_of_getElem? (i := 10) rfl))) (by decide) (backOf (W := 0) (own_rm_en l Z a0 hw [] oLOWER_COL vb vc (1 : Int32) (0 : Int32) h0 n0 Z0 F_oLOWER_COL_right F_oLOWER_COL_diagonal) hZ (hw _ (List.mem_of_getElem? (i := 12) rfl)) (hw _ (List.mem_of_getElem? (i := 6) rfl)) (by decide) (by decide)) q20a q20c (g := (mkF m 18 #[.val (.int va), .val (.int vb), .val (.int vc), .val (.int ((va &&& (2147483647 : Int32)) % (9 : Int32))), .val (.ref oLOWER_COL)] [(.int vc), (.int vb), (.ref oLOWER_COL)])) rfl (by rw [hml]; rfl) (Steps.refl _) (argsL := [(.int vb), (.int vc)]) (rest := []) (lenOf own_pd1 rfl) rfl (by show 2 * 0 + _ ≤ _; exact Nat.le_of_eq rfl) (hb hby at_18) (fun _ _ => ⟨rfl, e19, (by decide : 0 + 0 ≤ _), (by decide : 0 + 0 ≤ _)⟩)
    dsimp only [Pt.U, Pt.locs, Pt.cells, Pt.slots] at X20 l20 y20 z20 st20 hQ20
    subst l20 y20 z20
    obtain ⟨rfl, N20q, e20⟩ := hQ20
    refine own_Fin.go (fun t k => st20.trans k) ?_
    have N20 := Fr.app N19 N20q
    show own_Fin _ _ _ _ _ _ _ (T20.setTop (mkF m 21 #[.val (.int va), .val (.int vb), .val (.int vc), .val (.int ((va &&& (2147483647 : Int32)) % (9 : Int32))), .val (.ref oLOWER_COL)] [(.int (own_en (1 : Int32) (0 : Int32) vb vc))]))
    refine own_Fin.go (fun t k => XS.iloadN X20.here hx rfl (hb hby at_21) rfl k) ?_
    show own_Fin _ _ _ _ _ _ _ (T20.setTop (mkF m 22 #[.val (.int va), .val (.int vb), .val (.int vc), .val (.int ((va &&& (2147483647 : Int32)) % (9 : Int32))), .val (.ref oLOWER_COL)] [(.int ((va &&& (2147483647 : Int32)) % (9 : Int32))), (.int (own_en (1 : Int32) (0 : Int32) vb vc))]))
    refine own_Fin.go (fun t k => XS.iloadN X20.here hx rfl (hb hby at_22) rfl k) ?_
    show own_Fin _ _ _ _ _ _ _ (T20.setTop (mkF m 23 #[.val (.int va), .val (.int vb), .val (.int vc), .val (.int ((va &&& (2147483647 : Int32)) % (9 : Int32))), .val (.ref oLOWER_COL)] [(.int vb), (.int ((va &&& (2147483647 : Int32)) % (9 : Int32))), (.int (own_en (1 : Int32) (0 : Int32) vb vc))]))
    refine own_Fin.go (fun t k => XS.iloadN X20.here hx rfl (hb hby at_23) rfl k) ?_
    show own_Fin _ _ _ _ _ _ _ (T20.setTop (mkF m 24 #[.val (.int va), .val (.int vb), .val (.int vc), .val (.int ((va &&& (2147483647 : Int32)) % (9 : Int32))), .val (.ref oLOWER_COL)] [(.int vc), (.int vb), (.int ((va &&& (2147483647 : Int32)) % (9 : Int32))), (.int (own_en (1 : Int32) (0 : Int32) vb vc))]))
    obtain ⟨_, _, ⟨T21, L21, k21, n21⟩, -, X21, ⟨Lc21, hQ21, l21, y21, z21⟩, st21⟩ := Jvm.LawKit.callS X20 hx (y := (⟨"com/example/parlay/parlay/problems/tsp/MatrixFormatEndPinLaw", "expected", "(III)I"⟩ : MethodName)) hown (mvT hZ (hw _ (List.mem_of_getElem? (i := 15) rfl))) (mvT hZ (hw _ (List.mem_of_getElem? (i := 16) rfl))) (mvT hZ (hw _ (List.mem_of_getElem? (i := 3) rfl))) (mvT hZ (hw _ (List.mem_of_getElem? (i := 17) rfl))) (by decide) (backOf (W := 1) (own_rm_ex l Z a0 hw [] ((va &&& (2147483647 : Int32)) % (9 : Int32)) vb vc  h0 n0 Z0 ) hZ (hw _ (List.mem_of_getElem? (i := 17) rfl)) (hw _ (List.mem_of_getElem? (i := 3) rfl)) (by decide) (by decide)) (g := (mkF m 24 #[.val (.int va), .val (.int vb), .val (.int vc), .val (.int ((va &&& (2147483647 : Int32)) % (9 : Int32))), .val (.ref oLOWER_COL)] [(.int vc), (.int vb), (.int ((va &&& (2147483647 : Int32)) % (9 : Int32))), (.int (own_en (1 : Int32) (0 : Int32) vb vc))])) rfl (by rw [hml]; rfl) (argsL := [(.int ((va &&& (2147483647 : Int32)) % (9 : Int32))), (.int vb), (.int vc)]) (rest := [(.int (own_en (1 : Int32) (0 : Int32) vb vc))]) (lenOf own_pd2 rfl) rfl (by show 2 * 0 + _ ≤ _; exact Nat.le_of_eq rfl) (hb hby at_24) (fun _ _ => ⟨rfl, e20, (by decide : 0 + 0 ≤ _), (by decide : 0 + 0 ≤ _)⟩)
    dsimp only [Pt.U, Pt.locs, Pt.cells, Pt.slots] at X21 l21 y21 z21 st21 hQ21
    subst l21 y21 z21
    obtain ⟨rfl, N21q, e21⟩ := hQ21
    refine own_Fin.go (fun t k => st21 t k) ?_
    have N21 := Fr.app N20 N21q
    show own_Fin _ _ _ _ _ _ _ (T21.setTop (mkF m 27 #[.val (.int va), .val (.int vb), .val (.int vc), .val (.int ((va &&& (2147483647 : Int32)) % (9 : Int32))), .val (.ref oLOWER_COL)] [(.int (own_exp ((va &&& (2147483647 : Int32)) % (9 : Int32)) vb vc)), (.int (own_en (1 : Int32) (0 : Int32) vb vc))]))
    have hc27 : (own_en (1 : Int32) (0 : Int32) vb vc) = (own_exp ((va &&& (2147483647 : Int32)) % (9 : Int32)) vb vc) := by rw [hk6]; rfl
    refine own_Fin.go (fun t k => XS.icmpNo X21.here hx rfl (hb hby at_27) rfl (Jvm.Free.XT.ii_ne_f hc27) k) ?_
    show own_Fin _ _ _ _ _ _ _ (T21.setTop (mkF m 30 #[.val (.int va), .val (.int vb), .val (.int vc), .val (.int ((va &&& (2147483647 : Int32)) % (9 : Int32))), .val (.ref oLOWER_COL)] []))
    refine own_Fin.go (fun t k => XS.iconst X21.here hx rfl (hb hby at_30) k) ?_
    show own_Fin _ _ _ _ _ _ _ (T21.setTop (mkF m 31 #[.val (.int va), .val (.int vb), .val (.int vc), .val (.int ((va &&& (2147483647 : Int32)) % (9 : Int32))), .val (.ref oLOWER_COL)] [(.int (1 : Int32))]))
    refine own_Fin.go (fun t k => XS.goto X21.here hx rfl (pc0 := 31) (pc' := 35) rfl (hb hby at_31) (by decide) (by decide) k) ?_
    show own_Fin _ _ _ _ _ _ _ (T21.setTop (mkF m 35 #[.val (.int va), .val (.int vb), .val (.int vc), .val (.int ((va &&& (2147483647 : Int32)) % (9 : Int32))), .val (.ref oLOWER_COL)] [(.int (1 : Int32))]))
    refine own_retN X21 hx (t := .boolean) (w := (1 : Int32)) Bd.returns (by simp) (hb hby at_35) Bd.notSynchronized rfl (by decide) (by decide) ?_
    rw [e21]
    exact ⟨rfl, N21⟩
  by_cases hk7 : ((va &&& (2147483647 : Int32)) % (9 : Int32)) = (7 : Int32)
  · show own_Fin _ _ _ _ _ _ _ (s₁.setTop (mkF m 8 #[.val (.int va), .val (.int vb), .val (.int vc), .val (.int ((va &&& (2147483647 : Int32)) % (9 : Int32))), .unset] []))
    refine own_Fin.go (fun t k => XS.iloadN X0.here hx rfl (hb hby at_8) rfl k) ?_
    show own_Fin _ _ _ _ _ _ _ (s₁.setTop (mkF m 9 #[.val (.int va), .val (.int vb), .val (.int vc), .val (.int ((va &&& (2147483647 : Int32)) % (9 : Int32))), .unset] [(.int ((va &&& (2147483647 : Int32)) % (9 : Int32)))]))
    obtain ⟨_, _, ⟨T22, L22, k22, n22⟩, -, X22, ⟨Lc22, hQ22, l22, y22, z22⟩, st22⟩ := Jvm.LawKit.callS X0 hx (y := (⟨"com/example/parlay/parlay/problems/tsp/MatrixFormatEndPinLaw", "format", "(I)Lcom/example/parlay/parlay/problems/tsp/MatrixFormat;"⟩ : MethodName)) hown (mvT hZ (hw _ (List.mem_of_getElem? (i := 1) rfl))) (mvT hZ (hw _ (List.mem_of_getElem? (i := 2) rfl))) (mvT hZ (hw _ (List.mem_of_getElem? (i := 3) rfl))) (mvT hZ (hw _ (List.mem_of_getElem? (i := 4) rfl))) (by decide) (backOf (W := 0) (own_rm_fm7 l Z a0 hw [] ((va &&& (2147483647 : Int32)) % (9 : Int32)) oUPPER_DIAG_COL h0 n0 Z0 S_UPPER_DIAG_COL (by assumption) (by assumption) (by assumption) (by assumption) (by assumption) (by assumption) (by assumption) (by assumption)) hZ (hw _ (List.mem_of_getElem? (i := 4) rfl)) (hw _ (List.mem_of_getElem? (i := 3) rfl)) (by decide) (by decide)) (g := (mkF m 9 #[.val (.int va), .val (.int vb), .val (.int vc), .val (.int ((va &&& (2147483647 : Int32)) % (9 : Int32))), .unset] [(.int ((va &&& (2147483647 : Int32)) % (9 : Int32)))])) rfl (by rw [hml]; rfl) (argsL := [(.int ((va &&& (2147483647 : Int32)) % (9 : Int32)))]) (rest := []) (lenOf own_pd0 rfl) rfl (by show 2 * 0 + _ ≤ _; exact Nat.le_of_eq rfl) (hb hby at_9) (fun _ _ => ⟨rfl, e0, (by decide : 0 + 0 ≤ _), (by decide : 0 + 0 ≤ _)⟩)
    dsimp only [Pt.U, Pt.locs, Pt.cells, Pt.slots] at X22 l22 y22 z22 st22 hQ22
    subst l22 y22 z22
    obtain ⟨rfl, N22q, e22⟩ := hQ22
    refine own_Fin.go (fun t k => st22 t k) ?_
    have N22 := Fr.app N0 N22q
    show own_Fin _ _ _ _ _ _ _ (T22.setTop (mkF m 12 #[.val (.int va), .val (.int vb), .val (.int vc), .val (.int ((va &&& (2147483647 : Int32)) % (9 : Int32))), .unset] [(.ref oUPPER_DIAG_COL)]))
    refine own_Fin.go (fun t k => XS.astore X22.here hx rfl (hb hby at_12) rfl rfl (l' := #[.val (.int va), .val (.int vb), .val (.int vc), .val (.int ((va &&& (2147483647 : Int32)) % (9 : Int32))), .val (.ref oUPPER_DIAG_COL)]) rfl k) ?_
    show own_Fin _ _ _ _ _ _ _ (T22.setTop (mkF m 14 #[.val (.int va), .val (.int vb), .val (.int vc), .val (.int ((va &&& (2147483647 : Int32)) % (9 : Int32))), .val (.ref oUPPER_DIAG_COL)] []))
    refine own_Fin.go (fun t k => XS.aload X22.here hx rfl (hb hby at_14) rfl rfl k) ?_
    show own_Fin _ _ _ _ _ _ _ (T22.setTop (mkF m 16 #[.val (.int va), .val (.int vb), .val (.int vc), .val (.int ((va &&& (2147483647 : Int32)) % (9 : Int32))), .val (.ref oUPPER_DIAG_COL)] [(.ref oUPPER_DIAG_COL)]))
    refine own_Fin.go (fun t k => XS.iloadN X22.here hx rfl (hb hby at_16) rfl k) ?_
    show own_Fin _ _ _ _ _ _ _ (T22.setTop (mkF m 17 #[.val (.int va), .val (.int vb), .val (.int vc), .val (.int ((va &&& (2147483647 : Int32)) % (9 : Int32))), .val (.ref oUPPER_DIAG_COL)] [(.int vb), (.ref oUPPER_DIAG_COL)]))
    refine own_Fin.go (fun t k => XS.iloadN X22.here hx rfl (hb hby at_17) rfl k) ?_
    show own_Fin _ _ _ _ _ _ _ (T22.setTop (mkF m 18 #[.val (.int va), .val (.int vb), .val (.int vc), .val (.int ((va &&& (2147483647 : Int32)) % (9 : Int32))), .val (.ref oUPPER_DIAG_COL)] [(.int vc), (.int vb), (.ref oUPPER_DIAG_COL)]))
    obtain ⟨cq23, kq23, q23a, q23b, q23c⟩ := isOf hZ e22 E_oUPPER_DIAG_COL
    obtain ⟨_, _, ⟨T23, L23, k23, n23⟩, -, X23, ⟨Lc23, hQ23, l23, y23, z23⟩, st23⟩ := X22.virtualBack hx (y := (⟨"com/example/parlay/parlay/problems/tsp/MatrixFormat", "end", "(II)I"⟩ : MethodName)) (z := (⟨"com/example/parlay/parlay/problems/tsp/MatrixFormat", "end", "(II)I"⟩ : MethodName)) hown (mvT hZ (hw _ (List.mem_of_getElem? (i := 8) rfl))) (mvT hZ (hw _ (List.mem_of_getElem? (i := 9) rfl))) (notFace_of_selects (args := #[]) (mvT hZ (hw _ (List.mem_of_getElem? (i := 11) rfl)))) (mvT hZ (hw _ (List.mem_of_getElem? (i := 11) rfl))) (mvT hZ (hw _ (List.mem_of_getElem? (i := 10) rfl))) (by decide) (backOf (W := 0) (own_rm_en l Z a0 hw [] oUPPER_DIAG_COL vb vc (0 : Int32) (1 : Int32) h0 n0 Z0 F_oUPPER_DIAG_COL_right F_oUPPER_DIAG_COL_diagonal) hZ (hw _ (List.mem_of_getElem? (i := 12) rfl)) (hw _ (List.mem_of_getElem? (i := 6) rfl)) (by decide) (by decide)) q23a q23c (g := (mkF m 18 #[.val (.int va), .val (.int vb), .val (.int vc), .val (.int ((va &&& (2147483647 : Int32)) % (9 : Int32))), .val (.ref oUPPER_DIAG_COL)] [(.int vc), (.int vb), (.ref oUPPER_DIAG_COL)])) rfl (by rw [hml]; rfl) (Steps.refl _) (argsL := [(.int vb), (.int vc)]) (rest := []) (lenOf own_pd1 rfl) rfl (by show 2 * 0 + _ ≤ _; exact Nat.le_of_eq rfl) (hb hby at_18) (fun _ _ => ⟨rfl, e22, (by decide : 0 + 0 ≤ _), (by decide : 0 + 0 ≤ _)⟩)
    dsimp only [Pt.U, Pt.locs, Pt.cells, Pt.slots] at X23 l23 y23 z23 st23 hQ23
    subst l23 y23 z23
    obtain ⟨rfl, N23q, e23⟩ := hQ23
    refine own_Fin.go (fun t k => st23.trans k) ?_
    have N23 := Fr.app N22 N23q
    show own_Fin _ _ _ _ _ _ _ (T23.setTop (mkF m 21 #[.val (.int va), .val (.int vb), .val (.int vc), .val (.int ((va &&& (2147483647 : Int32)) % (9 : Int32))), .val (.ref oUPPER_DIAG_COL)] [(.int (own_en (0 : Int32) (1 : Int32) vb vc))]))
    refine own_Fin.go (fun t k => XS.iloadN X23.here hx rfl (hb hby at_21) rfl k) ?_
    show own_Fin _ _ _ _ _ _ _ (T23.setTop (mkF m 22 #[.val (.int va), .val (.int vb), .val (.int vc), .val (.int ((va &&& (2147483647 : Int32)) % (9 : Int32))), .val (.ref oUPPER_DIAG_COL)] [(.int ((va &&& (2147483647 : Int32)) % (9 : Int32))), (.int (own_en (0 : Int32) (1 : Int32) vb vc))]))
    refine own_Fin.go (fun t k => XS.iloadN X23.here hx rfl (hb hby at_22) rfl k) ?_
    show own_Fin _ _ _ _ _ _ _ (T23.setTop (mkF m 23 #[.val (.int va), .val (.int vb), .val (.int vc), .val (.int ((va &&& (2147483647 : Int32)) % (9 : Int32))), .val (.ref oUPPER_DIAG_COL)] [(.int vb), (.int ((va &&& (2147483647 : Int32)) % (9 : Int32))), (.int (own_en (0 : Int32) (1 : Int32) vb vc))]))
    refine own_Fin.go (fun t k => XS.iloadN X23.here hx rfl (hb hby at_23) rfl k) ?_
    show own_Fin _ _ _ _ _ _ _ (T23.setTop (mkF m 24 #[.val (.int va), .val (.int vb), .val (.int vc), .val (.int ((va &&& (2147483647 : Int32)) % (9 : Int32))), .val (.ref oUPPER_DIAG_COL)] [(.int vc), (.int vb), (.int ((va &&& (2147483647 : Int32)) % (9 : Int32))), (.int (own_en (0 : Int32) (1 : Int32) vb vc))]))
    obtain ⟨_, _, ⟨T24, L24, k24, n24⟩, -, X24, ⟨Lc24, hQ24, l24, y24, z24⟩, st24⟩ := Jvm.LawKit.callS X23 hx (y := (⟨"com/example/parlay/parlay/problems/tsp/MatrixFormatEndPinLaw", "expected", "(III)I"⟩ : MethodName)) hown (mvT hZ (hw _ (List.mem_of_getElem? (i := 15) rfl))) (mvT hZ (hw _ (List.mem_of_getElem? (i := 16) rfl))) (mvT hZ (hw _ (List.mem_of_getElem? (i := 3) rfl))) (mvT hZ (hw _ (List.mem_of_getElem? (i := 17) rfl))) (by decide) (backOf (W := 1) (own_rm_ex l Z a0 hw [] ((va &&& (2147483647 : Int32)) % (9 : Int32)) vb vc  h0 n0 Z0 ) hZ (hw _ (List.mem_of_getElem? (i := 17) rfl)) (hw _ (List.mem_of_getElem? (i := 3) rfl)) (by decide) (by decide)) (g := (mkF m 24 #[.val (.int va), .val (.int vb), .val (.int vc), .val (.int ((va &&& (2147483647 : Int32)) % (9 : Int32))), .val (.ref oUPPER_DIAG_COL)] [(.int vc), (.int vb), (.int ((va &&& (2147483647 : Int32)) % (9 : Int32))), (.int (own_en (0 : Int32) (1 : Int32) vb vc))])) rfl (by rw [hml]; rfl) (argsL := [(.int ((va &&& (2147483647 : Int32)) % (9 : Int32))), (.int vb), (.int vc)]) (rest := [(.int (own_en (0 : Int32) (1 : Int32) vb vc))]) (lenOf own_pd2 rfl) rfl (by show 2 * 0 + _ ≤ _; exact Nat.le_of_eq rfl) (hb hby at_24) (fun _ _ => ⟨rfl, e23, (by decide : 0 + 0 ≤ _), (by decide : 0 + 0 ≤ _)⟩)
    dsimp only [Pt.U, Pt.locs, Pt.cells, Pt.slots] at X24 l24 y24 z24 st24 hQ24
    subst l24 y24 z24
    obtain ⟨rfl, N24q, e24⟩ := hQ24
    refine own_Fin.go (fun t k => st24 t k) ?_
    have N24 := Fr.app N23 N24q
    show own_Fin _ _ _ _ _ _ _ (T24.setTop (mkF m 27 #[.val (.int va), .val (.int vb), .val (.int vc), .val (.int ((va &&& (2147483647 : Int32)) % (9 : Int32))), .val (.ref oUPPER_DIAG_COL)] [(.int (own_exp ((va &&& (2147483647 : Int32)) % (9 : Int32)) vb vc)), (.int (own_en (0 : Int32) (1 : Int32) vb vc))]))
    have hc27 : (own_en (0 : Int32) (1 : Int32) vb vc) = (own_exp ((va &&& (2147483647 : Int32)) % (9 : Int32)) vb vc) := by rw [hk7]; rfl
    refine own_Fin.go (fun t k => XS.icmpNo X24.here hx rfl (hb hby at_27) rfl (Jvm.Free.XT.ii_ne_f hc27) k) ?_
    show own_Fin _ _ _ _ _ _ _ (T24.setTop (mkF m 30 #[.val (.int va), .val (.int vb), .val (.int vc), .val (.int ((va &&& (2147483647 : Int32)) % (9 : Int32))), .val (.ref oUPPER_DIAG_COL)] []))
    refine own_Fin.go (fun t k => XS.iconst X24.here hx rfl (hb hby at_30) k) ?_
    show own_Fin _ _ _ _ _ _ _ (T24.setTop (mkF m 31 #[.val (.int va), .val (.int vb), .val (.int vc), .val (.int ((va &&& (2147483647 : Int32)) % (9 : Int32))), .val (.ref oUPPER_DIAG_COL)] [(.int (1 : Int32))]))
    refine own_Fin.go (fun t k => XS.goto X24.here hx rfl (pc0 := 31) (pc' := 35) rfl (hb hby at_31) (by decide) (by decide) k) ?_
    show own_Fin _ _ _ _ _ _ _ (T24.setTop (mkF m 35 #[.val (.int va), .val (.int vb), .val (.int vc), .val (.int ((va &&& (2147483647 : Int32)) % (9 : Int32))), .val (.ref oUPPER_DIAG_COL)] [(.int (1 : Int32))]))
    refine own_retN X24 hx (t := .boolean) (w := (1 : Int32)) Bd.returns (by simp) (hb hby at_35) Bd.notSynchronized rfl (by decide) (by decide) ?_
    rw [e24]
    exact ⟨rfl, N24⟩
  show own_Fin _ _ _ _ _ _ _ (s₁.setTop (mkF m 8 #[.val (.int va), .val (.int vb), .val (.int vc), .val (.int ((va &&& (2147483647 : Int32)) % (9 : Int32))), .unset] []))
  have hk8 : ((va &&& (2147483647 : Int32)) % (9 : Int32)) = (8 : Int32) := own_last va hk0 hk1 hk2 hk3 hk4 hk5 hk6 hk7
  refine own_Fin.go (fun t k => XS.iloadN X0.here hx rfl (hb hby at_8) rfl k) ?_
  show own_Fin _ _ _ _ _ _ _ (s₁.setTop (mkF m 9 #[.val (.int va), .val (.int vb), .val (.int vc), .val (.int ((va &&& (2147483647 : Int32)) % (9 : Int32))), .unset] [(.int ((va &&& (2147483647 : Int32)) % (9 : Int32)))]))
  obtain ⟨_, _, ⟨T25, L25, k25, n25⟩, -, X25, ⟨Lc25, hQ25, l25, y25, z25⟩, st25⟩ := Jvm.LawKit.callS X0 hx (y := (⟨"com/example/parlay/parlay/problems/tsp/MatrixFormatEndPinLaw", "format", "(I)Lcom/example/parlay/parlay/problems/tsp/MatrixFormat;"⟩ : MethodName)) hown (mvT hZ (hw _ (List.mem_of_getElem? (i := 1) rfl))) (mvT hZ (hw _ (List.mem_of_getElem? (i := 2) rfl))) (mvT hZ (hw _ (List.mem_of_getElem? (i := 3) rfl))) (mvT hZ (hw _ (List.mem_of_getElem? (i := 4) rfl))) (by decide) (backOf (W := 0) (own_rm_fm8 l Z a0 hw [] ((va &&& (2147483647 : Int32)) % (9 : Int32)) oLOWER_DIAG_COL h0 n0 Z0 S_LOWER_DIAG_COL (by assumption) (by assumption) (by assumption) (by assumption) (by assumption) (by assumption) (by assumption) (by assumption)) hZ (hw _ (List.mem_of_getElem? (i := 4) rfl)) (hw _ (List.mem_of_getElem? (i := 3) rfl)) (by decide) (by decide)) (g := (mkF m 9 #[.val (.int va), .val (.int vb), .val (.int vc), .val (.int ((va &&& (2147483647 : Int32)) % (9 : Int32))), .unset] [(.int ((va &&& (2147483647 : Int32)) % (9 : Int32)))])) rfl (by rw [hml]; rfl) (argsL := [(.int ((va &&& (2147483647 : Int32)) % (9 : Int32)))]) (rest := []) (lenOf own_pd0 rfl) rfl (by show 2 * 0 + _ ≤ _; exact Nat.le_of_eq rfl) (hb hby at_9) (fun _ _ => ⟨rfl, e0, (by decide : 0 + 0 ≤ _), (by decide : 0 + 0 ≤ _)⟩)
  dsimp only [Pt.U, Pt.locs, Pt.cells, Pt.slots] at X25 l25 y25 z25 st25 hQ25
  subst l25 y25 z25
  obtain ⟨rfl, N25q, e25⟩ := hQ25
  refine own_Fin.go (fun t k => st25 t k) ?_
  have N25 := Fr.app N0 N25q
  show own_Fin _ _ _ _ _ _ _ (T25.setTop (mkF m 12 #[.val (.int va), .val (.int vb), .val (.int vc), .val (.int ((va &&& (2147483647 : Int32)) % (9 : Int32))), .unset] [(.ref oLOWER_DIAG_COL)]))
  refine own_Fin.go (fun t k => XS.astore X25.here hx rfl (hb hby at_12) rfl rfl (l' := #[.val (.int va), .val (.int vb), .val (.int vc), .val (.int ((va &&& (2147483647 : Int32)) % (9 : Int32))), .val (.ref oLOWER_DIAG_COL)]) rfl k) ?_
  show own_Fin _ _ _ _ _ _ _ (T25.setTop (mkF m 14 #[.val (.int va), .val (.int vb), .val (.int vc), .val (.int ((va &&& (2147483647 : Int32)) % (9 : Int32))), .val (.ref oLOWER_DIAG_COL)] []))
  refine own_Fin.go (fun t k => XS.aload X25.here hx rfl (hb hby at_14) rfl rfl k) ?_
  show own_Fin _ _ _ _ _ _ _ (T25.setTop (mkF m 16 #[.val (.int va), .val (.int vb), .val (.int vc), .val (.int ((va &&& (2147483647 : Int32)) % (9 : Int32))), .val (.ref oLOWER_DIAG_COL)] [(.ref oLOWER_DIAG_COL)]))
  refine own_Fin.go (fun t k => XS.iloadN X25.here hx rfl (hb hby at_16) rfl k) ?_
  show own_Fin _ _ _ _ _ _ _ (T25.setTop (mkF m 17 #[.val (.int va), .val (.int vb), .val (.int vc), .val (.int ((va &&& (2147483647 : Int32)) % (9 : Int32))), .val (.ref oLOWER_DIAG_COL)] [(.int vb), (.ref oLOWER_DIAG_COL)]))
  refine own_Fin.go (fun t k => XS.iloadN X25.here hx rfl (hb hby at_17) rfl k) ?_
  show own_Fin _ _ _ _ _ _ _ (T25.setTop (mkF m 18 #[.val (.int va), .val (.int vb), .val (.int vc), .val (.int ((va &&& (2147483647 : Int32)) % (9 : Int32))), .val (.ref oLOWER_DIAG_COL)] [(.int vc), (.int vb), (.ref oLOWER_DIAG_COL)]))
  obtain ⟨cq26, kq26, q26a, q26b, q26c⟩ := isOf hZ e25 E_oLOWER_DIAG_COL
  obtain ⟨_, _, ⟨T26, L26, k26, n26⟩, -, X26, ⟨Lc26, hQ26, l26, y26, z26⟩, st26⟩ := X25.virtualBack hx (y := (⟨"com/example/parlay/parlay/problems/tsp/MatrixFormat", "end", "(II)I"⟩ : MethodName)) (z := (⟨"com/example/parlay/parlay/problems/tsp/MatrixFormat", "end", "(II)I"⟩ : MethodName)) hown (mvT hZ (hw _ (List.mem_of_getElem? (i := 8) rfl))) (mvT hZ (hw _ (List.mem_of_getElem? (i := 9) rfl))) (notFace_of_selects (args := #[]) (mvT hZ (hw _ (List.mem_of_getElem? (i := 11) rfl)))) (mvT hZ (hw _ (List.mem_of_getElem? (i := 11) rfl))) (mvT hZ (hw _ (List.mem_of_getElem? (i := 10) rfl))) (by decide) (backOf (W := 0) (own_rm_en l Z a0 hw [] oLOWER_DIAG_COL vb vc (1 : Int32) (1 : Int32) h0 n0 Z0 F_oLOWER_DIAG_COL_right F_oLOWER_DIAG_COL_diagonal) hZ (hw _ (List.mem_of_getElem? (i := 12) rfl)) (hw _ (List.mem_of_getElem? (i := 6) rfl)) (by decide) (by decide)) q26a q26c (g := (mkF m 18 #[.val (.int va), .val (.int vb), .val (.int vc), .val (.int ((va &&& (2147483647 : Int32)) % (9 : Int32))), .val (.ref oLOWER_DIAG_COL)] [(.int vc), (.int vb), (.ref oLOWER_DIAG_COL)])) rfl (by rw [hml]; rfl) (Steps.refl _) (argsL := [(.int vb), (.int vc)]) (rest := []) (lenOf own_pd1 rfl) rfl (by show 2 * 0 + _ ≤ _; exact Nat.le_of_eq rfl) (hb hby at_18) (fun _ _ => ⟨rfl, e25, (by decide : 0 + 0 ≤ _), (by decide : 0 + 0 ≤ _)⟩)
  dsimp only [Pt.U, Pt.locs, Pt.cells, Pt.slots] at X26 l26 y26 z26 st26 hQ26
  subst l26 y26 z26
  obtain ⟨rfl, N26q, e26⟩ := hQ26
  refine own_Fin.go (fun t k => st26.trans k) ?_
  have N26 := Fr.app N25 N26q
  show own_Fin _ _ _ _ _ _ _ (T26.setTop (mkF m 21 #[.val (.int va), .val (.int vb), .val (.int vc), .val (.int ((va &&& (2147483647 : Int32)) % (9 : Int32))), .val (.ref oLOWER_DIAG_COL)] [(.int (own_en (1 : Int32) (1 : Int32) vb vc))]))
  refine own_Fin.go (fun t k => XS.iloadN X26.here hx rfl (hb hby at_21) rfl k) ?_
  show own_Fin _ _ _ _ _ _ _ (T26.setTop (mkF m 22 #[.val (.int va), .val (.int vb), .val (.int vc), .val (.int ((va &&& (2147483647 : Int32)) % (9 : Int32))), .val (.ref oLOWER_DIAG_COL)] [(.int ((va &&& (2147483647 : Int32)) % (9 : Int32))), (.int (own_en (1 : Int32) (1 : Int32) vb vc))]))
  refine own_Fin.go (fun t k => XS.iloadN X26.here hx rfl (hb hby at_22) rfl k) ?_
  show own_Fin _ _ _ _ _ _ _ (T26.setTop (mkF m 23 #[.val (.int va), .val (.int vb), .val (.int vc), .val (.int ((va &&& (2147483647 : Int32)) % (9 : Int32))), .val (.ref oLOWER_DIAG_COL)] [(.int vb), (.int ((va &&& (2147483647 : Int32)) % (9 : Int32))), (.int (own_en (1 : Int32) (1 : Int32) vb vc))]))
  refine own_Fin.go (fun t k => XS.iloadN X26.here hx rfl (hb hby at_23) rfl k) ?_
  show own_Fin _ _ _ _ _ _ _ (T26.setTop (mkF m 24 #[.val (.int va), .val (.int vb), .val (.int vc), .val (.int ((va &&& (2147483647 : Int32)) % (9 : Int32))), .val (.ref oLOWER_DIAG_COL)] [(.int vc), (.int vb), (.int ((va &&& (2147483647 : Int32)) % (9 : Int32))), (.int (own_en (1 : Int32) (1 : Int32) vb vc))]))
  obtain ⟨_, _, ⟨T27, L27, k27, n27⟩, -, X27, ⟨Lc27, hQ27, l27, y27, z27⟩, st27⟩ := Jvm.LawKit.callS X26 hx (y := (⟨"com/example/parlay/parlay/problems/tsp/MatrixFormatEndPinLaw", "expected", "(III)I"⟩ : MethodName)) hown (mvT hZ (hw _ (List.mem_of_getElem? (i := 15) rfl))) (mvT hZ (hw _ (List.mem_of_getElem? (i := 16) rfl))) (mvT hZ (hw _ (List.mem_of_getElem? (i := 3) rfl))) (mvT hZ (hw _ (List.mem_of_getElem? (i := 17) rfl))) (by decide) (backOf (W := 1) (own_rm_ex l Z a0 hw [] ((va &&& (2147483647 : Int32)) % (9 : Int32)) vb vc  h0 n0 Z0 ) hZ (hw _ (List.mem_of_getElem? (i := 17) rfl)) (hw _ (List.mem_of_getElem? (i := 3) rfl)) (by decide) (by decide)) (g := (mkF m 24 #[.val (.int va), .val (.int vb), .val (.int vc), .val (.int ((va &&& (2147483647 : Int32)) % (9 : Int32))), .val (.ref oLOWER_DIAG_COL)] [(.int vc), (.int vb), (.int ((va &&& (2147483647 : Int32)) % (9 : Int32))), (.int (own_en (1 : Int32) (1 : Int32) vb vc))])) rfl (by rw [hml]; rfl) (argsL := [(.int ((va &&& (2147483647 : Int32)) % (9 : Int32))), (.int vb), (.int vc)]) (rest := [(.int (own_en (1 : Int32) (1 : Int32) vb vc))]) (lenOf own_pd2 rfl) rfl (by show 2 * 0 + _ ≤ _; exact Nat.le_of_eq rfl) (hb hby at_24) (fun _ _ => ⟨rfl, e26, (by decide : 0 + 0 ≤ _), (by decide : 0 + 0 ≤ _)⟩)
  dsimp only [Pt.U, Pt.locs, Pt.cells, Pt.slots] at X27 l27 y27 z27 st27 hQ27
  subst l27 y27 z27
  obtain ⟨rfl, N27q, e27⟩ := hQ27
  refine own_Fin.go (fun t k => st27 t k) ?_
  have N27 := Fr.app N26 N27q
  show own_Fin _ _ _ _ _ _ _ (T27.setTop (mkF m 27 #[.val (.int va), .val (.int vb), .val (.int vc), .val (.int ((va &&& (2147483647 : Int32)) % (9 : Int32))), .val (.ref oLOWER_DIAG_COL)] [(.int (own_exp ((va &&& (2147483647 : Int32)) % (9 : Int32)) vb vc)), (.int (own_en (1 : Int32) (1 : Int32) vb vc))]))
  have hc27 : (own_en (1 : Int32) (1 : Int32) vb vc) = (own_exp ((va &&& (2147483647 : Int32)) % (9 : Int32)) vb vc) := by rw [hk8]; rfl
  refine own_Fin.go (fun t k => XS.icmpNo X27.here hx rfl (hb hby at_27) rfl (Jvm.Free.XT.ii_ne_f hc27) k) ?_
  show own_Fin _ _ _ _ _ _ _ (T27.setTop (mkF m 30 #[.val (.int va), .val (.int vb), .val (.int vc), .val (.int ((va &&& (2147483647 : Int32)) % (9 : Int32))), .val (.ref oLOWER_DIAG_COL)] []))
  refine own_Fin.go (fun t k => XS.iconst X27.here hx rfl (hb hby at_30) k) ?_
  show own_Fin _ _ _ _ _ _ _ (T27.setTop (mkF m 31 #[.val (.int va), .val (.int vb), .val (.int vc), .val (.int ((va &&& (2147483647 : Int32)) % (9 : Int32))), .val (.ref oLOWER_DIAG_COL)] [(.int (1 : Int32))]))
  refine own_Fin.go (fun t k => XS.goto X27.here hx rfl (pc0 := 31) (pc' := 35) rfl (hb hby at_31) (by decide) (by decide) k) ?_
  show own_Fin _ _ _ _ _ _ _ (T27.setTop (mkF m 35 #[.val (.int va), .val (.int vb), .val (.int vc), .val (.int ((va &&& (2147483647 : Int32)) % (9 : Int32))), .val (.ref oLOWER_DIAG_COL)] [(.int (1 : Int32))]))
  refine own_retN X27 hx (t := .boolean) (w := (1 : Int32)) Bd.returns (by simp) (hb hby at_35) Bd.notSynchronized rfl (by decide) (by decide) ?_
  rw [e27]
  exact ⟨rfl, N27⟩
set_option maxRecDepth 65536 in
set_option maxHeartbeats 40000000 in
theorem comes_1 {Post : Tables → Env → Array Value → State → Outcome → State → Prop} (hpost : ∀ tb e args s v u, (limb_1_1.after args s (.returned v) u = true ∧ limb_1_2.after args s (.returned v) u = true ∧ True) → FrameEnd s (.returned v) u (Jvm.fieldLocs frame_1_writes args s ++ Jvm.arrayLocs frame_1_arrays args s ++ Jvm.staticLocs frame_1_statics s) 0 0 → Post tb e args s (.returned v) u) :
    ArmFor flags0 classFile x code maxLocals ret World_1 tables_1 room_1 Calls_1 rest_1 Pre_1 Post := by
  intro l hfl _ _ p e ha hc hk s m args below hf hA hF happ hP
  obtain ⟨hcalls, hrest, hpre⟩ := hP
  obtain ⟨-, -, -, hnamed, -, -, -, hat⟩ := (Spec.applies_iff hf).mp happ
  obtain ⟨hg, hn⟩ := and_e (Cond.before_iff.mp (show (Jvm.Cond.and given_1 narrow_1).before args s = true from hpre))
  obtain ⟨hg0, hr0⟩ := and_e hg
  obtain ⟨hg1, hr1⟩ := and_e hr0
  obtain ⟨hg2, hr2⟩ := and_e hr1
  obtain ⟨w0, w1, w2, rfl⟩ : ∃ w0 w1 w2 : Value, args = #[w0, w1, w2] := by
    have hs : args.size = 3 := by simpa [Cond.value, given_1] using hg0
    obtain ⟨L⟩ := args
    match L, hs with
    | [w0, w1, w2], _ => exact ⟨w0, w1, w2, rfl⟩
  have hw := fun d (hd : d ∈ tables_1) => atoms_spec (ws := Jvm.Cond.code x code maxLocals ret :: tables_1) hat d (List.mem_cons_of_mem _ hd)
  have hfit : Fit s := fun {y c} hc i hi => by
    obtain ⟨ha, rfl⟩ := Array.getElem?_eq_some_iff.mp hc
    have q := List.all_eq_true.mp ((Array.all_eq_true_iff_forall_mem.mp hF) _ (Array.getElem_mem ha)) i (List.mem_range.mpr hi)
    simpa [Array.getElem?_eq_getElem hi] using q
  obtain ⟨i0, ei0⟩ := is_v hg1
  obtain rfl : w0 = (.int i0) := Option.some.inj ei0
  obtain ⟨i1, ei1⟩ := is_v hg2
  obtain rfl : w1 = (.int i1) := Option.some.inj ei1
  obtain ⟨i2, ei2⟩ := is_v hr2
  obtain rfl : w2 = (.int i2) := Option.some.inj ei2
  obtain ⟨hn0, hm0⟩ := and_e hn
  obtain ⟨hn1, hm1⟩ := and_e hm0
  obtain ⟨hn2, hm2⟩ := and_e hm1
  obtain ⟨hn3, hm3⟩ := and_e hm2
  obtain ⟨hn4, hm4⟩ := and_e hm3
  obtain ⟨hn5, hm5⟩ := and_e hm4
  obtain ⟨hn6, hm6⟩ := and_e hm5
  obtain ⟨hn7, hm7⟩ := and_e hm6
  obtain ⟨hn8, hm8⟩ := and_e hm7
  obtain ⟨hn9, hm9⟩ := and_e hm8
  obtain ⟨hn10, hm10⟩ := and_e hm9
  obtain ⟨hn11, hm11⟩ := and_e hm10
  obtain ⟨hn12, hm12⟩ := and_e hm11
  obtain ⟨hn13, hm13⟩ := and_e hm12
  obtain ⟨hn14, hm14⟩ := and_e hm13
  obtain ⟨hn15, hm15⟩ := and_e hm14
  obtain ⟨hn16, hm16⟩ := and_e hm15
  obtain ⟨hn17, hm17⟩ := and_e hm16
  obtain ⟨hn18, hm18⟩ := and_e hm17
  obtain ⟨hn19, hm19⟩ := and_e hm18
  obtain ⟨hn20, hm20⟩ := and_e hm19
  obtain ⟨hn21, hm21⟩ := and_e hm20
  obtain ⟨hn22, hm22⟩ := and_e hm21
  obtain ⟨hn23, hm23⟩ := and_e hm22
  obtain ⟨hn24, hm24⟩ := and_e hm23
  obtain ⟨hn25, hm25⟩ := and_e hm24
  obtain ⟨oFULL_MATRIX, evFULL_MATRIX⟩ := exa_v hn0
  have E_oFULL_MATRIX := Exa.start evFULL_MATRIX hn0
  have S_FULL_MATRIX := Sta.start evFULL_MATRIX (Or.inr ⟨(hw _ (List.mem_of_getElem? (i := 6) rfl)), (hw _ (List.mem_of_getElem? (i := 7) rfl))⟩)
  obtain ⟨oUPPER_ROW, evUPPER_ROW⟩ := exa_v hn2
  have E_oUPPER_ROW := Exa.start evUPPER_ROW hn2
  have S_UPPER_ROW := Sta.start evUPPER_ROW (Or.inr ⟨(hw _ (List.mem_of_getElem? (i := 6) rfl)), (hw _ (List.mem_of_getElem? (i := 19) rfl))⟩)
  obtain ⟨oLOWER_ROW, evLOWER_ROW⟩ := exa_v hn4
  have E_oLOWER_ROW := Exa.start evLOWER_ROW hn4
  have S_LOWER_ROW := Sta.start evLOWER_ROW (Or.inr ⟨(hw _ (List.mem_of_getElem? (i := 6) rfl)), (hw _ (List.mem_of_getElem? (i := 21) rfl))⟩)
  obtain ⟨oLOWER_DIAG_COL, evLOWER_DIAG_COL⟩ := exa_v hn7
  have E_oLOWER_DIAG_COL := Exa.start evLOWER_DIAG_COL hn7
  have S_LOWER_DIAG_COL := Sta.start evLOWER_DIAG_COL (Or.inr ⟨(hw _ (List.mem_of_getElem? (i := 6) rfl)), (hw _ (List.mem_of_getElem? (i := 25) rfl))⟩)
  obtain ⟨oLOWER_COL, evLOWER_COL⟩ := exa_v hn9
  have E_oLOWER_COL := Exa.start evLOWER_COL hn9
  have S_LOWER_COL := Sta.start evLOWER_COL (Or.inr ⟨(hw _ (List.mem_of_getElem? (i := 6) rfl)), (hw _ (List.mem_of_getElem? (i := 27) rfl))⟩)
  obtain ⟨oUPPER_DIAG_COL, evUPPER_DIAG_COL⟩ := exa_v hn11
  have E_oUPPER_DIAG_COL := Exa.start evUPPER_DIAG_COL hn11
  have S_UPPER_DIAG_COL := Sta.start evUPPER_DIAG_COL (Or.inr ⟨(hw _ (List.mem_of_getElem? (i := 6) rfl)), (hw _ (List.mem_of_getElem? (i := 29) rfl))⟩)
  obtain ⟨oUPPER_DIAG_ROW, evUPPER_DIAG_ROW⟩ := exa_v hn14
  have E_oUPPER_DIAG_ROW := Exa.start evUPPER_DIAG_ROW hn14
  have S_UPPER_DIAG_ROW := Sta.start evUPPER_DIAG_ROW (Or.inr ⟨(hw _ (List.mem_of_getElem? (i := 6) rfl)), (hw _ (List.mem_of_getElem? (i := 31) rfl))⟩)
  obtain ⟨oLOWER_DIAG_ROW, evLOWER_DIAG_ROW⟩ := exa_v hn16
  have E_oLOWER_DIAG_ROW := Exa.start evLOWER_DIAG_ROW hn16
  have S_LOWER_DIAG_ROW := Sta.start evLOWER_DIAG_ROW (Or.inr ⟨(hw _ (List.mem_of_getElem? (i := 6) rfl)), (hw _ (List.mem_of_getElem? (i := 33) rfl))⟩)
  obtain ⟨oUPPER_COL, evUPPER_COL⟩ := exa_v hn19
  have E_oUPPER_COL := Exa.start evUPPER_COL hn19
  have S_UPPER_COL := Sta.start evUPPER_COL (Or.inr ⟨(hw _ (List.mem_of_getElem? (i := 6) rfl)), (hw _ (List.mem_of_getElem? (i := 35) rfl))⟩)
  have F_oFULL_MATRIX_right := Fld.start (own_fld evFULL_MATRIX (own_eqInt hn1))
  have F_oUPPER_ROW_right := Fld.start (own_fld evUPPER_ROW (own_eqInt hn3))
  have F_oLOWER_ROW_right := Fld.start (own_fld evLOWER_ROW (own_eqInt hn5))
  have F_oLOWER_ROW_diagonal := Fld.start (own_fld evLOWER_ROW (own_eqInt hn6))
  have F_oLOWER_DIAG_COL_right := Fld.start (own_fld evLOWER_DIAG_COL (own_eqInt hn8))
  have F_oLOWER_COL_right := Fld.start (own_fld evLOWER_COL (own_eqInt hn10))
  have F_oUPPER_DIAG_COL_right := Fld.start (own_fld evUPPER_DIAG_COL (own_eqInt hn12))
  have F_oUPPER_DIAG_COL_diagonal := Fld.start (own_fld evUPPER_DIAG_COL (own_eqInt hn13))
  have F_oUPPER_DIAG_ROW_right := Fld.start (own_fld evUPPER_DIAG_ROW (own_eqInt hn15))
  have F_oLOWER_DIAG_ROW_right := Fld.start (own_fld evLOWER_DIAG_ROW (own_eqInt hn17))
  have F_oLOWER_DIAG_ROW_diagonal := Fld.start (own_fld evLOWER_DIAG_ROW (own_eqInt hn18))
  have F_oUPPER_COL_right := Fld.start (own_fld evUPPER_COL (own_eqInt hn20))
  have F_oUPPER_COL_diagonal := Fld.start (own_fld evUPPER_COL (own_eqInt hn21))
  have F_oFULL_MATRIX_diagonal := Fld.start (own_fld evFULL_MATRIX (own_eqInt hn22))
  have F_oUPPER_ROW_diagonal := Fld.start (own_fld evUPPER_ROW (own_eqInt hn23))
  have F_oLOWER_DIAG_COL_diagonal := Fld.start (own_fld evLOWER_DIAG_COL (own_eqInt hn24))
  have F_oLOWER_COL_diagonal := Fld.start (own_fld evLOWER_COL (own_eqInt hn25))
  have F_oUPPER_DIAG_ROW_diagonal := Fld.start (own_fld evUPPER_DIAG_ROW (own_eqInt hm25))
  obtain ⟨n, o, h1, h2, h3, _, L, rfl, ⟨rfl, N⟩, hq⟩ := own_rm_law l s _ hw tables_1 i0 i1 i2 oFULL_MATRIX oUPPER_ROW oLOWER_ROW oUPPER_DIAG_ROW oLOWER_DIAG_ROW oUPPER_COL oLOWER_COL oUPPER_DIAG_COL oLOWER_DIAG_COL s.heap s.heap.size (Nat.le_refl _) S_FULL_MATRIX E_oFULL_MATRIX S_UPPER_ROW E_oUPPER_ROW S_LOWER_ROW E_oLOWER_ROW S_LOWER_DIAG_COL E_oLOWER_DIAG_COL S_LOWER_COL E_oLOWER_COL S_UPPER_DIAG_COL E_oUPPER_DIAG_COL S_UPPER_DIAG_ROW E_oUPPER_DIAG_ROW S_LOWER_DIAG_ROW E_oLOWER_DIAG_ROW S_UPPER_COL E_oUPPER_COL F_oFULL_MATRIX_right F_oUPPER_ROW_right F_oLOWER_ROW_right F_oLOWER_ROW_diagonal F_oLOWER_DIAG_COL_right F_oLOWER_COL_right F_oUPPER_DIAG_COL_right F_oUPPER_DIAG_COL_diagonal F_oUPPER_DIAG_ROW_right F_oLOWER_DIAG_ROW_right F_oLOWER_DIAG_ROW_diagonal F_oUPPER_COL_right F_oUPPER_COL_diagonal F_oFULL_MATRIX_diagonal F_oUPPER_ROW_diagonal F_oLOWER_DIAG_COL_diagonal F_oLOWER_COL_diagonal F_oUPPER_DIAG_ROW_diagonal p e ha hc hk s m _ below hf ((Spec.applies_iff_loose hf).mp happ).1 ⟨rfl, State.Warmed39.refl s, rfl⟩ trivial
  refine ⟨n, _, h1, h2, h3, hpost _ _ _ _ _ _ ⟨Cond.after_iff.mpr rfl, Cond.after_iff.mpr (eq_i res_at (Term.int_eval (1)) rfl), trivial⟩ ⟨hq.1, hq.2.1, (hq.2.2.sift fun y hy => Or.inr (N y hy)).mono (by decide) (by decide)⟩⟩
theorem main_1_1 : Claimed_1_1 := comes_1 fun _ _ _ _ _ _ h hF => ⟨h.1, hF⟩
theorem main_1_2 : Claimed_1_2 := comes_1 fun _ _ _ _ _ _ h hF => ⟨h.2.1, hF⟩
end Jvm.Pilot.@@N@@
namespace Jvm.Pilot.@@N@@
open Jvm Jvm.ClassFile Sem Op Lib Jvm.Free Jvm.Stand Jvm.Pilot.@@N@@.Jvm.D
/-! MADE BY PROGRAM (witnessworld.py) out of the Statement's table words and the real class files: 12 classes; the members and pool entries that the words name. The judged class is class 1, her method 3. -/
namespace start1
open Jvm.ClassFile
def u (s : String) : CpInfo := .utf8 (stringToUtf16 s)
/-- a pool by its gaps: so many unusable entries, then the entry; so many at the end -/
def gap : Nat → List CpInfo → List CpInfo
  | 0, r => r
  | n + 1, r => .unusable :: gap n r
def poolList (es : List (Nat × CpInfo)) (last : Nat) : List CpInfo := es.foldr (fun e r => gap e.1 (e.2 :: r)) (gap last [])
def pool (es : List (Nat × CpInfo)) (last : Nat) : Array CpInfo := ⟨poolList es last⟩
def fileOf (pool : Array CpInfo) (this : Nat) (attrs : Array Attribute := #[]) (ms : Array MethodInfo := #[]) (fl : Nat := 33) (sup : Nat := 0) (ifs : Array Nat := #[]) (fds : Array FieldInfo := #[]) : ClassFile where
  minorVersion := 0
  majorVersion := 65
  constantPool := pool
  accessFlags := fl
  thisClass := this
  superClass := sup
  interfaces := ifs
  fields := fds
  methods := ms
  attributes := attrs
def plain (name : String) (sup : Option ClassId) : Class where
  name := name
  kind := .ordinary
  loader := none
  accessFlags := 33
  super := sup
  interfaces := #[]
  cf := none
  fields := #[]
  methods := #[]
  instanceTypes := #[]
  staticTypes := #[]
  resolved := #[]
  callSites := []
  init := .initialized
  statics := none
  mirror := none

def pool0 : Array CpInfo := pool [(5, u "<init>"), (0, u "()V"), (1, .class_ 10), (1, u "java/lang/Object")] 113

def k0m0 : Method := { name := "<init>", desc := "()V", sig := { parameters := [], returnType := none }, accessFlags := 1, code := none }
/-- java/lang/Object -/
def k0 : Class := { plain "java/lang/Object" none with
  accessFlags := 33
  interfaces := #[]
  cf := some (fileOf pool0 8 #[] #[{ accessFlags := 1, nameIndex := 5, descriptorIndex := 6, attributes := #[] }] 33 0 #[] #[])
  fields := #[]
  methods := #[k0m0]
  instanceTypes := #[]
  staticTypes := #[]
  resolved := Array.replicate 124 none
  statics := none }

def pool1 : Array CpInfo := pool [(2, .class_ 4), (1, u "java/lang/Object"), (0, u "<init>"), (0, u "()V"), (0, .fieldref 8 9), (0, .class_ 10), (0, .nameAndType 11 12), (0, u "com/example/parlay/parlay/problems/tsp/MatrixFormat"), (0, u "FULL_MATRIX"), (0, u "Lcom/example/parlay/parlay/problems/tsp/MatrixFormat;"), (0, .fieldref 8 14), (0, .nameAndType 15 12), (0, u "UPPER_ROW"), (0, .fieldref 8 17), (0, .nameAndType 18 12), (0, u "LOWER_ROW"), (0, .fieldref 8 20), (0, .nameAndType 21 12), (0, u "UPPER_DIAG_ROW"), (0, .fieldref 8 23), (0, .nameAndType 24 12), (0, u "LOWER_DIAG_ROW"), (0, .fieldref 8 26), (0, .nameAndType 27 12), (0, u "UPPER_COL"), (0, .fieldref 8 29), (0, .nameAndType 30 12), (0, u "LOWER_COL"), (0, .fieldref 8 32), (0, .nameAndType 33 12), (0, u "UPPER_DIAG_COL"), (0, .fieldref 8 35), (0, .nameAndType 36 12), (0, u "LOWER_DIAG_COL"), (0, .integer 2147483647), (0, .methodref 39 40), (0, .class_ 41), (0, .nameAndType 42 43), (0, u "com/example/parlay/parlay/problems/tsp/MatrixFormatEndPinLaw"), (0, u "format"), (0, u "(I)Lcom/example/parlay/parlay/problems/tsp/MatrixFormat;"), (0, .methodref 8 45), (0, .nameAndType 46 47), (0, u "end"), (0, u "(II)I"), (0, .methodref 39 49), (0, .nameAndType 50 51), (0, u "expected"), (0, u "(III)I"), (3, u "law"), (0, u "(III)Z")] 2

def k1m0 : Method := { name := "<init>", desc := "()V", sig := { parameters := [], returnType := none }, accessFlags := 1, code := none }
def k1c1 : Code := { maxStack := 2, maxLocals := 1, code := method_2_code, exceptionTable := #[], attributes := #[] }
def k1m1 : Method := { name := "format", desc := "(I)Lcom/example/parlay/parlay/problems/tsp/MatrixFormat;", sig := { parameters := [.int], returnType := some (.object "com/example/parlay/parlay/problems/tsp/MatrixFormat") }, accessFlags := 10, code := some k1c1 }
def k1c2 : Code := { maxStack := 2, maxLocals := 3, code := method_3_code, exceptionTable := #[], attributes := #[] }
def k1m2 : Method := { name := "expected", desc := "(III)I", sig := { parameters := [.int, .int, .int], returnType := some .int }, accessFlags := 10, code := some k1c2 }
def k1c3 : Code := { maxStack := 4, maxLocals := 5, code := code, exceptionTable := #[], attributes := #[] }
def k1m3 : Method := { name := "law", desc := "(III)Z", sig := { parameters := [.int, .int, .int], returnType := some .boolean }, accessFlags := 9, code := some k1c3 }
/-- com/example/parlay/parlay/problems/tsp/MatrixFormatEndPinLaw -/
def k1 : Class := { plain "com/example/parlay/parlay/problems/tsp/MatrixFormatEndPinLaw" (some 0) with
  accessFlags := 49
  interfaces := #[]
  cf := some (fileOf pool1 39 #[] #[{ accessFlags := 1, nameIndex := 5, descriptorIndex := 6, attributes := #[] }, { accessFlags := 10, nameIndex := 42, descriptorIndex := 43, attributes := #[] }, { accessFlags := 10, nameIndex := 50, descriptorIndex := 51, attributes := #[] }, { accessFlags := 9, nameIndex := 55, descriptorIndex := 56, attributes := #[] }] 49 2 #[] #[])
  fields := #[]
  methods := #[k1m0, k1m1, k1m2, k1m3]
  instanceTypes := #[]
  staticTypes := #[]
  resolved := Array.replicate 59 none
  statics := none }

def pool2 : Array CpInfo := pool [(1, .class_ 2), (0, u "java/lang/constant/Constable"), (0, .class_ 4), (0, u "java/lang/Object")] 6

/-- java/lang/constant/Constable -/
def k2 : Class := { plain "java/lang/constant/Constable" (some 0) with
  accessFlags := 1537
  interfaces := #[]
  cf := some (fileOf pool2 1 #[] #[] 1537 3 #[] #[])
  fields := #[]
  methods := #[]
  instanceTypes := #[]
  staticTypes := #[]
  resolved := Array.replicate 11 none
  statics := none }

def pool3 : Array CpInfo := pool [(1, .class_ 2), (0, u "java/lang/Comparable"), (0, .class_ 4), (0, u "java/lang/Object")] 7

/-- java/lang/Comparable -/
def k3 : Class := { plain "java/lang/Comparable" (some 0) with
  accessFlags := 1537
  interfaces := #[]
  cf := some (fileOf pool3 1 #[] #[] 1537 3 #[] #[])
  fields := #[]
  methods := #[]
  instanceTypes := #[]
  staticTypes := #[]
  resolved := Array.replicate 12 none
  statics := none }

def pool4 : Array CpInfo := pool [(1, .class_ 2), (0, u "java/io/Serializable"), (0, .class_ 4), (0, u "java/lang/Object")] 2

/-- java/io/Serializable -/
def k4 : Class := { plain "java/io/Serializable" (some 0) with
  accessFlags := 1537
  interfaces := #[]
  cf := some (fileOf pool4 1 #[] #[] 1537 3 #[] #[])
  fields := #[]
  methods := #[]
  instanceTypes := #[]
  staticTypes := #[]
  resolved := Array.replicate 7 none
  statics := none }

def pool5 : Array CpInfo := pool [(2, .class_ 4), (1, u "java/lang/Enum"), (0, u "name"), (0, u "Ljava/lang/String;"), (2, u "ordinal"), (0, u "I"), (1, .class_ 14), (1, u "java/lang/Object"), (4, u "hash"), (86, .class_ 108), (1, u "java/lang/Enum$EnumDesc"), (2, .class_ 112), (0, u "java/lang/constant/Constable"), (0, .class_ 114), (0, u "java/lang/Comparable"), (0, .class_ 116), (0, u "java/io/Serializable")] 87

/-- java/lang/Enum -/
def k5 : Class := { plain "java/lang/Enum" (some 0) with
  accessFlags := 1057
  interfaces := #[2, 3, 4]
  cf := some (fileOf pool5 2 #[.nestMembers #[106]] #[] 1057 12 #[111, 113, 115] #[{ accessFlags := 18, nameIndex := 5, descriptorIndex := 6, attributes := #[] }, { accessFlags := 18, nameIndex := 9, descriptorIndex := 10, attributes := #[] }, { accessFlags := 2, nameIndex := 19, descriptorIndex := 10, attributes := #[] }])
  fields := #[{ name := "name", type := (.object "java/lang/String"), accessFlags := 18, slot := 0, constantValue := 0 }, { name := "ordinal", type := .int, accessFlags := 18, slot := 1, constantValue := 0 }, { name := "hash", type := .int, accessFlags := 2, slot := 2, constantValue := 0 }]
  methods := #[]
  instanceTypes := #[(.object "java/lang/String"), .int, .int]
  staticTypes := #[]
  resolved := Array.replicate 204 none
  statics := none }

def pool6 : Array CpInfo := pool [(1, .class_ 2), (0, u "com/example/parlay/parlay/problems/tsp/MatrixFormat"), (2, u "FULL_MATRIX"), (0, u "Lcom/example/parlay/parlay/problems/tsp/MatrixFormat;"), (2, u "UPPER_ROW"), (2, u "LOWER_ROW"), (2, u "UPPER_DIAG_ROW"), (2, u "LOWER_DIAG_ROW"), (2, u "UPPER_COL"), (2, u "LOWER_COL"), (2, u "UPPER_DIAG_COL"), (2, u "LOWER_DIAG_COL"), (2, u "$VALUES"), (0, u "[Lcom/example/parlay/parlay/problems/tsp/MatrixFormat;"), (6, .class_ 43), (1, u "java/lang/Enum"), (8, u "left"), (0, u "Z"), (0, .fieldref 1 55), (0, .nameAndType 56 53), (0, u "diagonal"), (0, .fieldref 1 58), (0, .nameAndType 59 53), (0, u "right"), (10, u "end"), (0, u "(II)I")] 37

def k6c0 : Code := { maxStack := 2, maxLocals := 3, code := prog_73_method_5_code, exceptionTable := #[], attributes := #[] }
def k6m0 : Method := { name := "end", desc := "(II)I", sig := { parameters := [.int, .int], returnType := some .int }, accessFlags := 0, code := some k6c0 }
/-- com/example/parlay/parlay/problems/tsp/MatrixFormat -/
def k6 : Class := { plain "com/example/parlay/parlay/problems/tsp/MatrixFormat" (some 5) with
  accessFlags := 16432
  interfaces := #[]
  cf := some (fileOf pool6 1 #[] #[{ accessFlags := 0, nameIndex := 70, descriptorIndex := 71, attributes := #[] }] 16432 41 #[] #[{ accessFlags := 16409, nameIndex := 5, descriptorIndex := 6, attributes := #[] }, { accessFlags := 16409, nameIndex := 9, descriptorIndex := 6, attributes := #[] }, { accessFlags := 16409, nameIndex := 12, descriptorIndex := 6, attributes := #[] }, { accessFlags := 16409, nameIndex := 15, descriptorIndex := 6, attributes := #[] }, { accessFlags := 16409, nameIndex := 18, descriptorIndex := 6, attributes := #[] }, { accessFlags := 16409, nameIndex := 21, descriptorIndex := 6, attributes := #[] }, { accessFlags := 16409, nameIndex := 24, descriptorIndex := 6, attributes := #[] }, { accessFlags := 16409, nameIndex := 27, descriptorIndex := 6, attributes := #[] }, { accessFlags := 16409, nameIndex := 30, descriptorIndex := 6, attributes := #[] }, { accessFlags := 18, nameIndex := 52, descriptorIndex := 53, attributes := #[] }, { accessFlags := 18, nameIndex := 56, descriptorIndex := 53, attributes := #[] }, { accessFlags := 18, nameIndex := 59, descriptorIndex := 53, attributes := #[] }, { accessFlags := 4122, nameIndex := 33, descriptorIndex := 34, attributes := #[] }])
  fields := #[{ name := "FULL_MATRIX", type := (.object "com/example/parlay/parlay/problems/tsp/MatrixFormat"), accessFlags := 16409, slot := 0, constantValue := 0 }, { name := "UPPER_ROW", type := (.object "com/example/parlay/parlay/problems/tsp/MatrixFormat"), accessFlags := 16409, slot := 1, constantValue := 0 }, { name := "LOWER_ROW", type := (.object "com/example/parlay/parlay/problems/tsp/MatrixFormat"), accessFlags := 16409, slot := 2, constantValue := 0 }, { name := "UPPER_DIAG_ROW", type := (.object "com/example/parlay/parlay/problems/tsp/MatrixFormat"), accessFlags := 16409, slot := 3, constantValue := 0 }, { name := "LOWER_DIAG_ROW", type := (.object "com/example/parlay/parlay/problems/tsp/MatrixFormat"), accessFlags := 16409, slot := 4, constantValue := 0 }, { name := "UPPER_COL", type := (.object "com/example/parlay/parlay/problems/tsp/MatrixFormat"), accessFlags := 16409, slot := 5, constantValue := 0 }, { name := "LOWER_COL", type := (.object "com/example/parlay/parlay/problems/tsp/MatrixFormat"), accessFlags := 16409, slot := 6, constantValue := 0 }, { name := "UPPER_DIAG_COL", type := (.object "com/example/parlay/parlay/problems/tsp/MatrixFormat"), accessFlags := 16409, slot := 7, constantValue := 0 }, { name := "LOWER_DIAG_COL", type := (.object "com/example/parlay/parlay/problems/tsp/MatrixFormat"), accessFlags := 16409, slot := 8, constantValue := 0 }, { name := "left", type := .boolean, accessFlags := 18, slot := 3, constantValue := 0 }, { name := "diagonal", type := .boolean, accessFlags := 18, slot := 4, constantValue := 0 }, { name := "right", type := .boolean, accessFlags := 18, slot := 5, constantValue := 0 }, { name := "$VALUES", type := (.array (.object "com/example/parlay/parlay/problems/tsp/MatrixFormat")), accessFlags := 4122, slot := 9, constantValue := 0 }]
  methods := #[k6m0]
  instanceTypes := #[(.object "java/lang/String"), .int, .int, .boolean, .boolean, .boolean]
  staticTypes := #[(.object "com/example/parlay/parlay/problems/tsp/MatrixFormat"), (.object "com/example/parlay/parlay/problems/tsp/MatrixFormat"), (.object "com/example/parlay/parlay/problems/tsp/MatrixFormat"), (.object "com/example/parlay/parlay/problems/tsp/MatrixFormat"), (.object "com/example/parlay/parlay/problems/tsp/MatrixFormat"), (.object "com/example/parlay/parlay/problems/tsp/MatrixFormat"), (.object "com/example/parlay/parlay/problems/tsp/MatrixFormat"), (.object "com/example/parlay/parlay/problems/tsp/MatrixFormat"), (.object "com/example/parlay/parlay/problems/tsp/MatrixFormat"), (.array (.object "com/example/parlay/parlay/problems/tsp/MatrixFormat"))]
  resolved := Array.replicate 109 none
  statics := some 0 }

def pool7 : Array CpInfo := pool [(1, u "java/lang/Cloneable"), (0, .class_ 1), (0, u "java/lang/Object"), (0, .class_ 3)] 3

/-- java/lang/Cloneable -/
def k7 : Class := { plain "java/lang/Cloneable" (some 0) with
  accessFlags := 1537
  interfaces := #[]
  cf := some (fileOf pool7 2 #[] #[] 1537 4 #[] #[])
  fields := #[]
  methods := #[]
  instanceTypes := #[]
  staticTypes := #[]
  resolved := Array.replicate 8 none
  statics := none }

/-- the primitive byte -/
def k8 : Class := { plain "byte" none with kind := .primitive 'B', accessFlags := 0x411 }
/-- [B -/
def k9 : Class := { plain "[B" (some 0) with kind := .array 8 .byte, interfaces := #[7, 4], accessFlags := 1041 }

/-- the primitive int -/
def k10 : Class := { plain "int" none with kind := .primitive 'I', accessFlags := 0x411 }
/-- [I -/
def k11 : Class := { plain "[I" (some 0) with kind := .array 10 .int, interfaces := #[7, 4], accessFlags := 1041 }

def heap : Heap := #[{ cls := 6, slots := #[.ref 1, .ref 2, .ref 3, .ref 4, .ref 5, .ref 6, .ref 7, .ref 8, .ref 9, .null], vm := .statics 6 },
  { cls := 6, slots := #[.null, .int 0, .int 0, .int 1, .int 1, .int 1], vm := .none },
  { cls := 6, slots := #[.null, .int 1, .int 0, .int 1, .int 0, .int 1], vm := .none },
  { cls := 6, slots := #[.null, .int 2, .int 0, .int 1, .int 0, .int 0], vm := .none },
  { cls := 6, slots := #[.null, .int 3, .int 0, .int 1, .int 1, .int 1], vm := .none },
  { cls := 6, slots := #[.null, .int 4, .int 0, .int 1, .int 1, .int 0], vm := .none },
  { cls := 6, slots := #[.null, .int 5, .int 0, .int 1, .int 0, .int 0], vm := .none },
  { cls := 6, slots := #[.null, .int 6, .int 0, .int 1, .int 0, .int 1], vm := .none },
  { cls := 6, slots := #[.null, .int 7, .int 0, .int 1, .int 1, .int 0], vm := .none },
  { cls := 6, slots := #[.null, .int 8, .int 0, .int 1, .int 1, .int 1], vm := .none }]
def classes : Array Class := #[k0, k1, k2, k3, k4, k5, k6, k7, k8, k9, k10, k11]
def interned : List (Array UInt16 × Addr) := []
def slotsUsed : Nat := 64
def theMethod : MethodId := ⟨1, 3⟩
def args0 : Array Value := #[.int 5, .int 300, .int 7]
def aboutOver (below : List Frame) : State where
  vm := { classes := classes, interned := interned.toArray }
  heap := heap
  slotsUsed := slotsUsed
  threads := #[{ frames := .invoking theMethod args0 :: below }]
def below0 : List Frame := [.native { method := ⟨0, 0⟩, args := #[] }]
def about1 : State := aboutOver below0
def p0 : Program := .bare "" "" ""
def e0 : Env := launch0.env 0 0 0
theorem w_frames : about1.frames = Frame.invoking theMethod args0 :: below0 := rfl
set_option maxRecDepth 65536 in
theorem w_args : argsFit about1.vm theMethod args0 = true := by decide +kernel
set_option maxRecDepth 65536 in
theorem w_heap : heapFits about1 = true := by decide +kernel
set_option maxRecDepth 65536 in
theorem w_runnable : about1.curStatus? = some .runnable := by decide +kernel
set_option maxRecDepth 65536 in
theorem w_alone : about1.alone = true := by decide +kernel
set_option maxRecDepth 65536 in
theorem w_named : about1.methodNamed? x = some theMethod := by decide +kernel
set_option maxRecDepth 65536 in
theorem w_hears : about1.hears theMethod below0 = true := by decide +kernel
set_option maxRecDepth 65536 in
theorem w_ripe : about1.ripe theMethod args0 below0 = true := by decide +kernel
theorem w_running : about1.status = .running := rfl
set_option maxRecDepth 65536 in
theorem w_room : about1.hasRoom e0.platform room_1 = true :=
  launch0.hasRoom_least _ room_1 (by decide +kernel) (by decide +kernel) (by decide +kernel) (by decide +kernel) (by decide +kernel) (by decide +kernel)
theorem allAtoms_all (ts : List Jvm.Cond) (a : Array Jvm.Value) (st : Jvm.State) : (allAtoms ts).before a st = ts.all (fun c => c.before a st) := by
  induction ts with
  | nil => rfl
  | cons c t ih =>
    show (Jvm.Cond.and c (allAtoms t)).before a st = _
    rw [Jvm.Cond.before_and, ih, List.all_cons]
def words1 : List Jvm.Cond := Jvm.Cond.code x code maxLocals ret :: tables_1
/-- a 'code' word, met by the world's own term for the bytes: nothing is compared byte by byte -/
theorem code_word {y : MethodName} {bytes : ByteArray} {mx : Nat} {rt : Option FieldType} {a : Array Value} {s : State} {m : MethodId} {meth : Method} {c : Code} (h1 : s.methodNamed? y = some m) (h2 : s.vm.method? m = some meth) (h3 : meth.code = some c) (h4 : c.code = bytes)
    (h5 : (c.maxLocals == mx && c.exceptionTable.isEmpty && decide (c.maxStack ≤ mostOperands) && decide (meth.sig.returnType = rt) && !meth.locks && decide (parseMethodDescriptor y.desc = some meth.sig)) = true) : (Jvm.Cond.code y bytes mx rt).before a s = true := by
  simp only [Bool.and_eq_true, beq_iff_eq, Bool.not_eq_true', decide_eq_true_eq] at h5
  obtain ⟨⟨⟨⟨⟨g1, g2⟩, g3⟩, g4⟩, g5⟩, g6⟩ := h5
  simp [Cond.before, Cond.holds, Cond.value, h1, h2, h3, h4, g1, g2, g3, g4, g5, g6]
def isCode : Jvm.Cond → Bool
  | .code _ _ _ _ => true
  | _ => false
theorem all_split {L : List Jvm.Cond} {P : Jvm.Cond → Bool} (h1 : L.all (fun c => isCode c || P c) = true) (h2 : ∀ c ∈ L.filter isCode, P c = true) : L.all P = true := by
  refine List.all_eq_true.mpr fun c hc => ?_
  have h := List.all_eq_true.mp h1 c hc
  rcases Bool.eq_false_or_eq_true (isCode c) with hi | hi
  · exact h2 c (List.mem_filter.mpr ⟨hc, hi⟩)
  · simpa [hi] using h
set_option maxRecDepth 65536 in
theorem w_c0 : (Jvm.Cond.code x code maxLocals ret).before args0 about1 = true := code_word (m := ⟨1, 3⟩) (meth := k1m3) (c := k1c3) (by decide +kernel) rfl rfl rfl (by decide +kernel)
set_option maxRecDepth 65536 in
theorem w_c1 : (Jvm.Cond.code ({ cls := "com/example/parlay/parlay/problems/tsp/MatrixFormatEndPinLaw", name := "format", desc := "(I)Lcom/example/parlay/parlay/problems/tsp/MatrixFormat;" } : Jvm.MethodName) method_2_code (1 : Nat) (Option.some (Jvm.ClassFile.FieldType.object "com/example/parlay/parlay/problems/tsp/MatrixFormat"))).before args0 about1 = true := code_word (m := ⟨1, 1⟩) (meth := k1m1) (c := k1c1) (by decide +kernel) rfl rfl rfl (by decide +kernel)
set_option maxRecDepth 65536 in
theorem w_c2 : (Jvm.Cond.code ({ cls := "com/example/parlay/parlay/problems/tsp/MatrixFormat", name := "end", desc := "(II)I" } : Jvm.MethodName) prog_73_method_5_code (3 : Nat) (Option.some Jvm.ClassFile.FieldType.int)).before args0 about1 = true := code_word (m := ⟨6, 0⟩) (meth := k6m0) (c := k6c0) (by decide +kernel) rfl rfl rfl (by decide +kernel)
set_option maxRecDepth 65536 in
theorem w_c3 : (Jvm.Cond.code ({ cls := "com/example/parlay/parlay/problems/tsp/MatrixFormatEndPinLaw", name := "expected", desc := "(III)I" } : Jvm.MethodName) method_3_code (3 : Nat) (Option.some Jvm.ClassFile.FieldType.int)).before args0 about1 = true := code_word (m := ⟨1, 2⟩) (meth := k1m2) (c := k1c2) (by decide +kernel) rfl rfl rfl (by decide +kernel)
def codes1 : List Jvm.Cond := [Jvm.Cond.code x code maxLocals ret, Jvm.Cond.code ({ cls := "com/example/parlay/parlay/problems/tsp/MatrixFormatEndPinLaw", name := "format", desc := "(I)Lcom/example/parlay/parlay/problems/tsp/MatrixFormat;" } : Jvm.MethodName) method_2_code (1 : Nat) (Option.some (Jvm.ClassFile.FieldType.object "com/example/parlay/parlay/problems/tsp/MatrixFormat")), Jvm.Cond.code ({ cls := "com/example/parlay/parlay/problems/tsp/MatrixFormat", name := "end", desc := "(II)I" } : Jvm.MethodName) prog_73_method_5_code (3 : Nat) (Option.some Jvm.ClassFile.FieldType.int), Jvm.Cond.code ({ cls := "com/example/parlay/parlay/problems/tsp/MatrixFormatEndPinLaw", name := "expected", desc := "(III)I" } : Jvm.MethodName) method_3_code (3 : Nat) (Option.some Jvm.ClassFile.FieldType.int)]
set_option maxRecDepth 65536 in
theorem codes_eq : words1.filter isCode = codes1 := rfl
theorem w_codes : ∀ c ∈ words1.filter isCode, c.before args0 about1 = true := by
  rw [codes_eq]
  intro c hc
  simp only [codes1, List.mem_cons, List.not_mem_nil, or_false] at hc
  rcases hc with rfl | rfl | rfl | rfl
  · exact w_c0
  · exact w_c1
  · exact w_c2
  · exact w_c3
set_option maxRecDepth 65536 in
theorem w_t1 : (words1.take 24).all (fun c => isCode c || c.before args0 about1) = true := by decide +kernel
set_option maxRecDepth 65536 in
theorem w_t2 : (words1.drop 24).all (fun c => isCode c || c.before args0 about1) = true := by decide +kernel
theorem w_tables : (allAtoms (Jvm.Cond.code x code maxLocals ret :: tables_1)).before args0 about1 = true := by
  rw [allAtoms_all]
  show words1.all (fun c => c.before args0 about1) = true
  refine all_split ?_ w_codes
  rw [← List.take_append_drop 24 words1, List.all_append, w_t1, w_t2]
  rfl
set_option maxRecDepth 65536 in
theorem w_case : (Jvm.Cond.and given_1 narrow_1).before args0 about1 = true := by decide +kernel
theorem w_applies : (headSpec (Jvm.Cond.code x code maxLocals ret :: tables_1) room_1).applies x e0.platform about1 = true :=
  (Spec.applies_iff w_frames).mpr ⟨w_running, w_runnable, w_alone, w_named, w_hears, w_ripe, w_room, w_tables⟩
theorem atStart : AtStart classFile x code maxLocals ret World_1 tables_1 room_1 Calls_1 rest_1 Pre_1 launch0 p0 e0 about1 theMethod args0 below0 :=
  ⟨lists_1, trivial, launch0.admits_env _ _ _, launch0.least_env, fairChoices_fair.cas, fairChoices_fair.clock, w_frames, w_args, w_heap, w_applies, trivial, trivial, w_case⟩
end start1
theorem witness_1 : WitnessClaimed_1 := ⟨start1.p0, start1.e0, start1.about1, start1.theMethod, start1.args0, start1.below0, start1.atStart⟩
end Jvm.Pilot.@@N@@
