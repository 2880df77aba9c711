import JvmDerived
import JvmDerived.Pilot.@@N@@Statement
import JvmDerived.Pilot.@@N@@Code
set_option linter.unusedVariables false
set_option linter.unusedSimpArgs false
namespace Jvm.RoadKit
open Sem ClassFile Op Lib Jvm.Stand Jvm.Free Jvm.LawKit
section New
variable {p : Program} {l : Launch} {e : Env} {R : Room} {s : State} {m : MethodId} {args : Array Value} {below : List Frame} {meth : Method} {c : Code} {T : State} {locs : List Loc} {cells slots : Nat}
theorem retI (X : Stand p l e R s m args below meth c T locs cells slots) (hx : p.tables.exec = Jvm.exec) {pc : Nat} {Ls : Array Slot} {z : Int32} {rest : List Value} (hret : meth.sig.returnType = some .int) (hd : decode c.code pc = .ok (.ireturn, 1)) {fs : List Frame}
    (hl : ∀ (f : JFrame) (acts : List Action), f.method = m → f.locked = none → f.entered = [] → (doReturn e (T.setTop f) acts (some (.int z))).1 = T.setFrames fs) : Steps p.tables e below (T.setTop (mkF m pc Ls (.int z :: rest))) (T.setFrames fs) := by
  have hm' : T.vm.method? m = some meth := X.method'
  have hn : narrow .int (.int z) = .int z := rfl
  show Steps p.tables e below (T.setTop { method := m, pc := pc, locals := Ls, stack := _ :: rest, locked := none }) _
  jvm_step X.here [X.here.top, hx, hd, hm', hret, hn]
  first | (intro acts; rw [hl _ acts rfl rfl rfl]) | rw [hl _ _ rfl rfl rfl]
  exact Steps.refl _
end New
end Jvm.RoadKit
namespace Jvm.Pilot.@@N@@
open Jvm Jvm.ClassFile Sem Op Lib Jvm.Free Jvm.Stand Jvm.LawKit Jvm.RoadKit Bundle Jvm.Pilot.@@N@@.Jvm.D
/-! The walk in a goal-driven form: own_Fin says that the run from A comes to an end at which Q holds, within the frame. -/
def own_Fin (p : Program) (e : Env) (below : List Frame) (s : State) (Q : Option Value → Heap → List Loc → Prop) (kc ks : Nat) (A : State) : Prop :=
  ∃ s₂ o, Steps p.tables e below A s₂ ∧ s₂.status = .running ∧ Ended s₂ below o ∧ ∃ v L, o = .returned v ∧ Q v s₂.heap L ∧ FrameEnd s o s₂ L kc ks
theorem own_Fin.go {p : Program} {e : Env} {below : List Frame} {s : State} {Q : Option Value → Heap → List Loc → Prop} {kc ks : Nat} {A B : State} (st : ∀ t, Steps p.tables e below B t → Steps p.tables e below A t) (h : own_Fin p e below s Q kc ks B) : own_Fin p e below s Q kc ks A := by
  obtain ⟨s₂, o, h1, h2⟩ := h
  exact ⟨s₂, o, st _ h1, h2⟩
section OwnRet
variable {p : Program} {l : Launch} {e : Env} {R : Room} {s : State} {m : MethodId} {args : Array Value} {below : List Frame} {meth : Method} {c : Code} {T : State} {locs : List Loc} {cells slots : Nat} {Q : Option Value → Heap → List Loc → Prop} {kc ks : Nat}
theorem own_end (X : Stand p l e R s m args below meth c T locs cells slots) {v : Option Value} (hv : meth.sig.returnType = none → v = none) (hlocks : meth.locks = false) (hc : cells ≤ kc) (hs : slots ≤ ks) {A : State}
    (h : ∀ fs : List Frame, (∀ (f : JFrame) (acts : List Action), f.method = m → f.locked = none → f.entered = [] → (doReturn e (T.setTop f) acts v).1 = T.setFrames fs) → Steps p.tables e below A (T.setFrames fs)) (hQ : Q v T.heap locs) : own_Fin p e below s Q kc ks A := by
  obtain ⟨fs, hr, hrun, hended, hW, hsame⟩ := X.leave (v := v) hv hlocks
  exact ⟨_, _, h fs hr, hrun, hended, _, _, rfl, hQ, ⟨_, rfl⟩, hW, hsame.mono hc hs⟩
theorem own_retN (X : Stand p l e R s m args below meth c T locs cells slots) (hx : p.tables.exec = Jvm.exec) {pc : Nat} {Ls : Array Slot} {z w : Int32} {t : FieldType} {rest : List Value} (hret : meth.sig.returnType = some t) (ht : t = .boolean ∨ t = .byte ∨ t = .char ∨ t = .short)
    (hd : decode c.code pc = .ok (.ireturn, 1)) (hlocks : meth.locks = false) (hw : nar t z = w) (hc : cells ≤ kc) (hs : slots ≤ ks) (hQ : Q (some (.int w)) T.heap locs) : own_Fin p e below s Q kc ks (T.setTop (mkF m pc Ls (.int z :: rest))) :=
  own_end X (v := some (.int w)) (fun h => by rw [hret] at h; cases h) hlocks hc hs (fun fs hr => retN X hx hret ht hd (by rw [hw]; exact hr)) hQ
theorem own_retI (X : Stand p l e R s m args below meth c T locs cells slots) (hx : p.tables.exec = Jvm.exec) {pc : Nat} {Ls : Array Slot} {z : Int32} {rest : List Value} (hret : meth.sig.returnType = some .int)
    (hd : decode c.code pc = .ok (.ireturn, 1)) (hlocks : meth.locks = false) (hc : cells ≤ kc) (hs : slots ≤ ks) (hQ : Q (some (.int z)) T.heap locs) : own_Fin p e below s Q kc ks (T.setTop (mkF m pc Ls (.int z :: rest))) :=
  own_end X (v := some (.int z)) (fun h => by rw [hret] at h; cases h) hlocks hc hs (fun fs hr => retI X hx hret hd hr) hQ
theorem own_retJ (X : Stand p l e R s m args below meth c T locs cells slots) (hx : p.tables.exec = Jvm.exec) {pc : Nat} {Ls : Array Slot} {z : Int64} (hret : meth.sig.returnType = some .long)
    (hd : decode c.code pc = .ok (.lreturn, 1)) (hlocks : meth.locks = false) (hc : cells ≤ kc) (hs : slots ≤ ks) (hQ : Q (some (.long z)) T.heap locs) : own_Fin p e below s Q kc ks (T.setTop (mkF m pc Ls [.long z])) :=
  own_end X (v := some (.long z)) (fun h => by rw [hret] at h; cases h) hlocks hc hs (fun fs hr => X.lreturnOut hx hret hd hr) hQ
theorem own_retA (X : Stand p l e R s m args below meth c T locs cells slots) (hx : p.tables.exec = Jvm.exec) {pc : Nat} {Ls : Array Slot} {a : Addr} {t : FieldType} {rest : List Value} (hret : meth.sig.returnType = some t) (ht : t.isReference = true)
    (hd : decode c.code pc = .ok (.areturn, 1)) (hlocks : meth.locks = false) (hc : cells ≤ kc) (hs : slots ≤ ks) (hQ : Q (some (.ref a)) T.heap locs) : own_Fin p e below s Q kc ks (T.setTop (mkF m pc Ls (.ref a :: rest))) :=
  own_end X (v := some (.ref a)) (fun h => by rw [hret] at h; cases h) hlocks hc hs (fun fs hr => retOut X hx hret (by cases t <;> first | rfl | (simp [FieldType.isReference] at ht)) (Or.inr (Or.inr (Or.inr (Or.inr ⟨rfl, ht, rfl⟩)))) hd hr) hQ
theorem own_ret0 (X : Stand p l e R s m args below meth c T locs cells slots) (hx : p.tables.exec = Jvm.exec) {pc : Nat} {Ls : Array Slot} (hret : meth.sig.returnType = none)
    (hd : decode c.code pc = .ok (.return_, 1)) (hlocks : meth.locks = false) (hc : cells ≤ kc) (hs : slots ≤ ks) (hQ : Q none T.heap locs) : own_Fin p e below s Q kc ks (T.setTop (mkF m pc Ls [])) :=
  own_end X (v := none) (fun _ => rfl) hlocks hc hs (fun fs hr => X.returnOut hx hret hd hr) hQ
end OwnRet
theorem own_selp {s : State} {args args' : Array Value} {C : String} {y w : MethodName} (hw : (Jvm.Cond.selects C w w).before args s = true) (hcls : w.cls = y.cls) (hpriv : s.PrivateAt y) (hinst : (Jvm.Cond.instanceMethod y).before args s = true) (hy : y.cls ≠ "java/lang/invoke/MethodHandle" ∧ y.cls ≠ "java/lang/invoke/VarHandle") : (Jvm.Cond.selects y.cls y y).before args' s = true := by
  obtain ⟨c2, r2, m2, -, -, q3, -, kP, hkP, hkPi⟩ := Cond.selects_spec hw
  exact selects_self_of_private (by rw [← hcls]; exact findClass_of_methodNamed q3) hkP hkPi hpriv hinst hy
theorem own_eqInt {args : Array Value} {first s : State} {o : Option Outcome} {idx : List Nat} {t : Term} {n : Int32} (h : (Jvm.Cond.eq t (.int n)).value args first o s idx = some true) : t.eval args first o idx s = some (.int n) := by
  cases ht : t.eval args first o idx s with
  | none => simp [Jvm.Cond.value, ht] at h
  | some x => cases x <;> simp [Jvm.Cond.value, ht, Term.eval] at h ⊢; exact h
theorem own_fld {args : Array Value} {first s : State} {o : Option Outcome} {idx : List Nat} {t : Term} {C n d : String} {a : Addr} {v : Value} (ht : t.eval args first o idx s = some (.ref a)) (h : (Term.field t C n d).eval args first o idx s = some v) : s.fieldOf? a C n d = some v := by
  rw [← fld_at ht]; exact h
def own_gr (p b : Int32) : Int32 := if (p &&& b) = 0 then 0 else 1
def own_sh (p k : Int32) : Int32 := ((p.toUInt32 >>> (k &&& 31).toUInt32).toInt32)
theorem own_sh_bv (x : Int32) (k : Int32) (n : Nat) (hk : (k &&& 31).toUInt32.toBitVec.toNat % 32 = n) : (own_sh x k).toBitVec = x.toBitVec >>> n := by
  subst hk
  show x.toUInt32.toBitVec >>> (((k &&& 31).toUInt32).toBitVec % 32) = _
  rw [BitVec.ushiftRight_eq', BitVec.toNat_umod]
  rfl
theorem own_bv (x : BitVec 32) (n : Nat) (hn : n < 32) : ((x >>> n) &&& 1#32 = 1#32) ↔ ¬ (x &&& BitVec.twoPow 32 n = 0#32) := by
  rw [BitVec.and_twoPow, BitVec.and_one_eq_setWidth_ofBool_getLsbD, BitVec.getLsbD_ushiftRight, Nat.add_zero]
  cases x.getLsbD n
  · simp
  · have h : BitVec.twoPow 32 n ≠ 0#32 := by
      intro q
      have := congrArg (fun z => z.getLsbD n) q
      simp [BitVec.getLsbD_twoPow, hn] at this
    simp [h]
theorem own_key (p k b : Int32) (n : Nat) (hn : n < 32) (hk : (k &&& 31).toUInt32.toBitVec.toNat % 32 = n) (hb : b.toBitVec = BitVec.twoPow 32 n) : ((own_sh p k &&& 1) = 1) ↔ ¬ ((p &&& b) = 0) := by
  rw [← Int32.toBitVec_inj, ← Int32.toBitVec_inj, Int32.toBitVec_and, Int32.toBitVec_and, own_sh_bv p k n hk, hb]
  exact own_bv p.toBitVec n hn
theorem own_t (p k b : Int32) (n : Nat) (hn : n < 32) (hk : (k &&& 31).toUInt32.toBitVec.toNat % 32 = n) (hb : b.toBitVec = BitVec.twoPow 32 n) (h : (own_sh p k &&& 1) = 1) : own_gr p b = 1 := if_neg ((own_key p k b n hn hk hb).mp h)
theorem own_f (p k b : Int32) (n : Nat) (hn : n < 32) (hk : (k &&& 31).toUInt32.toBitVec.toNat % 32 = n) (hb : b.toBitVec = BitVec.twoPow 32 n) (h : ¬ (own_sh p k &&& 1) = 1) : own_gr p b = 0 := if_pos (Decidable.of_not_not fun q => h ((own_key p k b n hn hk hb).mpr q))
theorem own_dgr_0 : decode prog_46_method_6_code 0 = .ok (.iload_n 1, 1) := by decide +kernel
theorem own_dgr_1 : decode prog_46_method_6_code 1 = .ok (.aload_n 0, 1) := by decide +kernel
theorem own_dgr_2 : decode prog_46_method_6_code 2 = .ok (.getfield 38, 3) := by decide +kernel
theorem own_dgr_5 : decode prog_46_method_6_code 5 = .ok (.iand, 1) := by decide +kernel
theorem own_dgr_6 : decode prog_46_method_6_code 6 = .ok (.ifCond .eq 7, 3) := by decide +kernel
theorem own_dgr_9 : decode prog_46_method_6_code 9 = .ok (.iconst 1, 1) := by decide +kernel
theorem own_dgr_10 : decode prog_46_method_6_code 10 = .ok (.goto 4, 3) := by decide +kernel
theorem own_dgr_13 : decode prog_46_method_6_code 13 = .ok (.iconst 0, 1) := by decide +kernel
theorem own_dgr_14 : decode prog_46_method_6_code 14 = .ok (.ireturn, 1) := by decide +kernel
theorem own_pn0 : plainName "com/example/stentor/stentor/protocol/Permission" = true := by first | (simp [plainName, overriddenIn]; done) | decide +kernel
theorem own_ef_gr (m : MethodId) (oa : Addr) (va : Int32) : entryFrame m #[(.ref oa), (.int va)] 2 = mkF m 0 #[.val (.ref oa), .val (.int va)] [] := by first | (simp [entryFrame, mkF, argsToLocals, Value.category]; done) | rfl
def own_Q_gr (Z : State) (oa : Addr) (va : Int32) (ua : Int32) (h0 : Heap) (n0 : Nat) (v : Option Value) (h : Heap) (L : List Loc) : Prop := v = some (.int (own_gr va ua)) ∧ Fr n0 L ∧ h = h0
set_option maxRecDepth 65536 in
set_option maxHeartbeats 40000000 in
theorem own_rm_gr (l : Launch) (Z : State) (a0 : Array Value) (hw : ∀ d ∈ tables_1, d.before a0 Z = true) (ws : List Jvm.Cond) (oa : Addr) (va : Int32) (ua : Int32) (h0 : Heap) (n0 : Nat) (Z0 : n0 ≤ h0.size) (F_oa_bit : Fld Z h0 oa "com/example/stentor/stentor/protocol/Permission" "bit" "I" (.int ua)) :
    MetFree l (⟨"com/example/stentor/stentor/protocol/Permission", "grantedBy", "(I)Z"⟩ : MethodName) (head1 (Jvm.Cond.code (⟨"com/example/stentor/stentor/protocol/Permission", "grantedBy", "(I)Z"⟩ : MethodName) prog_46_method_6_code 2 (some .boolean) :: ws) ({ frames := 0, cells := 0, slots := 0, locals := 0 } : Room)) (fun a U => a = #[(.ref oa), (.int va)] ∧ Z.Warmed39 U.vm ∧ U.heap = h0) (fun _ _ _ _ _ => True) (fun _ U o U' => ∃ v L, o = .returned v ∧ own_Q_gr Z oa va ua h0 n0 v U'.heap L ∧ FrameEnd U o U' L ({ frames := 0, cells := 0, slots := 0, locals := 0 } : Room).cells ({ frames := 0, cells := 0, slots := 0, locals := 0 } : Room).slots) := by
  refine MetFree.of_bodySF (plainFor_of_name own_pn0) hisR ?_
  intro p e s m args below meth c s₁ Bd hml0 hP hK
  obtain ⟨rfl, hZ, hh⟩ := hP
  have hx := Bd.exec
  have hby := Bd.bytes
  have hml : c.maxLocals = 2 := hml0
  have hown : s.vm.findClass "com/example/stentor/stentor/protocol/Permission" = some m.cls := findClass_of_methodNamed Bd.named
  have hnm := (name_of_methodNamed Bd.named Bd.method).1
  have X0 : Stand p l e ({ frames := 0, cells := 0, slots := 0, locals := 0 } : Room) s m #[(.ref oa), (.int va)] below meth c s₁ [] 0 0 := Stand.of_body Bd
  have e0 : s₁.heap = h0 := by rw [← hh, Bd.state]; rfl
  have N0 := Fr.nil n0
  show own_Fin p e below s (own_Q_gr Z oa va ua h0 n0) ({ frames := 0, cells := 0, slots := 0, locals := 0 } : Room).cells ({ frames := 0, cells := 0, slots := 0, locals := 0 } : Room).slots (s₁.setTop (entryFrame m #[(.ref oa), (.int va)] 2))
  refine own_Fin.go (fun t k => castTop (own_ef_gr m oa va) k) ?_
  refine own_Fin.go (fun t k => XS.iloadN X0.here hx rfl (hb hby own_dgr_0) rfl k) ?_
  show own_Fin _ _ _ _ _ _ _ (s₁.setTop (mkF m 1 #[.val (.ref oa), .val (.int va)] [(.int va)]))
  refine own_Fin.go (fun t k => XS.aloadN X0.here hx rfl (hb hby own_dgr_1) rfl rfl k) ?_
  show own_Fin _ _ _ _ _ _ _ (s₁.setTop (mkF m 2 #[.val (.ref oa), .val (.int va)] [(.ref oa), (.int va)]))
  obtain ⟨T1, X1, e1, st1⟩ := getF X0 hx hZ hown (host := "") (Or.inl (hw _ (List.mem_of_getElem? (i := 9) rfl))) Via.refl e0 F_oa_bit (g := (mkF m 2 #[.val (.ref oa), .val (.int va)] [(.ref oa), (.int va)])) rfl rfl (hb hby own_dgr_2)
  refine own_Fin.go st1 ?_
  show own_Fin _ _ _ _ _ _ _ (T1.setTop (mkF m 5 #[.val (.ref oa), .val (.int va)] [(.int ua), (.int va)]))
  refine own_Fin.go (fun t k => XS.iand X1.here hx rfl (hb hby own_dgr_5) rfl k) ?_
  show own_Fin _ _ _ _ _ _ _ (T1.setTop (mkF m 6 #[.val (.ref oa), .val (.int va)] [(.int (va &&& ua))]))
  by_cases hc6 : (va &&& ua) = (0 : Int32)
  · refine own_Fin.go (fun t k => XS.ifYes X1.here hx rfl (pc0 := 6) (pc' := 13) rfl (hb hby own_dgr_6) rfl (Jvm.Free.XT.i0_eq_t hc6) (by decide) (by decide) k) ?_
    show own_Fin _ _ _ _ _ _ _ (T1.setTop (mkF m 13 #[.val (.ref oa), .val (.int va)] []))
    refine own_Fin.go (fun t k => XS.iconst X1.here hx rfl (hb hby own_dgr_13) k) ?_
    show own_Fin _ _ _ _ _ _ _ (T1.setTop (mkF m 14 #[.val (.ref oa), .val (.int va)] [(.int (0 : Int32))]))
    refine own_retN X1 hx (t := .boolean) (w := (0 : Int32)) Bd.returns (by simp) (hb hby own_dgr_14) Bd.notSynchronized rfl (by decide) (by decide) ?_
    rw [e1]
    exact ⟨by simp only [own_gr, if_pos hc6], N0, rfl⟩
  · refine own_Fin.go (fun t k => XS.ifNo X1.here hx rfl (hb hby own_dgr_6) rfl (Jvm.Free.XT.i0_eq_f hc6) k) ?_
    show own_Fin _ _ _ _ _ _ _ (T1.setTop (mkF m 9 #[.val (.ref oa), .val (.int va)] []))
    refine own_Fin.go (fun t k => XS.iconst X1.here hx rfl (hb hby own_dgr_9) k) ?_
    show own_Fin _ _ _ _ _ _ _ (T1.setTop (mkF m 10 #[.val (.ref oa), .val (.int va)] [(.int (1 : Int32))]))
    refine own_Fin.go (fun t k => XS.goto X1.here hx rfl (pc0 := 10) (pc' := 14) rfl (hb hby own_dgr_10) (by decide) (by decide) k) ?_
    show own_Fin _ _ _ _ _ _ _ (T1.setTop (mkF m 14 #[.val (.ref oa), .val (.int va)] [(.int (1 : Int32))]))
    refine own_retN X1 hx (t := .boolean) (w := (1 : Int32)) Bd.returns (by simp) (hb hby own_dgr_14) Bd.notSynchronized rfl (by decide) (by decide) ?_
    rw [e1]
    exact ⟨by simp only [own_gr, if_neg hc6], N0, rfl⟩
theorem own_pd0 : parseMethodDescriptor "(I)Z" = some ⟨[.int], some .boolean⟩ := by decide +kernel
theorem own_pn1 : plainName "com/example/stentor/stentor/protocol/PermissionGrantedByPinLaw" = true := by first | (simp [plainName, overriddenIn]; done) | decide +kernel
theorem own_ef_law (m : MethodId) (va : Int32) (vb : Int32) : entryFrame m #[(.int va), (.int vb)] maxLocals = mkF m 0 #[.val (.int va), .val (.int vb), .unset, .unset, .unset, .unset] [] := by first | (simp [entryFrame, mkF, argsToLocals, Value.category, maxLocals]; done) | rfl
def own_Q_law (Z : State) (va : Int32) (vb : Int32) (oCREATE : Addr) (oADMIN : Addr) (oWRITE : Addr) (oDELETE : Addr) (oREAD : Addr) (h0 : Heap) (n0 : Nat) (v : Option Value) (h : Heap) (L : List Loc) : Prop := v = some (.int (1 : Int32)) ∧ Fr n0 L
set_option maxRecDepth 65536 in
set_option maxHeartbeats 40000000 in
theorem own_rm_law (l : Launch) (Z : State) (a0 : Array Value) (hw : ∀ d ∈ tables_1, d.before a0 Z = true) (ws : List Jvm.Cond) (va : Int32) (vb : Int32) (oCREATE : Addr) (oADMIN : Addr) (oWRITE : Addr) (oDELETE : Addr) (oREAD : Addr) (h0 : Heap) (n0 : Nat) (Z0 : n0 ≤ h0.size) (S_CREATE : Sta Z h0 "com/example/stentor/stentor/protocol/Permission" "CREATE" "Lcom/example/stentor/stentor/protocol/Permission;" (.ref oCREATE)) (E_oCREATE : Exa Z h0 oCREATE "com/example/stentor/stentor/protocol/Permission") (S_ADMIN : Sta Z h0 "com/example/stentor/stentor/protocol/Permission" "ADMIN" "Lcom/example/stentor/stentor/protocol/Permission;" (.ref oADMIN)) (E_oADMIN : Exa Z h0 oADMIN "com/example/stentor/stentor/protocol/Permission") (S_WRITE : Sta Z h0 "com/example/stentor/stentor/protocol/Permission" "WRITE" "Lcom/example/stentor/stentor/protocol/Permission;" (.ref oWRITE)) (E_oWRITE : Exa Z h0 oWRITE "com/example/stentor/stentor/protocol/Permission") (S_DELETE : Sta Z h0 "com/example/stentor/stentor/protocol/Permission" "DELETE" "Lcom/example/stentor/stentor/protocol/Permission;" (.ref oDELETE)) (E_oDELETE : Exa Z h0 oDELETE "com/example/stentor/stentor/protocol/Permission") (S_READ : Sta Z h0 "com/example/stentor/stentor/protocol/Permission" "READ" "Lcom/example/stentor/stentor/protocol/Permission;" (.ref oREAD)) (E_oREAD : Exa Z h0 oREAD "com/example/stentor/stentor/protocol/Permission") (F_oCREATE_bit : Fld Z h0 oCREATE "com/example/stentor/stentor/protocol/Permission" "bit" "I" (.int (4 : Int32))) (F_oADMIN_bit : Fld Z h0 oADMIN "com/example/stentor/stentor/protocol/Permission" "bit" "I" (.int (16 : Int32))) (F_oWRITE_bit : Fld Z h0 oWRITE "com/example/stentor/stentor/protocol/Permission" "bit" "I" (.int (2 : Int32))) (F_oDELETE_bit : Fld Z h0 oDELETE "com/example/stentor/stentor/protocol/Permission" "bit" "I" (.int (8 : Int32))) (F_oREAD_bit : Fld Z h0 oREAD "com/example/stentor/stentor/protocol/Permission" "bit" "I" (.int (1 : Int32))) :
    MetFree l x (head1 (Jvm.Cond.code x code maxLocals ret :: ws) room_1) (fun a U => a = #[(.int va), (.int vb)] ∧ Z.Warmed39 U.vm ∧ U.heap = h0) (fun _ _ _ _ _ => True) (fun _ U o U' => ∃ v L, o = .returned v ∧ own_Q_law Z va vb oCREATE oADMIN oWRITE oDELETE oREAD h0 n0 v U'.heap L ∧ FrameEnd U o U' L room_1.cells room_1.slots) := by
  refine MetFree.of_bodySF (plainFor_of_name own_pn1) hisR ?_
  intro p e s m args below meth c s₁ Bd hml0 hP hK
  obtain ⟨rfl, hZ, hh⟩ := hP
  have hx := Bd.exec
  have hby := Bd.bytes
  have hml : c.maxLocals = 6 := hml0
  have hown : s.vm.findClass "com/example/stentor/stentor/protocol/PermissionGrantedByPinLaw" = some m.cls := findClass_of_methodNamed Bd.named
  have hnm := (name_of_methodNamed Bd.named Bd.method).1
  have X0 : Stand p l e room_1 s m #[(.int va), (.int vb)] below meth c s₁ [] 0 0 := Stand.of_body Bd
  have e0 : s₁.heap = h0 := by rw [← hh, Bd.state]; rfl
  have N0 := Fr.nil n0
  show own_Fin p e below s (own_Q_law Z va vb oCREATE oADMIN oWRITE oDELETE oREAD h0 n0) room_1.cells room_1.slots (s₁.setTop (entryFrame m #[(.int va), (.int vb)] maxLocals))
  refine own_Fin.go (fun t k => castTop (own_ef_law m va vb) k) ?_
  refine own_Fin.go (fun t k => XS.iloadN X0.here hx rfl (hb hby at_0) rfl k) ?_
  show own_Fin _ _ _ _ _ _ _ (s₁.setTop (mkF m 1 #[.val (.int va), .val (.int vb), .unset, .unset, .unset, .unset] [(.int va)]))
  refine own_Fin.go (fun t k => X0.ldcInt hx hown (mvT hZ (hw _ (List.mem_of_getElem? (i := 0) rfl))) (g := (mkF m 1 #[.val (.int va), .val (.int vb), .unset, .unset, .unset, .unset] [(.int va)])) rfl (hb hby at_1) t k) ?_
  show own_Fin _ _ _ _ _ _ _ (s₁.setTop (mkF m 3 #[.val (.int va), .val (.int vb), .unset, .unset, .unset, .unset] [(.int (2147483647 : Int32)), (.int va)]))
  refine own_Fin.go (fun t k => XS.iand X0.here hx rfl (hb hby at_3) rfl k) ?_
  show own_Fin _ _ _ _ _ _ _ (s₁.setTop (mkF m 4 #[.val (.int va), .val (.int vb), .unset, .unset, .unset, .unset] [(.int (va &&& (2147483647 : Int32)))]))
  refine own_Fin.go (fun t k => XS.iconst X0.here hx rfl (hb hby at_4) k) ?_
  show own_Fin _ _ _ _ _ _ _ (s₁.setTop (mkF m 5 #[.val (.int va), .val (.int vb), .unset, .unset, .unset, .unset] [(.int (5 : Int32)), (.int (va &&& (2147483647 : Int32)))]))
  refine own_Fin.go (fun t k => iremM X0 hx rfl (hb hby at_5) rfl (by decide) k) ?_
  show own_Fin _ _ _ _ _ _ _ (s₁.setTop (mkF m 6 #[.val (.int va), .val (.int vb), .unset, .unset, .unset, .unset] [(.int ((va &&& (2147483647 : Int32)) % (5 : Int32)))]))
  refine own_Fin.go (fun t k => XS.istoreN X0.here hx rfl (hb hby at_6) rfl (l' := #[.val (.int va), .val (.int vb), .val (.int ((va &&& (2147483647 : Int32)) % (5 : Int32))), .unset, .unset, .unset]) rfl k) ?_
  show own_Fin _ _ _ _ _ _ _ (s₁.setTop (mkF m 7 #[.val (.int va), .val (.int vb), .val (.int ((va &&& (2147483647 : Int32)) % (5 : Int32))), .unset, .unset, .unset] []))
  refine own_Fin.go (fun t k => XS.iloadN X0.here hx rfl (hb hby at_7) rfl k) ?_
  show own_Fin _ _ _ _ _ _ _ (s₁.setTop (mkF m 8 #[.val (.int va), .val (.int vb), .val (.int ((va &&& (2147483647 : Int32)) % (5 : Int32))), .unset, .unset, .unset] [(.int ((va &&& (2147483647 : Int32)) % (5 : Int32)))]))
  by_cases hc8 : ((va &&& (2147483647 : Int32)) % (5 : Int32)) = (0 : Int32)
  · refine own_Fin.go (fun t k => XS.ifNo X0.here hx rfl (hb hby at_8) rfl (Jvm.Free.XT.i0_ne_f hc8) k) ?_
    show own_Fin _ _ _ _ _ _ _ (s₁.setTop (mkF m 11 #[.val (.int va), .val (.int vb), .val (.int ((va &&& (2147483647 : Int32)) % (5 : Int32))), .unset, .unset, .unset] []))
    obtain ⟨T1, X1, e1, st1⟩ := getS2 X0 hx hZ hown (host := "") (Or.inl (hw _ (List.mem_of_getElem? (i := 1) rfl))) Via.refl e0 S_CREATE (g := (mkF m 11 #[.val (.int va), .val (.int vb), .val (.int ((va &&& (2147483647 : Int32)) % (5 : Int32))), .unset, .unset, .unset] [])) rfl (hb hby at_11)
    refine own_Fin.go st1 ?_
    show own_Fin _ _ _ _ _ _ _ (T1.setTop (mkF m 14 #[.val (.int va), .val (.int vb), .val (.int ((va &&& (2147483647 : Int32)) % (5 : Int32))), .unset, .unset, .unset] [(.ref oCREATE)]))
    refine own_Fin.go (fun t k => XS.astoreN X1.here hx rfl (hb hby at_14) rfl rfl (l' := #[.val (.int va), .val (.int vb), .val (.int ((va &&& (2147483647 : Int32)) % (5 : Int32))), .val (.ref oCREATE), .unset, .unset]) rfl k) ?_
    show own_Fin _ _ _ _ _ _ _ (T1.setTop (mkF m 15 #[.val (.int va), .val (.int vb), .val (.int ((va &&& (2147483647 : Int32)) % (5 : Int32))), .val (.ref oCREATE), .unset, .unset] []))
    refine own_Fin.go (fun t k => XS.iconst X1.here hx rfl (hb hby at_15) k) ?_
    show own_Fin _ _ _ _ _ _ _ (T1.setTop (mkF m 16 #[.val (.int va), .val (.int vb), .val (.int ((va &&& (2147483647 : Int32)) % (5 : Int32))), .val (.ref oCREATE), .unset, .unset] [(.int (2 : Int32))]))
    refine own_Fin.go (fun t k => XS.istore X1.here hx rfl (hb hby at_16) rfl (l' := #[.val (.int va), .val (.int vb), .val (.int ((va &&& (2147483647 : Int32)) % (5 : Int32))), .val (.ref oCREATE), .val (.int (2 : Int32)), .unset]) rfl k) ?_
    show own_Fin _ _ _ _ _ _ _ (T1.setTop (mkF m 18 #[.val (.int va), .val (.int vb), .val (.int ((va &&& (2147483647 : Int32)) % (5 : Int32))), .val (.ref oCREATE), .val (.int (2 : Int32)), .unset] []))
    refine own_Fin.go (fun t k => XS.goto X1.here hx rfl (pc0 := 18) (pc' := 73) rfl (hb hby at_18) (by decide) (by decide) k) ?_
    show own_Fin _ _ _ _ _ _ _ (T1.setTop (mkF m 73 #[.val (.int va), .val (.int vb), .val (.int ((va &&& (2147483647 : Int32)) % (5 : Int32))), .val (.ref oCREATE), .val (.int (2 : Int32)), .unset] []))
    refine own_Fin.go (fun t k => XS.iloadN X1.here hx rfl (hb hby at_73) rfl k) ?_
    show own_Fin _ _ _ _ _ _ _ (T1.setTop (mkF m 74 #[.val (.int va), .val (.int vb), .val (.int ((va &&& (2147483647 : Int32)) % (5 : Int32))), .val (.ref oCREATE), .val (.int (2 : Int32)), .unset] [(.int vb)]))
    refine own_Fin.go (fun t k => XS.iload X1.here hx rfl (hb hby at_74) rfl k) ?_
    show own_Fin _ _ _ _ _ _ _ (T1.setTop (mkF m 76 #[.val (.int va), .val (.int vb), .val (.int ((va &&& (2147483647 : Int32)) % (5 : Int32))), .val (.ref oCREATE), .val (.int (2 : Int32)), .unset] [(.int (2 : Int32)), (.int vb)]))
    refine own_Fin.go (fun t k => XS.iushr X1.here hx rfl (hb hby at_76) rfl k) ?_
    show own_Fin _ _ _ _ _ _ _ (T1.setTop (mkF m 77 #[.val (.int va), .val (.int vb), .val (.int ((va &&& (2147483647 : Int32)) % (5 : Int32))), .val (.ref oCREATE), .val (.int (2 : Int32)), .unset] [(.int ((vb.toUInt32 >>> ((2 : Int32) &&& 31).toUInt32).toInt32))]))
    refine own_Fin.go (fun t k => XS.iconst X1.here hx rfl (hb hby at_77) k) ?_
    show own_Fin _ _ _ _ _ _ _ (T1.setTop (mkF m 78 #[.val (.int va), .val (.int vb), .val (.int ((va &&& (2147483647 : Int32)) % (5 : Int32))), .val (.ref oCREATE), .val (.int (2 : Int32)), .unset] [(.int (1 : Int32)), (.int ((vb.toUInt32 >>> ((2 : Int32) &&& 31).toUInt32).toInt32))]))
    refine own_Fin.go (fun t k => XS.iand X1.here hx rfl (hb hby at_78) rfl k) ?_
    show own_Fin _ _ _ _ _ _ _ (T1.setTop (mkF m 79 #[.val (.int va), .val (.int vb), .val (.int ((va &&& (2147483647 : Int32)) % (5 : Int32))), .val (.ref oCREATE), .val (.int (2 : Int32)), .unset] [(.int (((vb.toUInt32 >>> ((2 : Int32) &&& 31).toUInt32).toInt32) &&& (1 : Int32)))]))
    refine own_Fin.go (fun t k => XS.iconst X1.here hx rfl (hb hby at_79) k) ?_
    show own_Fin _ _ _ _ _ _ _ (T1.setTop (mkF m 80 #[.val (.int va), .val (.int vb), .val (.int ((va &&& (2147483647 : Int32)) % (5 : Int32))), .val (.ref oCREATE), .val (.int (2 : Int32)), .unset] [(.int (1 : Int32)), (.int (((vb.toUInt32 >>> ((2 : Int32) &&& 31).toUInt32).toInt32) &&& (1 : Int32)))]))
    by_cases hc80 : (((vb.toUInt32 >>> ((2 : Int32) &&& 31).toUInt32).toInt32) &&& (1 : Int32)) = (1 : Int32)
    · refine own_Fin.go (fun t k => XS.icmpNo X1.here hx rfl (hb hby at_80) rfl (Jvm.Free.XT.ii_ne_f hc80) k) ?_
      show own_Fin _ _ _ _ _ _ _ (T1.setTop (mkF m 83 #[.val (.int va), .val (.int vb), .val (.int ((va &&& (2147483647 : Int32)) % (5 : Int32))), .val (.ref oCREATE), .val (.int (2 : Int32)), .unset] []))
      refine own_Fin.go (fun t k => XS.iconst X1.here hx rfl (hb hby at_83) k) ?_
      show own_Fin _ _ _ _ _ _ _ (T1.setTop (mkF m 84 #[.val (.int va), .val (.int vb), .val (.int ((va &&& (2147483647 : Int32)) % (5 : Int32))), .val (.ref oCREATE), .val (.int (2 : Int32)), .unset] [(.int (1 : Int32))]))
      refine own_Fin.go (fun t k => XS.goto X1.here hx rfl (pc0 := 84) (pc' := 88) rfl (hb hby at_84) (by decide) (by decide) k) ?_
      show own_Fin _ _ _ _ _ _ _ (T1.setTop (mkF m 88 #[.val (.int va), .val (.int vb), .val (.int ((va &&& (2147483647 : Int32)) % (5 : Int32))), .val (.ref oCREATE), .val (.int (2 : Int32)), .unset] [(.int (1 : Int32))]))
      refine own_Fin.go (fun t k => XS.istore X1.here hx rfl (hb hby at_88) rfl (l' := #[.val (.int va), .val (.int vb), .val (.int ((va &&& (2147483647 : Int32)) % (5 : Int32))), .val (.ref oCREATE), .val (.int (2 : Int32)), .val (.int (1 : Int32))]) rfl k) ?_
      show own_Fin _ _ _ _ _ _ _ (T1.setTop (mkF m 90 #[.val (.int va), .val (.int vb), .val (.int ((va &&& (2147483647 : Int32)) % (5 : Int32))), .val (.ref oCREATE), .val (.int (2 : Int32)), .val (.int (1 : Int32))] []))
      refine own_Fin.go (fun t k => XS.aloadN X1.here hx rfl (hb hby at_90) rfl rfl k) ?_
      show own_Fin _ _ _ _ _ _ _ (T1.setTop (mkF m 91 #[.val (.int va), .val (.int vb), .val (.int ((va &&& (2147483647 : Int32)) % (5 : Int32))), .val (.ref oCREATE), .val (.int (2 : Int32)), .val (.int (1 : Int32))] [(.ref oCREATE)]))
      refine own_Fin.go (fun t k => XS.iloadN X1.here hx rfl (hb hby at_91) rfl k) ?_
      show own_Fin _ _ _ _ _ _ _ (T1.setTop (mkF m 92 #[.val (.int va), .val (.int vb), .val (.int ((va &&& (2147483647 : Int32)) % (5 : Int32))), .val (.ref oCREATE), .val (.int (2 : Int32)), .val (.int (1 : Int32))] [(.int vb), (.ref oCREATE)]))
      obtain ⟨cq2, kq2, q2a, q2b, q2c⟩ := isOf hZ e1 E_oCREATE
      obtain ⟨_, _, ⟨T2, L2, k2, n2⟩, -, X2, ⟨Lc2, hQ2, l2, y2, z2⟩, st2⟩ := X1.virtualBack hx (y := (⟨"com/example/stentor/stentor/protocol/Permission", "grantedBy", "(I)Z"⟩ : MethodName)) (z := (⟨"com/example/stentor/stentor/protocol/Permission", "grantedBy", "(I)Z"⟩ : MethodName)) hown (mvT hZ (hw _ (List.mem_of_getElem? (i := 4) rfl))) (mvT hZ (hw _ (List.mem_of_getElem? (i := 5) rfl))) (notFace_of_selects (args := #[]) (mvT hZ (hw _ (List.mem_of_getElem? (i := 7) rfl)))) (mvT hZ (hw _ (List.mem_of_getElem? (i := 7) rfl))) (mvT hZ (hw _ (List.mem_of_getElem? (i := 6) rfl))) (by decide) (backOf (W := 0) (own_rm_gr l Z a0 hw [] oCREATE vb (4 : Int32) h0 n0 Z0 F_oCREATE_bit) hZ (hw _ (List.mem_of_getElem? (i := 8) rfl)) (hw _ (List.mem_of_getElem? (i := 2) rfl)) (by decide) (by decide)) q2a q2c (g := (mkF m 92 #[.val (.int va), .val (.int vb), .val (.int ((va &&& (2147483647 : Int32)) % (5 : Int32))), .val (.ref oCREATE), .val (.int (2 : Int32)), .val (.int (1 : Int32))] [(.int vb), (.ref oCREATE)])) rfl (by rw [hml]; rfl) (Steps.refl _) (argsL := [(.int vb)]) (rest := []) (lenOf own_pd0 rfl) rfl (by show 2 * 0 + _ ≤ _; exact Nat.le_of_eq rfl) (hb hby at_92) (fun _ _ => ⟨rfl, e1, (by decide : 0 + 0 ≤ _), (by decide : 0 + 0 ≤ _)⟩)
      dsimp only [Pt.U, Pt.locs, Pt.cells, Pt.slots] at X2 l2 y2 z2 st2 hQ2
      subst l2 y2 z2
      obtain ⟨rfl, N2q, e2⟩ := hQ2
      refine own_Fin.go (fun t k => st2.trans k) ?_
      have N2 := Fr.app N0 N2q
      show own_Fin _ _ _ _ _ _ _ (T2.setTop (mkF m 95 #[.val (.int va), .val (.int vb), .val (.int ((va &&& (2147483647 : Int32)) % (5 : Int32))), .val (.ref oCREATE), .val (.int (2 : Int32)), .val (.int (1 : Int32))] [(.int (own_gr vb (4 : Int32)))]))
      refine own_Fin.go (fun t k => XS.iload X2.here hx rfl (hb hby at_95) rfl k) ?_
      show own_Fin _ _ _ _ _ _ _ (T2.setTop (mkF m 97 #[.val (.int va), .val (.int vb), .val (.int ((va &&& (2147483647 : Int32)) % (5 : Int32))), .val (.ref oCREATE), .val (.int (2 : Int32)), .val (.int (1 : Int32))] [(.int (1 : Int32)), (.int (own_gr vb (4 : Int32)))]))
      have hc97 : (own_gr vb (4 : Int32)) = (1 : Int32) := own_t vb (2 : Int32) (4 : Int32) 2 (by decide) (by decide) (by decide) hc80
      refine own_Fin.go (fun t k => XS.icmpNo X2.here hx rfl (hb hby at_97) rfl (Jvm.Free.XT.ii_ne_f hc97) k) ?_
      show own_Fin _ _ _ _ _ _ _ (T2.setTop (mkF m 100 #[.val (.int va), .val (.int vb), .val (.int ((va &&& (2147483647 : Int32)) % (5 : Int32))), .val (.ref oCREATE), .val (.int (2 : Int32)), .val (.int (1 : Int32))] []))
      refine own_Fin.go (fun t k => XS.iconst X2.here hx rfl (hb hby at_100) k) ?_
      show own_Fin _ _ _ _ _ _ _ (T2.setTop (mkF m 101 #[.val (.int va), .val (.int vb), .val (.int ((va &&& (2147483647 : Int32)) % (5 : Int32))), .val (.ref oCREATE), .val (.int (2 : Int32)), .val (.int (1 : Int32))] [(.int (1 : Int32))]))
      refine own_Fin.go (fun t k => XS.goto X2.here hx rfl (pc0 := 101) (pc' := 105) rfl (hb hby at_101) (by decide) (by decide) k) ?_
      show own_Fin _ _ _ _ _ _ _ (T2.setTop (mkF m 105 #[.val (.int va), .val (.int vb), .val (.int ((va &&& (2147483647 : Int32)) % (5 : Int32))), .val (.ref oCREATE), .val (.int (2 : Int32)), .val (.int (1 : Int32))] [(.int (1 : Int32))]))
      refine own_retN X2 hx (t := .boolean) (w := (1 : Int32)) Bd.returns (by simp) (hb hby at_105) Bd.notSynchronized rfl (by decide) (by decide) ?_
      rw [e2]
      exact ⟨rfl, N2⟩
    · refine own_Fin.go (fun t k => XS.icmpYes X1.here hx rfl (pc0 := 80) (pc' := 87) rfl (hb hby at_80) rfl (Jvm.Free.XT.ii_ne_t hc80) (by decide) (by decide) k) ?_
      show own_Fin _ _ _ _ _ _ _ (T1.setTop (mkF m 87 #[.val (.int va), .val (.int vb), .val (.int ((va &&& (2147483647 : Int32)) % (5 : Int32))), .val (.ref oCREATE), .val (.int (2 : Int32)), .unset] []))
      refine own_Fin.go (fun t k => XS.iconst X1.here hx rfl (hb hby at_87) k) ?_
      show own_Fin _ _ _ _ _ _ _ (T1.setTop (mkF m 88 #[.val (.int va), .val (.int vb), .val (.int ((va &&& (2147483647 : Int32)) % (5 : Int32))), .val (.ref oCREATE), .val (.int (2 : Int32)), .unset] [(.int (0 : Int32))]))
      refine own_Fin.go (fun t k => XS.istore X1.here hx rfl (hb hby at_88) rfl (l' := #[.val (.int va), .val (.int vb), .val (.int ((va &&& (2147483647 : Int32)) % (5 : Int32))), .val (.ref oCREATE), .val (.int (2 : Int32)), .val (.int (0 : Int32))]) rfl k) ?_
      show own_Fin _ _ _ _ _ _ _ (T1.setTop (mkF m 90 #[.val (.int va), .val (.int vb), .val (.int ((va &&& (2147483647 : Int32)) % (5 : Int32))), .val (.ref oCREATE), .val (.int (2 : Int32)), .val (.int (0 : Int32))] []))
      refine own_Fin.go (fun t k => XS.aloadN X1.here hx rfl (hb hby at_90) rfl rfl k) ?_
      show own_Fin _ _ _ _ _ _ _ (T1.setTop (mkF m 91 #[.val (.int va), .val (.int vb), .val (.int ((va &&& (2147483647 : Int32)) % (5 : Int32))), .val (.ref oCREATE), .val (.int (2 : Int32)), .val (.int (0 : Int32))] [(.ref oCREATE)]))
      refine own_Fin.go (fun t k => XS.iloadN X1.here hx rfl (hb hby at_91) rfl k) ?_
      show own_Fin _ _ _ _ _ _ _ (T1.setTop (mkF m 92 #[.val (.int va), .val (.int vb), .val (.int ((va &&& (2147483647 : Int32)) % (5 : Int32))), .val (.ref oCREATE), .val (.int (2 : Int32)), .val (.int (0 : Int32))] [(.int vb), (.ref oCREATE)]))
      obtain ⟨cq3, kq3, q3a, q3b, q3c⟩ := isOf hZ e1 E_oCREATE
      obtain ⟨_, _, ⟨T3, L3, k3, n3⟩, -, X3, ⟨Lc3, hQ3, l3, y3, z3⟩, st3⟩ := X1.virtualBack hx (y := (⟨"com/example/stentor/stentor/protocol/Permission", "grantedBy", "(I)Z"⟩ : MethodName)) (z := (⟨"com/example/stentor/stentor/protocol/Permission", "grantedBy", "(I)Z"⟩ : MethodName)) hown (mvT hZ (hw _ (List.mem_of_getElem? (i := 4) rfl))) (mvT hZ (hw _ (List.mem_of_getElem? (i := 5) rfl))) (notFace_of_selects (args := #[]) (mvT hZ (hw _ (List.mem_of_getElem? (i := 7) rfl)))) (mvT hZ (hw _ (List.mem_of_getElem? (i := 7) rfl))) (mvT hZ (hw _ (List.mem_of_getElem? (i := 6) rfl))) (by decide) (backOf (W := 0) (own_rm_gr l Z a0 hw [] oCREATE vb (4 : Int32) h0 n0 Z0 F_oCREATE_bit) hZ (hw _ (List.mem_of_getElem? (i := 8) rfl)) (hw _ (List.mem_of_getElem? (i := 2) rfl)) (by decide) (by decide)) q3a q3c (g := (mkF m 92 #[.val (.int va), .val (.int vb), .val (.int ((va &&& (2147483647 : Int32)) % (5 : Int32))), .val (.ref oCREATE), .val (.int (2 : Int32)), .val (.int (0 : Int32))] [(.int vb), (.ref oCREATE)])) rfl (by rw [hml]; rfl) (Steps.refl _) (argsL := [(.int vb)]) (rest := []) (lenOf own_pd0 rfl) rfl (by show 2 * 0 + _ ≤ _; exact Nat.le_of_eq rfl) (hb hby at_92) (fun _ _ => ⟨rfl, e1, (by decide : 0 + 0 ≤ _), (by decide : 0 + 0 ≤ _)⟩)
      dsimp only [Pt.U, Pt.locs, Pt.cells, Pt.slots] at X3 l3 y3 z3 st3 hQ3
      subst l3 y3 z3
      obtain ⟨rfl, N3q, e3⟩ := hQ3
      refine own_Fin.go (fun t k => st3.trans k) ?_
      have N3 := Fr.app N0 N3q
      show own_Fin _ _ _ _ _ _ _ (T3.setTop (mkF m 95 #[.val (.int va), .val (.int vb), .val (.int ((va &&& (2147483647 : Int32)) % (5 : Int32))), .val (.ref oCREATE), .val (.int (2 : Int32)), .val (.int (0 : Int32))] [(.int (own_gr vb (4 : Int32)))]))
      refine own_Fin.go (fun t k => XS.iload X3.here hx rfl (hb hby at_95) rfl k) ?_
      show own_Fin _ _ _ _ _ _ _ (T3.setTop (mkF m 97 #[.val (.int va), .val (.int vb), .val (.int ((va &&& (2147483647 : Int32)) % (5 : Int32))), .val (.ref oCREATE), .val (.int (2 : Int32)), .val (.int (0 : Int32))] [(.int (0 : Int32)), (.int (own_gr vb (4 : Int32)))]))
      have hc97 : (own_gr vb (4 : Int32)) = (0 : Int32) := own_f vb (2 : Int32) (4 : Int32) 2 (by decide) (by decide) (by decide) hc80
      refine own_Fin.go (fun t k => XS.icmpNo X3.here hx rfl (hb hby at_97) rfl (Jvm.Free.XT.ii_ne_f hc97) k) ?_
      show own_Fin _ _ _ _ _ _ _ (T3.setTop (mkF m 100 #[.val (.int va), .val (.int vb), .val (.int ((va &&& (2147483647 : Int32)) % (5 : Int32))), .val (.ref oCREATE), .val (.int (2 : Int32)), .val (.int (0 : Int32))] []))
      refine own_Fin.go (fun t k => XS.iconst X3.here hx rfl (hb hby at_100) k) ?_
      show own_Fin _ _ _ _ _ _ _ (T3.setTop (mkF m 101 #[.val (.int va), .val (.int vb), .val (.int ((va &&& (2147483647 : Int32)) % (5 : Int32))), .val (.ref oCREATE), .val (.int (2 : Int32)), .val (.int (0 : Int32))] [(.int (1 : Int32))]))
      refine own_Fin.go (fun t k => XS.goto X3.here hx rfl (pc0 := 101) (pc' := 105) rfl (hb hby at_101) (by decide) (by decide) k) ?_
      show own_Fin _ _ _ _ _ _ _ (T3.setTop (mkF m 105 #[.val (.int va), .val (.int vb), .val (.int ((va &&& (2147483647 : Int32)) % (5 : Int32))), .val (.ref oCREATE), .val (.int (2 : Int32)), .val (.int (0 : Int32))] [(.int (1 : Int32))]))
      refine own_retN X3 hx (t := .boolean) (w := (1 : Int32)) Bd.returns (by simp) (hb hby at_105) Bd.notSynchronized rfl (by decide) (by decide) ?_
      rw [e3]
      exact ⟨rfl, N3⟩
  · refine own_Fin.go (fun t k => XS.ifYes X0.here hx rfl (pc0 := 8) (pc' := 21) rfl (hb hby at_8) rfl (Jvm.Free.XT.i0_ne_t hc8) (by decide) (by decide) k) ?_
    show own_Fin _ _ _ _ _ _ _ (s₁.setTop (mkF m 21 #[.val (.int va), .val (.int vb), .val (.int ((va &&& (2147483647 : Int32)) % (5 : Int32))), .unset, .unset, .unset] []))
    refine own_Fin.go (fun t k => XS.iloadN X0.here hx rfl (hb hby at_21) rfl k) ?_
    show own_Fin _ _ _ _ _ _ _ (s₁.setTop (mkF m 22 #[.val (.int va), .val (.int vb), .val (.int ((va &&& (2147483647 : Int32)) % (5 : Int32))), .unset, .unset, .unset] [(.int ((va &&& (2147483647 : Int32)) % (5 : Int32)))]))
    refine own_Fin.go (fun t k => XS.iconst X0.here hx rfl (hb hby at_22) k) ?_
    show own_Fin _ _ _ _ _ _ _ (s₁.setTop (mkF m 23 #[.val (.int va), .val (.int vb), .val (.int ((va &&& (2147483647 : Int32)) % (5 : Int32))), .unset, .unset, .unset] [(.int (1 : Int32)), (.int ((va &&& (2147483647 : Int32)) % (5 : Int32)))]))
    by_cases hc23 : ((va &&& (2147483647 : Int32)) % (5 : Int32)) = (1 : Int32)
    · refine own_Fin.go (fun t k => XS.icmpNo X0.here hx rfl (hb hby at_23) rfl (Jvm.Free.XT.ii_ne_f hc23) k) ?_
      show own_Fin _ _ _ _ _ _ _ (s₁.setTop (mkF m 26 #[.val (.int va), .val (.int vb), .val (.int ((va &&& (2147483647 : Int32)) % (5 : Int32))), .unset, .unset, .unset] []))
      obtain ⟨T4, X4, e4, st4⟩ := getS2 X0 hx hZ hown (host := "") (Or.inl (hw _ (List.mem_of_getElem? (i := 15) rfl))) Via.refl e0 S_DELETE (g := (mkF m 26 #[.val (.int va), .val (.int vb), .val (.int ((va &&& (2147483647 : Int32)) % (5 : Int32))), .unset, .unset, .unset] [])) rfl (hb hby at_26)
      refine own_Fin.go st4 ?_
      show own_Fin _ _ _ _ _ _ _ (T4.setTop (mkF m 29 #[.val (.int va), .val (.int vb), .val (.int ((va &&& (2147483647 : Int32)) % (5 : Int32))), .unset, .unset, .unset] [(.ref oDELETE)]))
      refine own_Fin.go (fun t k => XS.astoreN X4.here hx rfl (hb hby at_29) rfl rfl (l' := #[.val (.int va), .val (.int vb), .val (.int ((va &&& (2147483647 : Int32)) % (5 : Int32))), .val (.ref oDELETE), .unset, .unset]) rfl k) ?_
      show own_Fin _ _ _ _ _ _ _ (T4.setTop (mkF m 30 #[.val (.int va), .val (.int vb), .val (.int ((va &&& (2147483647 : Int32)) % (5 : Int32))), .val (.ref oDELETE), .unset, .unset] []))
      refine own_Fin.go (fun t k => XS.iconst X4.here hx rfl (hb hby at_30) k) ?_
      show own_Fin _ _ _ _ _ _ _ (T4.setTop (mkF m 31 #[.val (.int va), .val (.int vb), .val (.int ((va &&& (2147483647 : Int32)) % (5 : Int32))), .val (.ref oDELETE), .unset, .unset] [(.int (3 : Int32))]))
      refine own_Fin.go (fun t k => XS.istore X4.here hx rfl (hb hby at_31) rfl (l' := #[.val (.int va), .val (.int vb), .val (.int ((va &&& (2147483647 : Int32)) % (5 : Int32))), .val (.ref oDELETE), .val (.int (3 : Int32)), .unset]) rfl k) ?_
      show own_Fin _ _ _ _ _ _ _ (T4.setTop (mkF m 33 #[.val (.int va), .val (.int vb), .val (.int ((va &&& (2147483647 : Int32)) % (5 : Int32))), .val (.ref oDELETE), .val (.int (3 : Int32)), .unset] []))
      refine own_Fin.go (fun t k => XS.goto X4.here hx rfl (pc0 := 33) (pc' := 73) rfl (hb hby at_33) (by decide) (by decide) k) ?_
      show own_Fin _ _ _ _ _ _ _ (T4.setTop (mkF m 73 #[.val (.int va), .val (.int vb), .val (.int ((va &&& (2147483647 : Int32)) % (5 : Int32))), .val (.ref oDELETE), .val (.int (3 : Int32)), .unset] []))
      refine own_Fin.go (fun t k => XS.iloadN X4.here hx rfl (hb hby at_73) rfl k) ?_
      show own_Fin _ _ _ _ _ _ _ (T4.setTop (mkF m 74 #[.val (.int va), .val (.int vb), .val (.int ((va &&& (2147483647 : Int32)) % (5 : Int32))), .val (.ref oDELETE), .val (.int (3 : Int32)), .unset] [(.int vb)]))
      refine own_Fin.go (fun t k => XS.iload X4.here hx rfl (hb hby at_74) rfl k) ?_
      show own_Fin _ _ _ _ _ _ _ (T4.setTop (mkF m 76 #[.val (.int va), .val (.int vb), .val (.int ((va &&& (2147483647 : Int32)) % (5 : Int32))), .val (.ref oDELETE), .val (.int (3 : Int32)), .unset] [(.int (3 : Int32)), (.int vb)]))
      refine own_Fin.go (fun t k => XS.iushr X4.here hx rfl (hb hby at_76) rfl k) ?_
      show own_Fin _ _ _ _ _ _ _ (T4.setTop (mkF m 77 #[.val (.int va), .val (.int vb), .val (.int ((va &&& (2147483647 : Int32)) % (5 : Int32))), .val (.ref oDELETE), .val (.int (3 : Int32)), .unset] [(.int ((vb.toUInt32 >>> ((3 : Int32) &&& 31).toUInt32).toInt32))]))
      refine own_Fin.go (fun t k => XS.iconst X4.here hx rfl (hb hby at_77) k) ?_
      show own_Fin _ _ _ _ _ _ _ (T4.setTop (mkF m 78 #[.val (.int va), .val (.int vb), .val (.int ((va &&& (2147483647 : Int32)) % (5 : Int32))), .val (.ref oDELETE), .val (.int (3 : Int32)), .unset] [(.int (1 : Int32)), (.int ((vb.toUInt32 >>> ((3 : Int32) &&& 31).toUInt32).toInt32))]))
      refine own_Fin.go (fun t k => XS.iand X4.here hx rfl (hb hby at_78) rfl k) ?_
      show own_Fin _ _ _ _ _ _ _ (T4.setTop (mkF m 79 #[.val (.int va), .val (.int vb), .val (.int ((va &&& (2147483647 : Int32)) % (5 : Int32))), .val (.ref oDELETE), .val (.int (3 : Int32)), .unset] [(.int (((vb.toUInt32 >>> ((3 : Int32) &&& 31).toUInt32).toInt32) &&& (1 : Int32)))]))
      refine own_Fin.go (fun t k => XS.iconst X4.here hx rfl (hb hby at_79) k) ?_
      show own_Fin _ _ _ _ _ _ _ (T4.setTop (mkF m 80 #[.val (.int va), .val (.int vb), .val (.int ((va &&& (2147483647 : Int32)) % (5 : Int32))), .val (.ref oDELETE), .val (.int (3 : Int32)), .unset] [(.int (1 : Int32)), (.int (((vb.toUInt32 >>> ((3 : Int32) &&& 31).toUInt32).toInt32) &&& (1 : Int32)))]))
      by_cases hc80 : (((vb.toUInt32 >>> ((3 : Int32) &&& 31).toUInt32).toInt32) &&& (1 : Int32)) = (1 : Int32)
      · refine own_Fin.go (fun t k => XS.icmpNo X4.here hx rfl (hb hby at_80) rfl (Jvm.Free.XT.ii_ne_f hc80) k) ?_
        show own_Fin _ _ _ _ _ _ _ (T4.setTop (mkF m 83 #[.val (.int va), .val (.int vb), .val (.int ((va &&& (2147483647 : Int32)) % (5 : Int32))), .val (.ref oDELETE), .val (.int (3 : Int32)), .unset] []))
        refine own_Fin.go (fun t k => XS.iconst X4.here hx rfl (hb hby at_83) k) ?_
        show own_Fin _ _ _ _ _ _ _ (T4.setTop (mkF m 84 #[.val (.int va), .val (.int vb), .val (.int ((va &&& (2147483647 : Int32)) % (5 : Int32))), .val (.ref oDELETE), .val (.int (3 : Int32)), .unset] [(.int (1 : Int32))]))
        refine own_Fin.go (fun t k => XS.goto X4.here hx rfl (pc0 := 84) (pc' := 88) rfl (hb hby at_84) (by decide) (by decide) k) ?_
        show own_Fin _ _ _ _ _ _ _ (T4.setTop (mkF m 88 #[.val (.int va), .val (.int vb), .val (.int ((va &&& (2147483647 : Int32)) % (5 : Int32))), .val (.ref oDELETE), .val (.int (3 : Int32)), .unset] [(.int (1 : Int32))]))
        refine own_Fin.go (fun t k => XS.istore X4.here hx rfl (hb hby at_88) rfl (l' := #[.val (.int va), .val (.int vb), .val (.int ((va &&& (2147483647 : Int32)) % (5 : Int32))), .val (.ref oDELETE), .val (.int (3 : Int32)), .val (.int (1 : Int32))]) rfl k) ?_
        show own_Fin _ _ _ _ _ _ _ (T4.setTop (mkF m 90 #[.val (.int va), .val (.int vb), .val (.int ((va &&& (2147483647 : Int32)) % (5 : Int32))), .val (.ref oDELETE), .val (.int (3 : Int32)), .val (.int (1 : Int32))] []))
        refine own_Fin.go (fun t k => XS.aloadN X4.here hx rfl (hb hby at_90) rfl rfl k) ?_
        show own_Fin _ _ _ _ _ _ _ (T4.setTop (mkF m 91 #[.val (.int va), .val (.int vb), .val (.int ((va &&& (2147483647 : Int32)) % (5 : Int32))), .val (.ref oDELETE), .val (.int (3 : Int32)), .val (.int (1 : Int32))] [(.ref oDELETE)]))
        refine own_Fin.go (fun t k => XS.iloadN X4.here hx rfl (hb hby at_91) rfl k) ?_
        show own_Fin _ _ _ _ _ _ _ (T4.setTop (mkF m 92 #[.val (.int va), .val (.int vb), .val (.int ((va &&& (2147483647 : Int32)) % (5 : Int32))), .val (.ref oDELETE), .val (.int (3 : Int32)), .val (.int (1 : Int32))] [(.int vb), (.ref oDELETE)]))
        obtain ⟨cq5, kq5, q5a, q5b, q5c⟩ := isOf hZ e4 E_oDELETE
        obtain ⟨_, _, ⟨T5, L5, k5, n5⟩, -, X5, ⟨Lc5, hQ5, l5, y5, z5⟩, st5⟩ := X4.virtualBack hx (y := (⟨"com/example/stentor/stentor/protocol/Permission", "grantedBy", "(I)Z"⟩ : MethodName)) (z := (⟨"com/example/stentor/stentor/protocol/Permission", "grantedBy", "(I)Z"⟩ : MethodName)) hown (mvT hZ (hw _ (List.mem_of_getElem? (i := 4) rfl))) (mvT hZ (hw _ (List.mem_of_getElem? (i := 5) rfl))) (notFace_of_selects (args := #[]) (mvT hZ (hw _ (List.mem_of_getElem? (i := 7) rfl)))) (mvT hZ (hw _ (List.mem_of_getElem? (i := 7) rfl))) (mvT hZ (hw _ (List.mem_of_getElem? (i := 6) rfl))) (by decide) (backOf (W := 0) (own_rm_gr l Z a0 hw [] oDELETE vb (8 : Int32) h0 n0 Z0 F_oDELETE_bit) hZ (hw _ (List.mem_of_getElem? (i := 8) rfl)) (hw _ (List.mem_of_getElem? (i := 2) rfl)) (by decide) (by decide)) q5a q5c (g := (mkF m 92 #[.val (.int va), .val (.int vb), .val (.int ((va &&& (2147483647 : Int32)) % (5 : Int32))), .val (.ref oDELETE), .val (.int (3 : Int32)), .val (.int (1 : Int32))] [(.int vb), (.ref oDELETE)])) rfl (by rw [hml]; rfl) (Steps.refl _) (argsL := [(.int vb)]) (rest := []) (lenOf own_pd0 rfl) rfl (by show 2 * 0 + _ ≤ _; exact Nat.le_of_eq rfl) (hb hby at_92) (fun _ _ => ⟨rfl, e4, (by decide : 0 + 0 ≤ _), (by decide : 0 + 0 ≤ _)⟩)
        dsimp only [Pt.U, Pt.locs, Pt.cells, Pt.slots] at X5 l5 y5 z5 st5 hQ5
        subst l5 y5 z5
        obtain ⟨rfl, N5q, e5⟩ := hQ5
        refine own_Fin.go (fun t k => st5.trans k) ?_
        have N5 := Fr.app N0 N5q
        show own_Fin _ _ _ _ _ _ _ (T5.setTop (mkF m 95 #[.val (.int va), .val (.int vb), .val (.int ((va &&& (2147483647 : Int32)) % (5 : Int32))), .val (.ref oDELETE), .val (.int (3 : Int32)), .val (.int (1 : Int32))] [(.int (own_gr vb (8 : Int32)))]))
        refine own_Fin.go (fun t k => XS.iload X5.here hx rfl (hb hby at_95) rfl k) ?_
        show own_Fin _ _ _ _ _ _ _ (T5.setTop (mkF m 97 #[.val (.int va), .val (.int vb), .val (.int ((va &&& (2147483647 : Int32)) % (5 : Int32))), .val (.ref oDELETE), .val (.int (3 : Int32)), .val (.int (1 : Int32))] [(.int (1 : Int32)), (.int (own_gr vb (8 : Int32)))]))
        have hc97 : (own_gr vb (8 : Int32)) = (1 : Int32) := own_t vb (3 : Int32) (8 : Int32) 3 (by decide) (by decide) (by decide) hc80
        refine own_Fin.go (fun t k => XS.icmpNo X5.here hx rfl (hb hby at_97) rfl (Jvm.Free.XT.ii_ne_f hc97) k) ?_
        show own_Fin _ _ _ _ _ _ _ (T5.setTop (mkF m 100 #[.val (.int va), .val (.int vb), .val (.int ((va &&& (2147483647 : Int32)) % (5 : Int32))), .val (.ref oDELETE), .val (.int (3 : Int32)), .val (.int (1 : Int32))] []))
        refine own_Fin.go (fun t k => XS.iconst X5.here hx rfl (hb hby at_100) k) ?_
        show own_Fin _ _ _ _ _ _ _ (T5.setTop (mkF m 101 #[.val (.int va), .val (.int vb), .val (.int ((va &&& (2147483647 : Int32)) % (5 : Int32))), .val (.ref oDELETE), .val (.int (3 : Int32)), .val (.int (1 : Int32))] [(.int (1 : Int32))]))
        refine own_Fin.go (fun t k => XS.goto X5.here hx rfl (pc0 := 101) (pc' := 105) rfl (hb hby at_101) (by decide) (by decide) k) ?_
        show own_Fin _ _ _ _ _ _ _ (T5.setTop (mkF m 105 #[.val (.int va), .val (.int vb), .val (.int ((va &&& (2147483647 : Int32)) % (5 : Int32))), .val (.ref oDELETE), .val (.int (3 : Int32)), .val (.int (1 : Int32))] [(.int (1 : Int32))]))
        refine own_retN X5 hx (t := .boolean) (w := (1 : Int32)) Bd.returns (by simp) (hb hby at_105) Bd.notSynchronized rfl (by decide) (by decide) ?_
        rw [e5]
        exact ⟨rfl, N5⟩
      · refine own_Fin.go (fun t k => XS.icmpYes X4.here hx rfl (pc0 := 80) (pc' := 87) rfl (hb hby at_80) rfl (Jvm.Free.XT.ii_ne_t hc80) (by decide) (by decide) k) ?_
        show own_Fin _ _ _ _ _ _ _ (T4.setTop (mkF m 87 #[.val (.int va), .val (.int vb), .val (.int ((va &&& (2147483647 : Int32)) % (5 : Int32))), .val (.ref oDELETE), .val (.int (3 : Int32)), .unset] []))
        refine own_Fin.go (fun t k => XS.iconst X4.here hx rfl (hb hby at_87) k) ?_
        show own_Fin _ _ _ _ _ _ _ (T4.setTop (mkF m 88 #[.val (.int va), .val (.int vb), .val (.int ((va &&& (2147483647 : Int32)) % (5 : Int32))), .val (.ref oDELETE), .val (.int (3 : Int32)), .unset] [(.int (0 : Int32))]))
        refine own_Fin.go (fun t k => XS.istore X4.here hx rfl (hb hby at_88) rfl (l' := #[.val (.int va), .val (.int vb), .val (.int ((va &&& (2147483647 : Int32)) % (5 : Int32))), .val (.ref oDELETE), .val (.int (3 : Int32)), .val (.int (0 : Int32))]) rfl k) ?_
        show own_Fin _ _ _ _ _ _ _ (T4.setTop (mkF m 90 #[.val (.int va), .val (.int vb), .val (.int ((va &&& (2147483647 : Int32)) % (5 : Int32))), .val (.ref oDELETE), .val (.int (3 : Int32)), .val (.int (0 : Int32))] []))
        refine own_Fin.go (fun t k => XS.aloadN X4.here hx rfl (hb hby at_90) rfl rfl k) ?_
        show own_Fin _ _ _ _ _ _ _ (T4.setTop (mkF m 91 #[.val (.int va), .val (.int vb), .val (.int ((va &&& (2147483647 : Int32)) % (5 : Int32))), .val (.ref oDELETE), .val (.int (3 : Int32)), .val (.int (0 : Int32))] [(.ref oDELETE)]))
        refine own_Fin.go (fun t k => XS.iloadN X4.here hx rfl (hb hby at_91) rfl k) ?_
        show own_Fin _ _ _ _ _ _ _ (T4.setTop (mkF m 92 #[.val (.int va), .val (.int vb), .val (.int ((va &&& (2147483647 : Int32)) % (5 : Int32))), .val (.ref oDELETE), .val (.int (3 : Int32)), .val (.int (0 : Int32))] [(.int vb), (.ref oDELETE)]))
        obtain ⟨cq6, kq6, q6a, q6b, q6c⟩ := isOf hZ e4 E_oDELETE
        obtain ⟨_, _, ⟨T6, L6, k6, n6⟩, -, X6, ⟨Lc6, hQ6, l6, y6, z6⟩, st6⟩ := X4.virtualBack hx (y := (⟨"com/example/stentor/stentor/protocol/Permission", "grantedBy", "(I)Z"⟩ : MethodName)) (z := (⟨"com/example/stentor/stentor/protocol/Permission", "grantedBy", "(I)Z"⟩ : MethodName)) hown (mvT hZ (hw _ (List.mem_of_getElem? (i := 4) rfl))) (mvT hZ (hw _ (List.mem_of_getElem? (i := 5) rfl))) (notFace_of_selects (args := #[]) (mvT hZ (hw _ (List.mem_of_getElem? (i := 7) rfl)))) (mvT hZ (hw _ (List.mem_of_getElem? (i := 7) rfl))) (mvT hZ (hw _ (List.mem_of_getElem? (i := 6) rfl))) (by decide) (backOf (W := 0) (own_rm_gr l Z a0 hw [] oDELETE vb (8 : Int32) h0 n0 Z0 F_oDELETE_bit) hZ (hw _ (List.mem_of_getElem? (i := 8) rfl)) (hw _ (List.mem_of_getElem? (i := 2) rfl)) (by decide) (by decide)) q6a q6c (g := (mkF m 92 #[.val (.int va), .val (.int vb), .val (.int ((va &&& (2147483647 : Int32)) % (5 : Int32))), .val (.ref oDELETE), .val (.int (3 : Int32)), .val (.int (0 : Int32))] [(.int vb), (.ref oDELETE)])) rfl (by rw [hml]; rfl) (Steps.refl _) (argsL := [(.int vb)]) (rest := []) (lenOf own_pd0 rfl) rfl (by show 2 * 0 + _ ≤ _; exact Nat.le_of_eq rfl) (hb hby at_92) (fun _ _ => ⟨rfl, e4, (by decide : 0 + 0 ≤ _), (by decide : 0 + 0 ≤ _)⟩)
        dsimp only [Pt.U, Pt.locs, Pt.cells, Pt.slots] at X6 l6 y6 z6 st6 hQ6
        subst l6 y6 z6
        obtain ⟨rfl, N6q, e6⟩ := hQ6
        refine own_Fin.go (fun t k => st6.trans k) ?_
        have N6 := Fr.app N0 N6q
        show own_Fin _ _ _ _ _ _ _ (T6.setTop (mkF m 95 #[.val (.int va), .val (.int vb), .val (.int ((va &&& (2147483647 : Int32)) % (5 : Int32))), .val (.ref oDELETE), .val (.int (3 : Int32)), .val (.int (0 : Int32))] [(.int (own_gr vb (8 : Int32)))]))
        refine own_Fin.go (fun t k => XS.iload X6.here hx rfl (hb hby at_95) rfl k) ?_
        show own_Fin _ _ _ _ _ _ _ (T6.setTop (mkF m 97 #[.val (.int va), .val (.int vb), .val (.int ((va &&& (2147483647 : Int32)) % (5 : Int32))), .val (.ref oDELETE), .val (.int (3 : Int32)), .val (.int (0 : Int32))] [(.int (0 : Int32)), (.int (own_gr vb (8 : Int32)))]))
        have hc97 : (own_gr vb (8 : Int32)) = (0 : Int32) := own_f vb (3 : Int32) (8 : Int32) 3 (by decide) (by decide) (by decide) hc80
        refine own_Fin.go (fun t k => XS.icmpNo X6.here hx rfl (hb hby at_97) rfl (Jvm.Free.XT.ii_ne_f hc97) k) ?_
        show own_Fin _ _ _ _ _ _ _ (T6.setTop (mkF m 100 #[.val (.int va), .val (.int vb), .val (.int ((va &&& (2147483647 : Int32)) % (5 : Int32))), .val (.ref oDELETE), .val (.int (3 : Int32)), .val (.int (0 : Int32))] []))
        refine own_Fin.go (fun t k => XS.iconst X6.here hx rfl (hb hby at_100) k) ?_
        show own_Fin _ _ _ _ _ _ _ (T6.setTop (mkF m 101 #[.val (.int va), .val (.int vb), .val (.int ((va &&& (2147483647 : Int32)) % (5 : Int32))), .val (.ref oDELETE), .val (.int (3 : Int32)), .val (.int (0 : Int32))] [(.int (1 : Int32))]))
        refine own_Fin.go (fun t k => XS.goto X6.here hx rfl (pc0 := 101) (pc' := 105) rfl (hb hby at_101) (by decide) (by decide) k) ?_
        show own_Fin _ _ _ _ _ _ _ (T6.setTop (mkF m 105 #[.val (.int va), .val (.int vb), .val (.int ((va &&& (2147483647 : Int32)) % (5 : Int32))), .val (.ref oDELETE), .val (.int (3 : Int32)), .val (.int (0 : Int32))] [(.int (1 : Int32))]))
        refine own_retN X6 hx (t := .boolean) (w := (1 : Int32)) Bd.returns (by simp) (hb hby at_105) Bd.notSynchronized rfl (by decide) (by decide) ?_
        rw [e6]
        exact ⟨rfl, N6⟩
    · refine own_Fin.go (fun t k => XS.icmpYes X0.here hx rfl (pc0 := 23) (pc' := 36) rfl (hb hby at_23) rfl (Jvm.Free.XT.ii_ne_t hc23) (by decide) (by decide) k) ?_
      show own_Fin _ _ _ _ _ _ _ (s₁.setTop (mkF m 36 #[.val (.int va), .val (.int vb), .val (.int ((va &&& (2147483647 : Int32)) % (5 : Int32))), .unset, .unset, .unset] []))
      refine own_Fin.go (fun t k => XS.iloadN X0.here hx rfl (hb hby at_36) rfl k) ?_
      show own_Fin _ _ _ _ _ _ _ (s₁.setTop (mkF m 37 #[.val (.int va), .val (.int vb), .val (.int ((va &&& (2147483647 : Int32)) % (5 : Int32))), .unset, .unset, .unset] [(.int ((va &&& (2147483647 : Int32)) % (5 : Int32)))]))
      refine own_Fin.go (fun t k => XS.iconst X0.here hx rfl (hb hby at_37) k) ?_
      show own_Fin _ _ _ _ _ _ _ (s₁.setTop (mkF m 38 #[.val (.int va), .val (.int vb), .val (.int ((va &&& (2147483647 : Int32)) % (5 : Int32))), .unset, .unset, .unset] [(.int (2 : Int32)), (.int ((va &&& (2147483647 : Int32)) % (5 : Int32)))]))
      by_cases hc38 : ((va &&& (2147483647 : Int32)) % (5 : Int32)) = (2 : Int32)
      · refine own_Fin.go (fun t k => XS.icmpNo X0.here hx rfl (hb hby at_38) rfl (Jvm.Free.XT.ii_ne_f hc38) k) ?_
        show own_Fin _ _ _ _ _ _ _ (s₁.setTop (mkF m 41 #[.val (.int va), .val (.int vb), .val (.int ((va &&& (2147483647 : Int32)) % (5 : Int32))), .unset, .unset, .unset] []))
        obtain ⟨T7, X7, e7, st7⟩ := getS2 X0 hx hZ hown (host := "") (Or.inl (hw _ (List.mem_of_getElem? (i := 17) rfl))) Via.refl e0 S_READ (g := (mkF m 41 #[.val (.int va), .val (.int vb), .val (.int ((va &&& (2147483647 : Int32)) % (5 : Int32))), .unset, .unset, .unset] [])) rfl (hb hby at_41)
        refine own_Fin.go st7 ?_
        show own_Fin _ _ _ _ _ _ _ (T7.setTop (mkF m 44 #[.val (.int va), .val (.int vb), .val (.int ((va &&& (2147483647 : Int32)) % (5 : Int32))), .unset, .unset, .unset] [(.ref oREAD)]))
        refine own_Fin.go (fun t k => XS.astoreN X7.here hx rfl (hb hby at_44) rfl rfl (l' := #[.val (.int va), .val (.int vb), .val (.int ((va &&& (2147483647 : Int32)) % (5 : Int32))), .val (.ref oREAD), .unset, .unset]) rfl k) ?_
        show own_Fin _ _ _ _ _ _ _ (T7.setTop (mkF m 45 #[.val (.int va), .val (.int vb), .val (.int ((va &&& (2147483647 : Int32)) % (5 : Int32))), .val (.ref oREAD), .unset, .unset] []))
        refine own_Fin.go (fun t k => XS.iconst X7.here hx rfl (hb hby at_45) k) ?_
        show own_Fin _ _ _ _ _ _ _ (T7.setTop (mkF m 46 #[.val (.int va), .val (.int vb), .val (.int ((va &&& (2147483647 : Int32)) % (5 : Int32))), .val (.ref oREAD), .unset, .unset] [(.int (0 : Int32))]))
        refine own_Fin.go (fun t k => XS.istore X7.here hx rfl (hb hby at_46) rfl (l' := #[.val (.int va), .val (.int vb), .val (.int ((va &&& (2147483647 : Int32)) % (5 : Int32))), .val (.ref oREAD), .val (.int (0 : Int32)), .unset]) rfl k) ?_
        show own_Fin _ _ _ _ _ _ _ (T7.setTop (mkF m 48 #[.val (.int va), .val (.int vb), .val (.int ((va &&& (2147483647 : Int32)) % (5 : Int32))), .val (.ref oREAD), .val (.int (0 : Int32)), .unset] []))
        refine own_Fin.go (fun t k => XS.goto X7.here hx rfl (pc0 := 48) (pc' := 73) rfl (hb hby at_48) (by decide) (by decide) k) ?_
        show own_Fin _ _ _ _ _ _ _ (T7.setTop (mkF m 73 #[.val (.int va), .val (.int vb), .val (.int ((va &&& (2147483647 : Int32)) % (5 : Int32))), .val (.ref oREAD), .val (.int (0 : Int32)), .unset] []))
        refine own_Fin.go (fun t k => XS.iloadN X7.here hx rfl (hb hby at_73) rfl k) ?_
        show own_Fin _ _ _ _ _ _ _ (T7.setTop (mkF m 74 #[.val (.int va), .val (.int vb), .val (.int ((va &&& (2147483647 : Int32)) % (5 : Int32))), .val (.ref oREAD), .val (.int (0 : Int32)), .unset] [(.int vb)]))
        refine own_Fin.go (fun t k => XS.iload X7.here hx rfl (hb hby at_74) rfl k) ?_
        show own_Fin _ _ _ _ _ _ _ (T7.setTop (mkF m 76 #[.val (.int va), .val (.int vb), .val (.int ((va &&& (2147483647 : Int32)) % (5 : Int32))), .val (.ref oREAD), .val (.int (0 : Int32)), .unset] [(.int (0 : Int32)), (.int vb)]))
        refine own_Fin.go (fun t k => XS.iushr X7.here hx rfl (hb hby at_76) rfl k) ?_
        show own_Fin _ _ _ _ _ _ _ (T7.setTop (mkF m 77 #[.val (.int va), .val (.int vb), .val (.int ((va &&& (2147483647 : Int32)) % (5 : Int32))), .val (.ref oREAD), .val (.int (0 : Int32)), .unset] [(.int ((vb.toUInt32 >>> ((0 : Int32) &&& 31).toUInt32).toInt32))]))
        refine own_Fin.go (fun t k => XS.iconst X7.here hx rfl (hb hby at_77) k) ?_
        show own_Fin _ _ _ _ _ _ _ (T7.setTop (mkF m 78 #[.val (.int va), .val (.int vb), .val (.int ((va &&& (2147483647 : Int32)) % (5 : Int32))), .val (.ref oREAD), .val (.int (0 : Int32)), .unset] [(.int (1 : Int32)), (.int ((vb.toUInt32 >>> ((0 : Int32) &&& 31).toUInt32).toInt32))]))
        refine own_Fin.go (fun t k => XS.iand X7.here hx rfl (hb hby at_78) rfl k) ?_
        show own_Fin _ _ _ _ _ _ _ (T7.setTop (mkF m 79 #[.val (.int va), .val (.int vb), .val (.int ((va &&& (2147483647 : Int32)) % (5 : Int32))), .val (.ref oREAD), .val (.int (0 : Int32)), .unset] [(.int (((vb.toUInt32 >>> ((0 : Int32) &&& 31).toUInt32).toInt32) &&& (1 : Int32)))]))
        refine own_Fin.go (fun t k => XS.iconst X7.here hx rfl (hb hby at_79) k) ?_
        show own_Fin _ _ _ _ _ _ _ (T7.setTop (mkF m 80 #[.val (.int va), .val (.int vb), .val (.int ((va &&& (2147483647 : Int32)) % (5 : Int32))), .val (.ref oREAD), .val (.int (0 : Int32)), .unset] [(.int (1 : Int32)), (.int (((vb.toUInt32 >>> ((0 : Int32) &&& 31).toUInt32).toInt32) &&& (1 : Int32)))]))
        by_cases hc80 : (((vb.toUInt32 >>> ((0 : Int32) &&& 31).toUInt32).toInt32) &&& (1 : Int32)) = (1 : Int32)
        · refine own_Fin.go (fun t k => XS.icmpNo X7.here hx rfl (hb hby at_80) rfl (Jvm.Free.XT.ii_ne_f hc80) k) ?_
          show own_Fin _ _ _ _ _ _ _ (T7.setTop (mkF m 83 #[.val (.int va), .val (.int vb), .val (.int ((va &&& (2147483647 : Int32)) % (5 : Int32))), .val (.ref oREAD), .val (.int (0 : Int32)), .unset] []))
          refine own_Fin.go (fun t k => XS.iconst X7.here hx rfl (hb hby at_83) k) ?_
          show own_Fin _ _ _ _ _ _ _ (T7.setTop (mkF m 84 #[.val (.int va), .val (.int vb), .val (.int ((va &&& (2147483647 : Int32)) % (5 : Int32))), .val (.ref oREAD), .val (.int (0 : Int32)), .unset] [(.int (1 : Int32))]))
          refine own_Fin.go (fun t k => XS.goto X7.here hx rfl (pc0 := 84) (pc' := 88) rfl (hb hby at_84) (by decide) (by decide) k) ?_
          show own_Fin _ _ _ _ _ _ _ (T7.setTop (mkF m 88 #[.val (.int va), .val (.int vb), .val (.int ((va &&& (2147483647 : Int32)) % (5 : Int32))), .val (.ref oREAD), .val (.int (0 : Int32)), .unset] [(.int (1 : Int32))]))
          refine own_Fin.go (fun t k => XS.istore X7.here hx rfl (hb hby at_88) rfl (l' := #[.val (.int va), .val (.int vb), .val (.int ((va &&& (2147483647 : Int32)) % (5 : Int32))), .val (.ref oREAD), .val (.int (0 : Int32)), .val (.int (1 : Int32))]) rfl k) ?_
          show own_Fin _ _ _ _ _ _ _ (T7.setTop (mkF m 90 #[.val (.int va), .val (.int vb), .val (.int ((va &&& (2147483647 : Int32)) % (5 : Int32))), .val (.ref oREAD), .val (.int (0 : Int32)), .val (.int (1 : Int32))] []))
          refine own_Fin.go (fun t k => XS.aloadN X7.here hx rfl (hb hby at_90) rfl rfl k) ?_
          show own_Fin _ _ _ _ _ _ _ (T7.setTop (mkF m 91 #[.val (.int va), .val (.int vb), .val (.int ((va &&& (2147483647 : Int32)) % (5 : Int32))), .val (.ref oREAD), .val (.int (0 : Int32)), .val (.int (1 : Int32))] [(.ref oREAD)]))
          refine own_Fin.go (fun t k => XS.iloadN X7.here hx rfl (hb hby at_91) rfl k) ?_
          show own_Fin _ _ _ _ _ _ _ (T7.setTop (mkF m 92 #[.val (.int va), .val (.int vb), .val (.int ((va &&& (2147483647 : Int32)) % (5 : Int32))), .val (.ref oREAD), .val (.int (0 : Int32)), .val (.int (1 : Int32))] [(.int vb), (.ref oREAD)]))
          obtain ⟨cq8, kq8, q8a, q8b, q8c⟩ := isOf hZ e7 E_oREAD
          obtain ⟨_, _, ⟨T8, L8, k8, n8⟩, -, X8, ⟨Lc8, hQ8, l8, y8, z8⟩, st8⟩ := X7.virtualBack hx (y := (⟨"com/example/stentor/stentor/protocol/Permission", "grantedBy", "(I)Z"⟩ : MethodName)) (z := (⟨"com/example/stentor/stentor/protocol/Permission", "grantedBy", "(I)Z"⟩ : MethodName)) hown (mvT hZ (hw _ (List.mem_of_getElem? (i := 4) rfl))) (mvT hZ (hw _ (List.mem_of_getElem? (i := 5) rfl))) (notFace_of_selects (args := #[]) (mvT hZ (hw _ (List.mem_of_getElem? (i := 7) rfl)))) (mvT hZ (hw _ (List.mem_of_getElem? (i := 7) rfl))) (mvT hZ (hw _ (List.mem_of_getElem? (i := 6) rfl))) (by decide) (backOf (W := 0) (own_rm_gr l Z a0 hw [] oREAD vb (1 : Int32) h0 n0 Z0 F_oREAD_bit) hZ (hw _ (List.mem_of_getElem? (i := 8) rfl)) (hw _ (List.mem_of_getElem? (i := 2) rfl)) (by decide) (by decide)) q8a q8c (g := (mkF m 92 #[.val (.int va), .val (.int vb), .val (.int ((va &&& (2147483647 : Int32)) % (5 : Int32))), .val (.ref oREAD), .val (.int (0 : Int32)), .val (.int (1 : Int32))] [(.int vb), (.ref oREAD)])) rfl (by rw [hml]; rfl) (Steps.refl _) (argsL := [(.int vb)]) (rest := []) (lenOf own_pd0 rfl) rfl (by show 2 * 0 + _ ≤ _; exact Nat.le_of_eq rfl) (hb hby at_92) (fun _ _ => ⟨rfl, e7, (by decide : 0 + 0 ≤ _), (by decide : 0 + 0 ≤ _)⟩)
          dsimp only [Pt.U, Pt.locs, Pt.cells, Pt.slots] at X8 l8 y8 z8 st8 hQ8
          subst l8 y8 z8
          obtain ⟨rfl, N8q, e8⟩ := hQ8
          refine own_Fin.go (fun t k => st8.trans k) ?_
          have N8 := Fr.app N0 N8q
          show own_Fin _ _ _ _ _ _ _ (T8.setTop (mkF m 95 #[.val (.int va), .val (.int vb), .val (.int ((va &&& (2147483647 : Int32)) % (5 : Int32))), .val (.ref oREAD), .val (.int (0 : Int32)), .val (.int (1 : Int32))] [(.int (own_gr vb (1 : Int32)))]))
          refine own_Fin.go (fun t k => XS.iload X8.here hx rfl (hb hby at_95) rfl k) ?_
          show own_Fin _ _ _ _ _ _ _ (T8.setTop (mkF m 97 #[.val (.int va), .val (.int vb), .val (.int ((va &&& (2147483647 : Int32)) % (5 : Int32))), .val (.ref oREAD), .val (.int (0 : Int32)), .val (.int (1 : Int32))] [(.int (1 : Int32)), (.int (own_gr vb (1 : Int32)))]))
          have hc97 : (own_gr vb (1 : Int32)) = (1 : Int32) := own_t vb (0 : Int32) (1 : Int32) 0 (by decide) (by decide) (by decide) hc80
          refine own_Fin.go (fun t k => XS.icmpNo X8.here hx rfl (hb hby at_97) rfl (Jvm.Free.XT.ii_ne_f hc97) k) ?_
          show own_Fin _ _ _ _ _ _ _ (T8.setTop (mkF m 100 #[.val (.int va), .val (.int vb), .val (.int ((va &&& (2147483647 : Int32)) % (5 : Int32))), .val (.ref oREAD), .val (.int (0 : Int32)), .val (.int (1 : Int32))] []))
          refine own_Fin.go (fun t k => XS.iconst X8.here hx rfl (hb hby at_100) k) ?_
          show own_Fin _ _ _ _ _ _ _ (T8.setTop (mkF m 101 #[.val (.int va), .val (.int vb), .val (.int ((va &&& (2147483647 : Int32)) % (5 : Int32))), .val (.ref oREAD), .val (.int (0 : Int32)), .val (.int (1 : Int32))] [(.int (1 : Int32))]))
          refine own_Fin.go (fun t k => XS.goto X8.here hx rfl (pc0 := 101) (pc' := 105) rfl (hb hby at_101) (by decide) (by decide) k) ?_
          show own_Fin _ _ _ _ _ _ _ (T8.setTop (mkF m 105 #[.val (.int va), .val (.int vb), .val (.int ((va &&& (2147483647 : Int32)) % (5 : Int32))), .val (.ref oREAD), .val (.int (0 : Int32)), .val (.int (1 : Int32))] [(.int (1 : Int32))]))
          refine own_retN X8 hx (t := .boolean) (w := (1 : Int32)) Bd.returns (by simp) (hb hby at_105) Bd.notSynchronized rfl (by decide) (by decide) ?_
          rw [e8]
          exact ⟨rfl, N8⟩
        · refine own_Fin.go (fun t k => XS.icmpYes X7.here hx rfl (pc0 := 80) (pc' := 87) rfl (hb hby at_80) rfl (Jvm.Free.XT.ii_ne_t hc80) (by decide) (by decide) k) ?_
          show own_Fin _ _ _ _ _ _ _ (T7.setTop (mkF m 87 #[.val (.int va), .val (.int vb), .val (.int ((va &&& (2147483647 : Int32)) % (5 : Int32))), .val (.ref oREAD), .val (.int (0 : Int32)), .unset] []))
          refine own_Fin.go (fun t k => XS.iconst X7.here hx rfl (hb hby at_87) k) ?_
          show own_Fin _ _ _ _ _ _ _ (T7.setTop (mkF m 88 #[.val (.int va), .val (.int vb), .val (.int ((va &&& (2147483647 : Int32)) % (5 : Int32))), .val (.ref oREAD), .val (.int (0 : Int32)), .unset] [(.int (0 : Int32))]))
          refine own_Fin.go (fun t k => XS.istore X7.here hx rfl (hb hby at_88) rfl (l' := #[.val (.int va), .val (.int vb), .val (.int ((va &&& (2147483647 : Int32)) % (5 : Int32))), .val (.ref oREAD), .val (.int (0 : Int32)), .val (.int (0 : Int32))]) rfl k) ?_
          show own_Fin _ _ _ _ _ _ _ (T7.setTop (mkF m 90 #[.val (.int va), .val (.int vb), .val (.int ((va &&& (2147483647 : Int32)) % (5 : Int32))), .val (.ref oREAD), .val (.int (0 : Int32)), .val (.int (0 : Int32))] []))
          refine own_Fin.go (fun t k => XS.aloadN X7.here hx rfl (hb hby at_90) rfl rfl k) ?_
          show own_Fin _ _ _ _ _ _ _ (T7.setTop (mkF m 91 #[.val (.int va), .val (.int vb), .val (.int ((va &&& (2147483647 : Int32)) % (5 : Int32))), .val (.ref oREAD), .val (.int (0 : Int32)), .val (.int (0 : Int32))] [(.ref oREAD)]))
          refine own_Fin.go (fun t k => XS.iloadN X7.here hx rfl (hb hby at_91) rfl k) ?_
          show own_Fin _ _ _ _ _ _ _ (T7.setTop (mkF m 92 #[.val (.int va), .val (.int vb), .val (.int ((va &&& (2147483647 : Int32)) % (5 : Int32))), .val (.ref oREAD), .val (.int (0 : Int32)), .val (.int (0 : Int32))] [(.int vb), (.ref oREAD)]))
          obtain ⟨cq9, kq9, q9a, q9b, q9c⟩ := isOf hZ e7 E_oREAD
          obtain ⟨_, _, ⟨T9, L9, k9, n9⟩, -, X9, ⟨Lc9, hQ9, l9, y9, z9⟩, st9⟩ := X7.virtualBack hx (y := (⟨"com/example/stentor/stentor/protocol/Permission", "grantedBy", "(I)Z"⟩ : MethodName)) (z := (⟨"com/example/stentor/stentor/protocol/Permission", "grantedBy", "(I)Z"⟩ : MethodName)) hown (mvT hZ (hw _ (List.mem_of_getElem? (i := 4) rfl))) (mvT hZ (hw _ (List.mem_of_getElem? (i := 5) rfl))) (notFace_of_selects (args := #[]) (mvT hZ (hw _ (List.mem_of_getElem? (i := 7) rfl)))) (mvT hZ (hw _ (List.mem_of_getElem? (i := 7) rfl))) (mvT hZ (hw _ (List.mem_of_getElem? (i := 6) rfl))) (by decide) (backOf (W := 0) (own_rm_gr l Z a0 hw [] oREAD vb (1 : Int32) h0 n0 Z0 F_oREAD_bit) hZ (hw _ (List.mem_of_getElem? (i := 8) rfl)) (hw _ (List.mem_of_getElem? (i := 2) rfl)) (by decide) (by decide)) q9a q9c (g := (mkF m 92 #[.val (.int va), .val (.int vb), .val (.int ((va &&& (2147483647 : Int32)) % (5 : Int32))), .val (.ref oREAD), .val (.int (0 : Int32)), .val (.int (0 : Int32))] [(.int vb), (.ref oREAD)])) rfl (by rw [hml]; rfl) (Steps.refl _) (argsL := [(.int vb)]) (rest := []) (lenOf own_pd0 rfl) rfl (by show 2 * 0 + _ ≤ _; exact Nat.le_of_eq rfl) (hb hby at_92) (fun _ _ => ⟨rfl, e7, (by decide : 0 + 0 ≤ _), (by decide : 0 + 0 ≤ _)⟩)
          dsimp only [Pt.U, Pt.locs, Pt.cells, Pt.slots] at X9 l9 y9 z9 st9 hQ9
          subst l9 y9 z9
          obtain ⟨rfl, N9q, e9⟩ := hQ9
          refine own_Fin.go (fun t k => st9.trans k) ?_
          have N9 := Fr.app N0 N9q
          show own_Fin _ _ _ _ _ _ _ (T9.setTop (mkF m 95 #[.val (.int va), .val (.int vb), .val (.int ((va &&& (2147483647 : Int32)) % (5 : Int32))), .val (.ref oREAD), .val (.int (0 : Int32)), .val (.int (0 : Int32))] [(.int (own_gr vb (1 : Int32)))]))
          refine own_Fin.go (fun t k => XS.iload X9.here hx rfl (hb hby at_95) rfl k) ?_
          show own_Fin _ _ _ _ _ _ _ (T9.setTop (mkF m 97 #[.val (.int va), .val (.int vb), .val (.int ((va &&& (2147483647 : Int32)) % (5 : Int32))), .val (.ref oREAD), .val (.int (0 : Int32)), .val (.int (0 : Int32))] [(.int (0 : Int32)), (.int (own_gr vb (1 : Int32)))]))
          have hc97 : (own_gr vb (1 : Int32)) = (0 : Int32) := own_f vb (0 : Int32) (1 : Int32) 0 (by decide) (by decide) (by decide) hc80
          refine own_Fin.go (fun t k => XS.icmpNo X9.here hx rfl (hb hby at_97) rfl (Jvm.Free.XT.ii_ne_f hc97) k) ?_
          show own_Fin _ _ _ _ _ _ _ (T9.setTop (mkF m 100 #[.val (.int va), .val (.int vb), .val (.int ((va &&& (2147483647 : Int32)) % (5 : Int32))), .val (.ref oREAD), .val (.int (0 : Int32)), .val (.int (0 : Int32))] []))
          refine own_Fin.go (fun t k => XS.iconst X9.here hx rfl (hb hby at_100) k) ?_
          show own_Fin _ _ _ _ _ _ _ (T9.setTop (mkF m 101 #[.val (.int va), .val (.int vb), .val (.int ((va &&& (2147483647 : Int32)) % (5 : Int32))), .val (.ref oREAD), .val (.int (0 : Int32)), .val (.int (0 : Int32))] [(.int (1 : Int32))]))
          refine own_Fin.go (fun t k => XS.goto X9.here hx rfl (pc0 := 101) (pc' := 105) rfl (hb hby at_101) (by decide) (by decide) k) ?_
          show own_Fin _ _ _ _ _ _ _ (T9.setTop (mkF m 105 #[.val (.int va), .val (.int vb), .val (.int ((va &&& (2147483647 : Int32)) % (5 : Int32))), .val (.ref oREAD), .val (.int (0 : Int32)), .val (.int (0 : Int32))] [(.int (1 : Int32))]))
          refine own_retN X9 hx (t := .boolean) (w := (1 : Int32)) Bd.returns (by simp) (hb hby at_105) Bd.notSynchronized rfl (by decide) (by decide) ?_
          rw [e9]
          exact ⟨rfl, N9⟩
      · refine own_Fin.go (fun t k => XS.icmpYes X0.here hx rfl (pc0 := 38) (pc' := 51) rfl (hb hby at_38) rfl (Jvm.Free.XT.ii_ne_t hc38) (by decide) (by decide) k) ?_
        show own_Fin _ _ _ _ _ _ _ (s₁.setTop (mkF m 51 #[.val (.int va), .val (.int vb), .val (.int ((va &&& (2147483647 : Int32)) % (5 : Int32))), .unset, .unset, .unset] []))
        refine own_Fin.go (fun t k => XS.iloadN X0.here hx rfl (hb hby at_51) rfl k) ?_
        show own_Fin _ _ _ _ _ _ _ (s₁.setTop (mkF m 52 #[.val (.int va), .val (.int vb), .val (.int ((va &&& (2147483647 : Int32)) % (5 : Int32))), .unset, .unset, .unset] [(.int ((va &&& (2147483647 : Int32)) % (5 : Int32)))]))
        refine own_Fin.go (fun t k => XS.iconst X0.here hx rfl (hb hby at_52) k) ?_
        show own_Fin _ _ _ _ _ _ _ (s₁.setTop (mkF m 53 #[.val (.int va), .val (.int vb), .val (.int ((va &&& (2147483647 : Int32)) % (5 : Int32))), .unset, .unset, .unset] [(.int (3 : Int32)), (.int ((va &&& (2147483647 : Int32)) % (5 : Int32)))]))
        by_cases hc53 : ((va &&& (2147483647 : Int32)) % (5 : Int32)) = (3 : Int32)
        · refine own_Fin.go (fun t k => XS.icmpNo X0.here hx rfl (hb hby at_53) rfl (Jvm.Free.XT.ii_ne_f hc53) k) ?_
          show own_Fin _ _ _ _ _ _ _ (s₁.setTop (mkF m 56 #[.val (.int va), .val (.int vb), .val (.int ((va &&& (2147483647 : Int32)) % (5 : Int32))), .unset, .unset, .unset] []))
          obtain ⟨T10, X10, e10, st10⟩ := getS2 X0 hx hZ hown (host := "") (Or.inl (hw _ (List.mem_of_getElem? (i := 13) rfl))) Via.refl e0 S_WRITE (g := (mkF m 56 #[.val (.int va), .val (.int vb), .val (.int ((va &&& (2147483647 : Int32)) % (5 : Int32))), .unset, .unset, .unset] [])) rfl (hb hby at_56)
          refine own_Fin.go st10 ?_
          show own_Fin _ _ _ _ _ _ _ (T10.setTop (mkF m 59 #[.val (.int va), .val (.int vb), .val (.int ((va &&& (2147483647 : Int32)) % (5 : Int32))), .unset, .unset, .unset] [(.ref oWRITE)]))
          refine own_Fin.go (fun t k => XS.astoreN X10.here hx rfl (hb hby at_59) rfl rfl (l' := #[.val (.int va), .val (.int vb), .val (.int ((va &&& (2147483647 : Int32)) % (5 : Int32))), .val (.ref oWRITE), .unset, .unset]) rfl k) ?_
          show own_Fin _ _ _ _ _ _ _ (T10.setTop (mkF m 60 #[.val (.int va), .val (.int vb), .val (.int ((va &&& (2147483647 : Int32)) % (5 : Int32))), .val (.ref oWRITE), .unset, .unset] []))
          refine own_Fin.go (fun t k => XS.iconst X10.here hx rfl (hb hby at_60) k) ?_
          show own_Fin _ _ _ _ _ _ _ (T10.setTop (mkF m 61 #[.val (.int va), .val (.int vb), .val (.int ((va &&& (2147483647 : Int32)) % (5 : Int32))), .val (.ref oWRITE), .unset, .unset] [(.int (1 : Int32))]))
          refine own_Fin.go (fun t k => XS.istore X10.here hx rfl (hb hby at_61) rfl (l' := #[.val (.int va), .val (.int vb), .val (.int ((va &&& (2147483647 : Int32)) % (5 : Int32))), .val (.ref oWRITE), .val (.int (1 : Int32)), .unset]) rfl k) ?_
          show own_Fin _ _ _ _ _ _ _ (T10.setTop (mkF m 63 #[.val (.int va), .val (.int vb), .val (.int ((va &&& (2147483647 : Int32)) % (5 : Int32))), .val (.ref oWRITE), .val (.int (1 : Int32)), .unset] []))
          refine own_Fin.go (fun t k => XS.goto X10.here hx rfl (pc0 := 63) (pc' := 73) rfl (hb hby at_63) (by decide) (by decide) k) ?_
          show own_Fin _ _ _ _ _ _ _ (T10.setTop (mkF m 73 #[.val (.int va), .val (.int vb), .val (.int ((va &&& (2147483647 : Int32)) % (5 : Int32))), .val (.ref oWRITE), .val (.int (1 : Int32)), .unset] []))
          refine own_Fin.go (fun t k => XS.iloadN X10.here hx rfl (hb hby at_73) rfl k) ?_
          show own_Fin _ _ _ _ _ _ _ (T10.setTop (mkF m 74 #[.val (.int va), .val (.int vb), .val (.int ((va &&& (2147483647 : Int32)) % (5 : Int32))), .val (.ref oWRITE), .val (.int (1 : Int32)), .unset] [(.int vb)]))
          refine own_Fin.go (fun t k => XS.iload X10.here hx rfl (hb hby at_74) rfl k) ?_
          show own_Fin _ _ _ _ _ _ _ (T10.setTop (mkF m 76 #[.val (.int va), .val (.int vb), .val (.int ((va &&& (2147483647 : Int32)) % (5 : Int32))), .val (.ref oWRITE), .val (.int (1 : Int32)), .unset] [(.int (1 : Int32)), (.int vb)]))
          refine own_Fin.go (fun t k => XS.iushr X10.here hx rfl (hb hby at_76) rfl k) ?_
          show own_Fin _ _ _ _ _ _ _ (T10.setTop (mkF m 77 #[.val (.int va), .val (.int vb), .val (.int ((va &&& (2147483647 : Int32)) % (5 : Int32))), .val (.ref oWRITE), .val (.int (1 : Int32)), .unset] [(.int ((vb.toUInt32 >>> ((1 : Int32) &&& 31).toUInt32).toInt32))]))
          refine own_Fin.go (fun t k => XS.iconst X10.here hx rfl (hb hby at_77) k) ?_
          show own_Fin _ _ _ _ _ _ _ (T10.setTop (mkF m 78 #[.val (.int va), .val (.int vb), .val (.int ((va &&& (2147483647 : Int32)) % (5 : Int32))), .val (.ref oWRITE), .val (.int (1 : Int32)), .unset] [(.int (1 : Int32)), (.int ((vb.toUInt32 >>> ((1 : Int32) &&& 31).toUInt32).toInt32))]))
          refine own_Fin.go (fun t k => XS.iand X10.here hx rfl (hb hby at_78) rfl k) ?_
          show own_Fin _ _ _ _ _ _ _ (T10.setTop (mkF m 79 #[.val (.int va), .val (.int vb), .val (.int ((va &&& (2147483647 : Int32)) % (5 : Int32))), .val (.ref oWRITE), .val (.int (1 : Int32)), .unset] [(.int (((vb.toUInt32 >>> ((1 : Int32) &&& 31).toUInt32).toInt32) &&& (1 : Int32)))]))
          refine own_Fin.go (fun t k => XS.iconst X10.here hx rfl (hb hby at_79) k) ?_
          show own_Fin _ _ _ _ _ _ _ (T10.setTop (mkF m 80 #[.val (.int va), .val (.int vb), .val (.int ((va &&& (2147483647 : Int32)) % (5 : Int32))), .val (.ref oWRITE), .val (.int (1 : Int32)), .unset] [(.int (1 : Int32)), (.int (((vb.toUInt32 >>> ((1 : Int32) &&& 31).toUInt32).toInt32) &&& (1 : Int32)))]))
          by_cases hc80 : (((vb.toUInt32 >>> ((1 : Int32) &&& 31).toUInt32).toInt32) &&& (1 : Int32)) = (1 : Int32)
          · refine own_Fin.go (fun t k => XS.icmpNo X10.here hx rfl (hb hby at_80) rfl (Jvm.Free.XT.ii_ne_f hc80) k) ?_
            show own_Fin _ _ _ _ _ _ _ (T10.setTop (mkF m 83 #[.val (.int va), .val (.int vb), .val (.int ((va &&& (2147483647 : Int32)) % (5 : Int32))), .val (.ref oWRITE), .val (.int (1 : Int32)), .unset] []))
            refine own_Fin.go (fun t k => XS.iconst X10.here hx rfl (hb hby at_83) k) ?_
            show own_Fin _ _ _ _ _ _ _ (T10.setTop (mkF m 84 #[.val (.int va), .val (.int vb), .val (.int ((va &&& (2147483647 : Int32)) % (5 : Int32))), .val (.ref oWRITE), .val (.int (1 : Int32)), .unset] [(.int (1 : Int32))]))
            refine own_Fin.go (fun t k => XS.goto X10.here hx rfl (pc0 := 84) (pc' := 88) rfl (hb hby at_84) (by decide) (by decide) k) ?_
            show own_Fin _ _ _ _ _ _ _ (T10.setTop (mkF m 88 #[.val (.int va), .val (.int vb), .val (.int ((va &&& (2147483647 : Int32)) % (5 : Int32))), .val (.ref oWRITE), .val (.int (1 : Int32)), .unset] [(.int (1 : Int32))]))
            refine own_Fin.go (fun t k => XS.istore X10.here hx rfl (hb hby at_88) rfl (l' := #[.val (.int va), .val (.int vb), .val (.int ((va &&& (2147483647 : Int32)) % (5 : Int32))), .val (.ref oWRITE), .val (.int (1 : Int32)), .val (.int (1 : Int32))]) rfl k) ?_
            show own_Fin _ _ _ _ _ _ _ (T10.setTop (mkF m 90 #[.val (.int va), .val (.int vb), .val (.int ((va &&& (2147483647 : Int32)) % (5 : Int32))), .val (.ref oWRITE), .val (.int (1 : Int32)), .val (.int (1 : Int32))] []))
            refine own_Fin.go (fun t k => XS.aloadN X10.here hx rfl (hb hby at_90) rfl rfl k) ?_
            show own_Fin _ _ _ _ _ _ _ (T10.setTop (mkF m 91 #[.val (.int va), .val (.int vb), .val (.int ((va &&& (2147483647 : Int32)) % (5 : Int32))), .val (.ref oWRITE), .val (.int (1 : Int32)), .val (.int (1 : Int32))] [(.ref oWRITE)]))
            refine own_Fin.go (fun t k => XS.iloadN X10.here hx rfl (hb hby at_91) rfl k) ?_
            show own_Fin _ _ _ _ _ _ _ (T10.setTop (mkF m 92 #[.val (.int va), .val (.int vb), .val (.int ((va &&& (2147483647 : Int32)) % (5 : Int32))), .val (.ref oWRITE), .val (.int (1 : Int32)), .val (.int (1 : Int32))] [(.int vb), (.ref oWRITE)]))
            obtain ⟨cq11, kq11, q11a, q11b, q11c⟩ := isOf hZ e10 E_oWRITE
            obtain ⟨_, _, ⟨T11, L11, k11, n11⟩, -, X11, ⟨Lc11, hQ11, l11, y11, z11⟩, st11⟩ := X10.virtualBack hx (y := (⟨"com/example/stentor/stentor/protocol/Permission", "grantedBy", "(I)Z"⟩ : MethodName)) (z := (⟨"com/example/stentor/stentor/protocol/Permission", "grantedBy", "(I)Z"⟩ : MethodName)) hown (mvT hZ (hw _ (List.mem_of_getElem? (i := 4) rfl))) (mvT hZ (hw _ (List.mem_of_getElem? (i := 5) rfl))) (notFace_of_selects (args := #[]) (mvT hZ (hw _ (List.mem_of_getElem? (i := 7) rfl)))) (mvT hZ (hw _ (List.mem_of_getElem? (i := 7) rfl))) (mvT hZ (hw _ (List.mem_of_getElem? (i := 6) rfl))) (by decide) (backOf (W := 0) (own_rm_gr l Z a0 hw [] oWRITE vb (2 : Int32) h0 n0 Z0 F_oWRITE_bit) hZ (hw _ (List.mem_of_getElem? (i := 8) rfl)) (hw _ (List.mem_of_getElem? (i := 2) rfl)) (by decide) (by decide)) q11a q11c (g := (mkF m 92 #[.val (.int va), .val (.int vb), .val (.int ((va &&& (2147483647 : Int32)) % (5 : Int32))), .val (.ref oWRITE), .val (.int (1 : Int32)), .val (.int (1 : Int32))] [(.int vb), (.ref oWRITE)])) rfl (by rw [hml]; rfl) (Steps.refl _) (argsL := [(.int vb)]) (rest := []) (lenOf own_pd0 rfl) rfl (by show 2 * 0 + _ ≤ _; exact Nat.le_of_eq rfl) (hb hby at_92) (fun _ _ => ⟨rfl, e10, (by decide : 0 + 0 ≤ _), (by decide : 0 + 0 ≤ _)⟩)
            dsimp only [Pt.U, Pt.locs, Pt.cells, Pt.slots] at X11 l11 y11 z11 st11 hQ11
            subst l11 y11 z11
            obtain ⟨rfl, N11q, e11⟩ := hQ11
            refine own_Fin.go (fun t k => st11.trans k) ?_
            have N11 := Fr.app N0 N11q
            show own_Fin _ _ _ _ _ _ _ (T11.setTop (mkF m 95 #[.val (.int va), .val (.int vb), .val (.int ((va &&& (2147483647 : Int32)) % (5 : Int32))), .val (.ref oWRITE), .val (.int (1 : Int32)), .val (.int (1 : Int32))] [(.int (own_gr vb (2 : Int32)))]))
            refine own_Fin.go (fun t k => XS.iload X11.here hx rfl (hb hby at_95) rfl k) ?_
            show own_Fin _ _ _ _ _ _ _ (T11.setTop (mkF m 97 #[.val (.int va), .val (.int vb), .val (.int ((va &&& (2147483647 : Int32)) % (5 : Int32))), .val (.ref oWRITE), .val (.int (1 : Int32)), .val (.int (1 : Int32))] [(.int (1 : Int32)), (.int (own_gr vb (2 : Int32)))]))
            have hc97 : (own_gr vb (2 : Int32)) = (1 : Int32) := own_t vb (1 : Int32) (2 : Int32) 1 (by decide) (by decide) (by decide) hc80
            refine own_Fin.go (fun t k => XS.icmpNo X11.here hx rfl (hb hby at_97) rfl (Jvm.Free.XT.ii_ne_f hc97) k) ?_
            show own_Fin _ _ _ _ _ _ _ (T11.setTop (mkF m 100 #[.val (.int va), .val (.int vb), .val (.int ((va &&& (2147483647 : Int32)) % (5 : Int32))), .val (.ref oWRITE), .val (.int (1 : Int32)), .val (.int (1 : Int32))] []))
            refine own_Fin.go (fun t k => XS.iconst X11.here hx rfl (hb hby at_100) k) ?_
            show own_Fin _ _ _ _ _ _ _ (T11.setTop (mkF m 101 #[.val (.int va), .val (.int vb), .val (.int ((va &&& (2147483647 : Int32)) % (5 : Int32))), .val (.ref oWRITE), .val (.int (1 : Int32)), .val (.int (1 : Int32))] [(.int (1 : Int32))]))
            refine own_Fin.go (fun t k => XS.goto X11.here hx rfl (pc0 := 101) (pc' := 105) rfl (hb hby at_101) (by decide) (by decide) k) ?_
            show own_Fin _ _ _ _ _ _ _ (T11.setTop (mkF m 105 #[.val (.int va), .val (.int vb), .val (.int ((va &&& (2147483647 : Int32)) % (5 : Int32))), .val (.ref oWRITE), .val (.int (1 : Int32)), .val (.int (1 : Int32))] [(.int (1 : Int32))]))
            refine own_retN X11 hx (t := .boolean) (w := (1 : Int32)) Bd.returns (by simp) (hb hby at_105) Bd.notSynchronized rfl (by decide) (by decide) ?_
            rw [e11]
            exact ⟨rfl, N11⟩
          · refine own_Fin.go (fun t k => XS.icmpYes X10.here hx rfl (pc0 := 80) (pc' := 87) rfl (hb hby at_80) rfl (Jvm.Free.XT.ii_ne_t hc80) (by decide) (by decide) k) ?_
            show own_Fin _ _ _ _ _ _ _ (T10.setTop (mkF m 87 #[.val (.int va), .val (.int vb), .val (.int ((va &&& (2147483647 : Int32)) % (5 : Int32))), .val (.ref oWRITE), .val (.int (1 : Int32)), .unset] []))
            refine own_Fin.go (fun t k => XS.iconst X10.here hx rfl (hb hby at_87) k) ?_
            show own_Fin _ _ _ _ _ _ _ (T10.setTop (mkF m 88 #[.val (.int va), .val (.int vb), .val (.int ((va &&& (2147483647 : Int32)) % (5 : Int32))), .val (.ref oWRITE), .val (.int (1 : Int32)), .unset] [(.int (0 : Int32))]))
            refine own_Fin.go (fun t k => XS.istore X10.here hx rfl (hb hby at_88) rfl (l' := #[.val (.int va), .val (.int vb), .val (.int ((va &&& (2147483647 : Int32)) % (5 : Int32))), .val (.ref oWRITE), .val (.int (1 : Int32)), .val (.int (0 : Int32))]) rfl k) ?_
            show own_Fin _ _ _ _ _ _ _ (T10.setTop (mkF m 90 #[.val (.int va), .val (.int vb), .val (.int ((va &&& (2147483647 : Int32)) % (5 : Int32))), .val (.ref oWRITE), .val (.int (1 : Int32)), .val (.int (0 : Int32))] []))
            refine own_Fin.go (fun t k => XS.aloadN X10.here hx rfl (hb hby at_90) rfl rfl k) ?_
            show own_Fin _ _ _ _ _ _ _ (T10.setTop (mkF m 91 #[.val (.int va), .val (.int vb), .val (.int ((va &&& (2147483647 : Int32)) % (5 : Int32))), .val (.ref oWRITE), .val (.int (1 : Int32)), .val (.int (0 : Int32))] [(.ref oWRITE)]))
            refine own_Fin.go (fun t k => XS.iloadN X10.here hx rfl (hb hby at_91) rfl k) ?_
            show own_Fin _ _ _ _ _ _ _ (T10.setTop (mkF m 92 #[.val (.int va), .val (.int vb), .val (.int ((va &&& (2147483647 : Int32)) % (5 : Int32))), .val (.ref oWRITE), .val (.int (1 : Int32)), .val (.int (0 : Int32))] [(.int vb), (.ref oWRITE)]))
            obtain ⟨cq12, kq12, q12a, q12b, q12c⟩ := isOf hZ e10 E_oWRITE
            obtain ⟨_, _, ⟨T12, L12, k12, n12⟩, -, X12, ⟨Lc12, hQ12, l12, y12, z12⟩, st12⟩ := X10.virtualBack hx (y := (⟨"com/example/stentor/stentor/protocol/Permission", "grantedBy", "(I)Z"⟩ : MethodName)) (z := (⟨"com/example/stentor/stentor/protocol/Permission", "grantedBy", "(I)Z"⟩ : MethodName)) hown (mvT hZ (hw _ (List.mem_of_getElem? (i := 4) rfl))) (mvT hZ (hw _ (List.mem_of_getElem? (i := 5) rfl))) (notFace_of_selects (args := #[]) (mvT hZ (hw _ (List.mem_of_getElem? (i := 7) rfl)))) (mvT hZ (hw _ (List.mem_of_getElem? (i := 7) rfl))) (mvT hZ (hw _ (List.mem_of_getElem? (i := 6) rfl))) (by decide) (backOf (W := 0) (own_rm_gr l Z a0 hw [] oWRITE vb (2 : Int32) h0 n0 Z0 F_oWRITE_bit) hZ (hw _ (List.mem_of_getElem? (i := 8) rfl)) (hw _ (List.mem_of_getElem? (i := 2) rfl)) (by decide) (by decide)) q12a q12c (g := (mkF m 92 #[.val (.int va), .val (.int vb), .val (.int ((va &&& (2147483647 : Int32)) % (5 : Int32))), .val (.ref oWRITE), .val (.int (1 : Int32)), .val (.int (0 : Int32))] [(.int vb), (.ref oWRITE)])) rfl (by rw [hml]; rfl) (Steps.refl _) (argsL := [(.int vb)]) (rest := []) (lenOf own_pd0 rfl) rfl (by show 2 * 0 + _ ≤ _; exact Nat.le_of_eq rfl) (hb hby at_92) (fun _ _ => ⟨rfl, e10, (by decide : 0 + 0 ≤ _), (by decide : 0 + 0 ≤ _)⟩)
            dsimp only [Pt.U, Pt.locs, Pt.cells, Pt.slots] at X12 l12 y12 z12 st12 hQ12
            subst l12 y12 z12
            obtain ⟨rfl, N12q, e12⟩ := hQ12
            refine own_Fin.go (fun t k => st12.trans k) ?_
            have N12 := Fr.app N0 N12q
            show own_Fin _ _ _ _ _ _ _ (T12.setTop (mkF m 95 #[.val (.int va), .val (.int vb), .val (.int ((va &&& (2147483647 : Int32)) % (5 : Int32))), .val (.ref oWRITE), .val (.int (1 : Int32)), .val (.int (0 : Int32))] [(.int (own_gr vb (2 : Int32)))]))
            refine own_Fin.go (fun t k => XS.iload X12.here hx rfl (hb hby at_95) rfl k) ?_
            show own_Fin _ _ _ _ _ _ _ (T12.setTop (mkF m 97 #[.val (.int va), .val (.int vb), .val (.int ((va &&& (2147483647 : Int32)) % (5 : Int32))), .val (.ref oWRITE), .val (.int (1 : Int32)), .val (.int (0 : Int32))] [(.int (0 : Int32)), (.int (own_gr vb (2 : Int32)))]))
            have hc97 : (own_gr vb (2 : Int32)) = (0 : Int32) := own_f vb (1 : Int32) (2 : Int32) 1 (by decide) (by decide) (by decide) hc80
            refine own_Fin.go (fun t k => XS.icmpNo X12.here hx rfl (hb hby at_97) rfl (Jvm.Free.XT.ii_ne_f hc97) k) ?_
            show own_Fin _ _ _ _ _ _ _ (T12.setTop (mkF m 100 #[.val (.int va), .val (.int vb), .val (.int ((va &&& (2147483647 : Int32)) % (5 : Int32))), .val (.ref oWRITE), .val (.int (1 : Int32)), .val (.int (0 : Int32))] []))
            refine own_Fin.go (fun t k => XS.iconst X12.here hx rfl (hb hby at_100) k) ?_
            show own_Fin _ _ _ _ _ _ _ (T12.setTop (mkF m 101 #[.val (.int va), .val (.int vb), .val (.int ((va &&& (2147483647 : Int32)) % (5 : Int32))), .val (.ref oWRITE), .val (.int (1 : Int32)), .val (.int (0 : Int32))] [(.int (1 : Int32))]))
            refine own_Fin.go (fun t k => XS.goto X12.here hx rfl (pc0 := 101) (pc' := 105) rfl (hb hby at_101) (by decide) (by decide) k) ?_
            show own_Fin _ _ _ _ _ _ _ (T12.setTop (mkF m 105 #[.val (.int va), .val (.int vb), .val (.int ((va &&& (2147483647 : Int32)) % (5 : Int32))), .val (.ref oWRITE), .val (.int (1 : Int32)), .val (.int (0 : Int32))] [(.int (1 : Int32))]))
            refine own_retN X12 hx (t := .boolean) (w := (1 : Int32)) Bd.returns (by simp) (hb hby at_105) Bd.notSynchronized rfl (by decide) (by decide) ?_
            rw [e12]
            exact ⟨rfl, N12⟩
        · refine own_Fin.go (fun t k => XS.icmpYes X0.here hx rfl (pc0 := 53) (pc' := 66) rfl (hb hby at_53) rfl (Jvm.Free.XT.ii_ne_t hc53) (by decide) (by decide) k) ?_
          show own_Fin _ _ _ _ _ _ _ (s₁.setTop (mkF m 66 #[.val (.int va), .val (.int vb), .val (.int ((va &&& (2147483647 : Int32)) % (5 : Int32))), .unset, .unset, .unset] []))
          obtain ⟨T13, X13, e13, st13⟩ := getS2 X0 hx hZ hown (host := "") (Or.inl (hw _ (List.mem_of_getElem? (i := 11) rfl))) Via.refl e0 S_ADMIN (g := (mkF m 66 #[.val (.int va), .val (.int vb), .val (.int ((va &&& (2147483647 : Int32)) % (5 : Int32))), .unset, .unset, .unset] [])) rfl (hb hby at_66)
          refine own_Fin.go st13 ?_
          show own_Fin _ _ _ _ _ _ _ (T13.setTop (mkF m 69 #[.val (.int va), .val (.int vb), .val (.int ((va &&& (2147483647 : Int32)) % (5 : Int32))), .unset, .unset, .unset] [(.ref oADMIN)]))
          refine own_Fin.go (fun t k => XS.astoreN X13.here hx rfl (hb hby at_69) rfl rfl (l' := #[.val (.int va), .val (.int vb), .val (.int ((va &&& (2147483647 : Int32)) % (5 : Int32))), .val (.ref oADMIN), .unset, .unset]) rfl k) ?_
          show own_Fin _ _ _ _ _ _ _ (T13.setTop (mkF m 70 #[.val (.int va), .val (.int vb), .val (.int ((va &&& (2147483647 : Int32)) % (5 : Int32))), .val (.ref oADMIN), .unset, .unset] []))
          refine own_Fin.go (fun t k => XS.iconst X13.here hx rfl (hb hby at_70) k) ?_
          show own_Fin _ _ _ _ _ _ _ (T13.setTop (mkF m 71 #[.val (.int va), .val (.int vb), .val (.int ((va &&& (2147483647 : Int32)) % (5 : Int32))), .val (.ref oADMIN), .unset, .unset] [(.int (4 : Int32))]))
          refine own_Fin.go (fun t k => XS.istore X13.here hx rfl (hb hby at_71) rfl (l' := #[.val (.int va), .val (.int vb), .val (.int ((va &&& (2147483647 : Int32)) % (5 : Int32))), .val (.ref oADMIN), .val (.int (4 : Int32)), .unset]) rfl k) ?_
          show own_Fin _ _ _ _ _ _ _ (T13.setTop (mkF m 73 #[.val (.int va), .val (.int vb), .val (.int ((va &&& (2147483647 : Int32)) % (5 : Int32))), .val (.ref oADMIN), .val (.int (4 : Int32)), .unset] []))
          refine own_Fin.go (fun t k => XS.iloadN X13.here hx rfl (hb hby at_73) rfl k) ?_
          show own_Fin _ _ _ _ _ _ _ (T13.setTop (mkF m 74 #[.val (.int va), .val (.int vb), .val (.int ((va &&& (2147483647 : Int32)) % (5 : Int32))), .val (.ref oADMIN), .val (.int (4 : Int32)), .unset] [(.int vb)]))
          refine own_Fin.go (fun t k => XS.iload X13.here hx rfl (hb hby at_74) rfl k) ?_
          show own_Fin _ _ _ _ _ _ _ (T13.setTop (mkF m 76 #[.val (.int va), .val (.int vb), .val (.int ((va &&& (2147483647 : Int32)) % (5 : Int32))), .val (.ref oADMIN), .val (.int (4 : Int32)), .unset] [(.int (4 : Int32)), (.int vb)]))
          refine own_Fin.go (fun t k => XS.iushr X13.here hx rfl (hb hby at_76) rfl k) ?_
          show own_Fin _ _ _ _ _ _ _ (T13.setTop (mkF m 77 #[.val (.int va), .val (.int vb), .val (.int ((va &&& (2147483647 : Int32)) % (5 : Int32))), .val (.ref oADMIN), .val (.int (4 : Int32)), .unset] [(.int ((vb.toUInt32 >>> ((4 : Int32) &&& 31).toUInt32).toInt32))]))
          refine own_Fin.go (fun t k => XS.iconst X13.here hx rfl (hb hby at_77) k) ?_
          show own_Fin _ _ _ _ _ _ _ (T13.setTop (mkF m 78 #[.val (.int va), .val (.int vb), .val (.int ((va &&& (2147483647 : Int32)) % (5 : Int32))), .val (.ref oADMIN), .val (.int (4 : Int32)), .unset] [(.int (1 : Int32)), (.int ((vb.toUInt32 >>> ((4 : Int32) &&& 31).toUInt32).toInt32))]))
          refine own_Fin.go (fun t k => XS.iand X13.here hx rfl (hb hby at_78) rfl k) ?_
          show own_Fin _ _ _ _ _ _ _ (T13.setTop (mkF m 79 #[.val (.int va), .val (.int vb), .val (.int ((va &&& (2147483647 : Int32)) % (5 : Int32))), .val (.ref oADMIN), .val (.int (4 : Int32)), .unset] [(.int (((vb.toUInt32 >>> ((4 : Int32) &&& 31).toUInt32).toInt32) &&& (1 : Int32)))]))
          refine own_Fin.go (fun t k => XS.iconst X13.here hx rfl (hb hby at_79) k) ?_
          show own_Fin _ _ _ _ _ _ _ (T13.setTop (mkF m 80 #[.val (.int va), .val (.int vb), .val (.int ((va &&& (2147483647 : Int32)) % (5 : Int32))), .val (.ref oADMIN), .val (.int (4 : Int32)), .unset] [(.int (1 : Int32)), (.int (((vb.toUInt32 >>> ((4 : Int32) &&& 31).toUInt32).toInt32) &&& (1 : Int32)))]))
          by_cases hc80 : (((vb.toUInt32 >>> ((4 : Int32) &&& 31).toUInt32).toInt32) &&& (1 : Int32)) = (1 : Int32)
          · refine own_Fin.go (fun t k => XS.icmpNo X13.here hx rfl (hb hby at_80) rfl (Jvm.Free.XT.ii_ne_f hc80) k) ?_
            show own_Fin _ _ _ _ _ _ _ (T13.setTop (mkF m 83 #[.val (.int va), .val (.int vb), .val (.int ((va &&& (2147483647 : Int32)) % (5 : Int32))), .val (.ref oADMIN), .val (.int (4 : Int32)), .unset] []))
            refine own_Fin.go (fun t k => XS.iconst X13.here hx rfl (hb hby at_83) k) ?_
            show own_Fin _ _ _ _ _ _ _ (T13.setTop (mkF m 84 #[.val (.int va), .val (.int vb), .val (.int ((va &&& (2147483647 : Int32)) % (5 : Int32))), .val (.ref oADMIN), .val (.int (4 : Int32)), .unset] [(.int (1 : Int32))]))
            refine own_Fin.go (fun t k => XS.goto X13.here hx rfl (pc0 := 84) (pc' := 88) rfl (hb hby at_84) (by decide) (by decide) k) ?_
            show own_Fin _ _ _ _ _ _ _ (T13.setTop (mkF m 88 #[.val (.int va), .val (.int vb), .val (.int ((va &&& (2147483647 : Int32)) % (5 : Int32))), .val (.ref oADMIN), .val (.int (4 : Int32)), .unset] [(.int (1 : Int32))]))
            refine own_Fin.go (fun t k => XS.istore X13.here hx rfl (hb hby at_88) rfl (l' := #[.val (.int va), .val (.int vb), .val (.int ((va &&& (2147483647 : Int32)) % (5 : Int32))), .val (.ref oADMIN), .val (.int (4 : Int32)), .val (.int (1 : Int32))]) rfl k) ?_
            show own_Fin _ _ _ _ _ _ _ (T13.setTop (mkF m 90 #[.val (.int va), .val (.int vb), .val (.int ((va &&& (2147483647 : Int32)) % (5 : Int32))), .val (.ref oADMIN), .val (.int (4 : Int32)), .val (.int (1 : Int32))] []))
            refine own_Fin.go (fun t k => XS.aloadN X13.here hx rfl (hb hby at_90) rfl rfl k) ?_
            show own_Fin _ _ _ _ _ _ _ (T13.setTop (mkF m 91 #[.val (.int va), .val (.int vb), .val (.int ((va &&& (2147483647 : Int32)) % (5 : Int32))), .val (.ref oADMIN), .val (.int (4 : Int32)), .val (.int (1 : Int32))] [(.ref oADMIN)]))
            refine own_Fin.go (fun t k => XS.iloadN X13.here hx rfl (hb hby at_91) rfl k) ?_
            show own_Fin _ _ _ _ _ _ _ (T13.setTop (mkF m 92 #[.val (.int va), .val (.int vb), .val (.int ((va &&& (2147483647 : Int32)) % (5 : Int32))), .val (.ref oADMIN), .val (.int (4 : Int32)), .val (.int (1 : Int32))] [(.int vb), (.ref oADMIN)]))
            obtain ⟨cq14, kq14, q14a, q14b, q14c⟩ := isOf hZ e13 E_oADMIN
            obtain ⟨_, _, ⟨T14, L14, k14, n14⟩, -, X14, ⟨Lc14, hQ14, l14, y14, z14⟩, st14⟩ := X13.virtualBack hx (y := (⟨"com/example/stentor/stentor/protocol/Permission", "grantedBy", "(I)Z"⟩ : MethodName)) (z := (⟨"com/example/stentor/stentor/protocol/Permission", "grantedBy", "(I)Z"⟩ : MethodName)) hown (mvT hZ (hw _ (List.mem_of_getElem? (i := 4) rfl))) (mvT hZ (hw _ (List.mem_of_getElem? (i := 5) rfl))) (notFace_of_selects (args := #[]) (mvT hZ (hw _ (List.mem_of_getElem? (i := 7) rfl)))) (mvT hZ (hw _ (List.mem_of_getElem? (i := 7) rfl))) (mvT hZ (hw _ (List.mem_of_getElem? (i := 6) rfl))) (by decide) (backOf (W := 0) (own_rm_gr l Z a0 hw [] oADMIN vb (16 : Int32) h0 n0 Z0 F_oADMIN_bit) hZ (hw _ (List.mem_of_getElem? (i := 8) rfl)) (hw _ (List.mem_of_getElem? (i := 2) rfl)) (by decide) (by decide)) q14a q14c (g := (mkF m 92 #[.val (.int va), .val (.int vb), .val (.int ((va &&& (2147483647 : Int32)) % (5 : Int32))), .val (.ref oADMIN), .val (.int (4 : Int32)), .val (.int (1 : Int32))] [(.int vb), (.ref oADMIN)])) rfl (by rw [hml]; rfl) (Steps.refl _) (argsL := [(.int vb)]) (rest := []) (lenOf own_pd0 rfl) rfl (by show 2 * 0 + _ ≤ _; exact Nat.le_of_eq rfl) (hb hby at_92) (fun _ _ => ⟨rfl, e13, (by decide : 0 + 0 ≤ _), (by decide : 0 + 0 ≤ _)⟩)
            dsimp only [Pt.U, Pt.locs, Pt.cells, Pt.slots] at X14 l14 y14 z14 st14 hQ14
            subst l14 y14 z14
            obtain ⟨rfl, N14q, e14⟩ := hQ14
            refine own_Fin.go (fun t k => st14.trans k) ?_
            have N14 := Fr.app N0 N14q
            show own_Fin _ _ _ _ _ _ _ (T14.setTop (mkF m 95 #[.val (.int va), .val (.int vb), .val (.int ((va &&& (2147483647 : Int32)) % (5 : Int32))), .val (.ref oADMIN), .val (.int (4 : Int32)), .val (.int (1 : Int32))] [(.int (own_gr vb (16 : Int32)))]))
            refine own_Fin.go (fun t k => XS.iload X14.here hx rfl (hb hby at_95) rfl k) ?_
            show own_Fin _ _ _ _ _ _ _ (T14.setTop (mkF m 97 #[.val (.int va), .val (.int vb), .val (.int ((va &&& (2147483647 : Int32)) % (5 : Int32))), .val (.ref oADMIN), .val (.int (4 : Int32)), .val (.int (1 : Int32))] [(.int (1 : Int32)), (.int (own_gr vb (16 : Int32)))]))
            have hc97 : (own_gr vb (16 : Int32)) = (1 : Int32) := own_t vb (4 : Int32) (16 : Int32) 4 (by decide) (by decide) (by decide) hc80
            refine own_Fin.go (fun t k => XS.icmpNo X14.here hx rfl (hb hby at_97) rfl (Jvm.Free.XT.ii_ne_f hc97) k) ?_
            show own_Fin _ _ _ _ _ _ _ (T14.setTop (mkF m 100 #[.val (.int va), .val (.int vb), .val (.int ((va &&& (2147483647 : Int32)) % (5 : Int32))), .val (.ref oADMIN), .val (.int (4 : Int32)), .val (.int (1 : Int32))] []))
            refine own_Fin.go (fun t k => XS.iconst X14.here hx rfl (hb hby at_100) k) ?_
            show own_Fin _ _ _ _ _ _ _ (T14.setTop (mkF m 101 #[.val (.int va), .val (.int vb), .val (.int ((va &&& (2147483647 : Int32)) % (5 : Int32))), .val (.ref oADMIN), .val (.int (4 : Int32)), .val (.int (1 : Int32))] [(.int (1 : Int32))]))
            refine own_Fin.go (fun t k => XS.goto X14.here hx rfl (pc0 := 101) (pc' := 105) rfl (hb hby at_101) (by decide) (by decide) k) ?_
            show own_Fin _ _ _ _ _ _ _ (T14.setTop (mkF m 105 #[.val (.int va), .val (.int vb), .val (.int ((va &&& (2147483647 : Int32)) % (5 : Int32))), .val (.ref oADMIN), .val (.int (4 : Int32)), .val (.int (1 : Int32))] [(.int (1 : Int32))]))
            refine own_retN X14 hx (t := .boolean) (w := (1 : Int32)) Bd.returns (by simp) (hb hby at_105) Bd.notSynchronized rfl (by decide) (by decide) ?_
            rw [e14]
            exact ⟨rfl, N14⟩
          · refine own_Fin.go (fun t k => XS.icmpYes X13.here hx rfl (pc0 := 80) (pc' := 87) rfl (hb hby at_80) rfl (Jvm.Free.XT.ii_ne_t hc80) (by decide) (by decide) k) ?_
            show own_Fin _ _ _ _ _ _ _ (T13.setTop (mkF m 87 #[.val (.int va), .val (.int vb), .val (.int ((va &&& (2147483647 : Int32)) % (5 : Int32))), .val (.ref oADMIN), .val (.int (4 : Int32)), .unset] []))
            refine own_Fin.go (fun t k => XS.iconst X13.here hx rfl (hb hby at_87) k) ?_
            show own_Fin _ _ _ _ _ _ _ (T13.setTop (mkF m 88 #[.val (.int va), .val (.int vb), .val (.int ((va &&& (2147483647 : Int32)) % (5 : Int32))), .val (.ref oADMIN), .val (.int (4 : Int32)), .unset] [(.int (0 : Int32))]))
            refine own_Fin.go (fun t k => XS.istore X13.here hx rfl (hb hby at_88) rfl (l' := #[.val (.int va), .val (.int vb), .val (.int ((va &&& (2147483647 : Int32)) % (5 : Int32))), .val (.ref oADMIN), .val (.int (4 : Int32)), .val (.int (0 : Int32))]) rfl k) ?_
            show own_Fin _ _ _ _ _ _ _ (T13.setTop (mkF m 90 #[.val (.int va), .val (.int vb), .val (.int ((va &&& (2147483647 : Int32)) % (5 : Int32))), .val (.ref oADMIN), .val (.int (4 : Int32)), .val (.int (0 : Int32))] []))
            refine own_Fin.go (fun t k => XS.aloadN X13.here hx rfl (hb hby at_90) rfl rfl k) ?_
            show own_Fin _ _ _ _ _ _ _ (T13.setTop (mkF m 91 #[.val (.int va), .val (.int vb), .val (.int ((va &&& (2147483647 : Int32)) % (5 : Int32))), .val (.ref oADMIN), .val (.int (4 : Int32)), .val (.int (0 : Int32))] [(.ref oADMIN)]))
            refine own_Fin.go (fun t k => XS.iloadN X13.here hx rfl (hb hby at_91) rfl k) ?_
            show own_Fin _ _ _ _ _ _ _ (T13.setTop (mkF m 92 #[.val (.int va), .val (.int vb), .val (.int ((va &&& (2147483647 : Int32)) % (5 : Int32))), .val (.ref oADMIN), .val (.int (4 : Int32)), .val (.int (0 : Int32))] [(.int vb), (.ref oADMIN)]))
            obtain ⟨cq15, kq15, q15a, q15b, q15c⟩ := isOf hZ e13 E_oADMIN
            obtain ⟨_, _, ⟨T15, L15, k15, n15⟩, -, X15, ⟨Lc15, hQ15, l15, y15, z15⟩, st15⟩ := X13.virtualBack hx (y := (⟨"com/example/stentor/stentor/protocol/Permission", "grantedBy", "(I)Z"⟩ : MethodName)) (z := (⟨"com/example/stentor/stentor/protocol/Permission", "grantedBy", "(I)Z"⟩ : MethodName)) hown (mvT hZ (hw _ (List.mem_of_getElem? (i := 4) rfl))) (mvT hZ (hw _ (List.mem_of_getElem? (i := 5) rfl))) (notFace_of_selects (args := #[]) (mvT hZ (hw _ (List.mem_of_getElem? (i := 7) rfl)))) (mvT hZ (hw _ (List.mem_of_getElem? (i := 7) rfl))) (mvT hZ (hw _ (List.mem_of_getElem? (i := 6) rfl))) (by decide) (backOf (W := 0) (own_rm_gr l Z a0 hw [] oADMIN vb (16 : Int32) h0 n0 Z0 F_oADMIN_bit) hZ (hw _ (List.mem_of_getElem? (i := 8) rfl)) (hw _ (List.mem_of_getElem? (i := 2) rfl)) (by decide) (by decide)) q15a q15c (g := (mkF m 92 #[.val (.int va), .val (.int vb), .val (.int ((va &&& (2147483647 : Int32)) % (5 : Int32))), .val (.ref oADMIN), .val (.int (4 : Int32)), .val (.int (0 : Int32))] [(.int vb), (.ref oADMIN)])) rfl (by rw [hml]; rfl) (Steps.refl _) (argsL := [(.int vb)]) (rest := []) (lenOf own_pd0 rfl) rfl (by show 2 * 0 + _ ≤ _; exact Nat.le_of_eq rfl) (hb hby at_92) (fun _ _ => ⟨rfl, e13, (by decide : 0 + 0 ≤ _), (by decide : 0 + 0 ≤ _)⟩)
            dsimp only [Pt.U, Pt.locs, Pt.cells, Pt.slots] at X15 l15 y15 z15 st15 hQ15
            subst l15 y15 z15
            obtain ⟨rfl, N15q, e15⟩ := hQ15
            refine own_Fin.go (fun t k => st15.trans k) ?_
            have N15 := Fr.app N0 N15q
            show own_Fin _ _ _ _ _ _ _ (T15.setTop (mkF m 95 #[.val (.int va), .val (.int vb), .val (.int ((va &&& (2147483647 : Int32)) % (5 : Int32))), .val (.ref oADMIN), .val (.int (4 : Int32)), .val (.int (0 : Int32))] [(.int (own_gr vb (16 : Int32)))]))
            refine own_Fin.go (fun t k => XS.iload X15.here hx rfl (hb hby at_95) rfl k) ?_
            show own_Fin _ _ _ _ _ _ _ (T15.setTop (mkF m 97 #[.val (.int va), .val (.int vb), .val (.int ((va &&& (2147483647 : Int32)) % (5 : Int32))), .val (.ref oADMIN), .val (.int (4 : Int32)), .val (.int (0 : Int32))] [(.int (0 : Int32)), (.int (own_gr vb (16 : Int32)))]))
            have hc97 : (own_gr vb (16 : Int32)) = (0 : Int32) := own_f vb (4 : Int32) (16 : Int32) 4 (by decide) (by decide) (by decide) hc80
            refine own_Fin.go (fun t k => XS.icmpNo X15.here hx rfl (hb hby at_97) rfl (Jvm.Free.XT.ii_ne_f hc97) k) ?_
            show own_Fin _ _ _ _ _ _ _ (T15.setTop (mkF m 100 #[.val (.int va), .val (.int vb), .val (.int ((va &&& (2147483647 : Int32)) % (5 : Int32))), .val (.ref oADMIN), .val (.int (4 : Int32)), .val (.int (0 : Int32))] []))
            refine own_Fin.go (fun t k => XS.iconst X15.here hx rfl (hb hby at_100) k) ?_
            show own_Fin _ _ _ _ _ _ _ (T15.setTop (mkF m 101 #[.val (.int va), .val (.int vb), .val (.int ((va &&& (2147483647 : Int32)) % (5 : Int32))), .val (.ref oADMIN), .val (.int (4 : Int32)), .val (.int (0 : Int32))] [(.int (1 : Int32))]))
            refine own_Fin.go (fun t k => XS.goto X15.here hx rfl (pc0 := 101) (pc' := 105) rfl (hb hby at_101) (by decide) (by decide) k) ?_
            show own_Fin _ _ _ _ _ _ _ (T15.setTop (mkF m 105 #[.val (.int va), .val (.int vb), .val (.int ((va &&& (2147483647 : Int32)) % (5 : Int32))), .val (.ref oADMIN), .val (.int (4 : Int32)), .val (.int (0 : Int32))] [(.int (1 : Int32))]))
            refine own_retN X15 hx (t := .boolean) (w := (1 : Int32)) Bd.returns (by simp) (hb hby at_105) Bd.notSynchronized rfl (by decide) (by decide) ?_
            rw [e15]
            exact ⟨rfl, N15⟩
set_option maxRecDepth 65536 in
set_option maxHeartbeats 40000000 in
theorem comes_1 {Post : Tables → Env → Array Value → State → Outcome → State → Prop} (hpost : ∀ tb e args s v u, (limb_1_1.after args s (.returned v) u = true ∧ limb_1_2.after args s (.returned v) u = true ∧ True) → FrameEnd s (.returned v) u (Jvm.fieldLocs frame_1_writes args s ++ Jvm.arrayLocs frame_1_arrays args s ++ Jvm.staticLocs frame_1_statics s) 0 0 → Post tb e args s (.returned v) u) :
    ArmFor flags0 classFile x code maxLocals ret World_1 tables_1 room_1 Calls_1 rest_1 Pre_1 Post := by
  intro l hfl _ _ p e ha hc hk s m args below hf hA hF happ hP
  obtain ⟨hcalls, hrest, hpre⟩ := hP
  obtain ⟨-, -, -, hnamed, -, -, -, hat⟩ := (Spec.applies_iff hf).mp happ
  obtain ⟨hg, hn⟩ := and_e (Cond.before_iff.mp (show (Jvm.Cond.and given_1 narrow_1).before args s = true from hpre))
  obtain ⟨hg0, hr0⟩ := and_e hg
  obtain ⟨hg1, hr1⟩ := and_e hr0
  obtain ⟨w0, w1, rfl⟩ : ∃ w0 w1 : Value, args = #[w0, w1] := by
    have hs : args.size = 2 := by simpa [Cond.value, given_1] using hg0
    obtain ⟨L⟩ := args
    match L, hs with
    | [w0, w1], _ => exact ⟨w0, w1, rfl⟩
  have hw := fun d (hd : d ∈ tables_1) => atoms_spec (ws := Jvm.Cond.code x code maxLocals ret :: tables_1) hat d (List.mem_cons_of_mem _ hd)
  have hfit : Fit s := fun {y c} hc i hi => by
    obtain ⟨ha, rfl⟩ := Array.getElem?_eq_some_iff.mp hc
    have q := List.all_eq_true.mp ((Array.all_eq_true_iff_forall_mem.mp hF) _ (Array.getElem_mem ha)) i (List.mem_range.mpr hi)
    simpa [Array.getElem?_eq_getElem hi] using q
  obtain ⟨i0, ei0⟩ := is_v hg1
  obtain rfl : w0 = (.int i0) := Option.some.inj ei0
  obtain ⟨i1, ei1⟩ := is_v hr1
  obtain rfl : w1 = (.int i1) := Option.some.inj ei1
  obtain ⟨hn0, hm0⟩ := and_e hn
  obtain ⟨hn1, hm1⟩ := and_e hm0
  obtain ⟨hn2, hm2⟩ := and_e hm1
  obtain ⟨hn3, hm3⟩ := and_e hm2
  obtain ⟨hn4, hm4⟩ := and_e hm3
  obtain ⟨hn5, hm5⟩ := and_e hm4
  obtain ⟨hn6, hm6⟩ := and_e hm5
  obtain ⟨hn7, hm7⟩ := and_e hm6
  obtain ⟨hn8, hm8⟩ := and_e hm7
  obtain ⟨oCREATE, evCREATE⟩ := exa_v hn0
  have E_oCREATE := Exa.start evCREATE hn0
  have S_CREATE := Sta.start evCREATE (Or.inr ⟨(hw _ (List.mem_of_getElem? (i := 2) rfl)), (hw _ (List.mem_of_getElem? (i := 3) rfl))⟩)
  obtain ⟨oADMIN, evADMIN⟩ := exa_v hn2
  have E_oADMIN := Exa.start evADMIN hn2
  have S_ADMIN := Sta.start evADMIN (Or.inr ⟨(hw _ (List.mem_of_getElem? (i := 2) rfl)), (hw _ (List.mem_of_getElem? (i := 12) rfl))⟩)
  obtain ⟨oWRITE, evWRITE⟩ := exa_v hn4
  have E_oWRITE := Exa.start evWRITE hn4
  have S_WRITE := Sta.start evWRITE (Or.inr ⟨(hw _ (List.mem_of_getElem? (i := 2) rfl)), (hw _ (List.mem_of_getElem? (i := 14) rfl))⟩)
  obtain ⟨oDELETE, evDELETE⟩ := exa_v hn6
  have E_oDELETE := Exa.start evDELETE hn6
  have S_DELETE := Sta.start evDELETE (Or.inr ⟨(hw _ (List.mem_of_getElem? (i := 2) rfl)), (hw _ (List.mem_of_getElem? (i := 16) rfl))⟩)
  obtain ⟨oREAD, evREAD⟩ := exa_v hn8
  have E_oREAD := Exa.start evREAD hn8
  have S_READ := Sta.start evREAD (Or.inr ⟨(hw _ (List.mem_of_getElem? (i := 2) rfl)), (hw _ (List.mem_of_getElem? (i := 18) rfl))⟩)
  have F_oCREATE_bit := Fld.start (own_fld evCREATE (own_eqInt hn1))
  have F_oADMIN_bit := Fld.start (own_fld evADMIN (own_eqInt hn3))
  have F_oWRITE_bit := Fld.start (own_fld evWRITE (own_eqInt hn5))
  have F_oDELETE_bit := Fld.start (own_fld evDELETE (own_eqInt hn7))
  have F_oREAD_bit := Fld.start (own_fld evREAD (own_eqInt hm8))
  obtain ⟨n, o, h1, h2, h3, _, L, rfl, ⟨rfl, N⟩, hq⟩ := own_rm_law l s _ hw tables_1 i0 i1 oCREATE oADMIN oWRITE oDELETE oREAD s.heap s.heap.size (Nat.le_refl _) S_CREATE E_oCREATE S_ADMIN E_oADMIN S_WRITE E_oWRITE S_DELETE E_oDELETE S_READ E_oREAD F_oCREATE_bit F_oADMIN_bit F_oWRITE_bit F_oDELETE_bit F_oREAD_bit p e ha hc hk s m _ below hf ((Spec.applies_iff_loose hf).mp happ).1 ⟨rfl, State.Warmed39.refl s, rfl⟩ trivial
  refine ⟨n, _, h1, h2, h3, hpost _ _ _ _ _ _ ⟨Cond.after_iff.mpr rfl, Cond.after_iff.mpr (eq_i res_at (Term.int_eval (1)) rfl), trivial⟩ ⟨hq.1, hq.2.1, (hq.2.2.sift fun y hy => Or.inr (N y hy)).mono (by decide) (by decide)⟩⟩
theorem main_1_1 : Claimed_1_1 := comes_1 fun _ _ _ _ _ _ h hF => ⟨h.1, hF⟩
theorem main_1_2 : Claimed_1_2 := comes_1 fun _ _ _ _ _ _ h hF => ⟨h.2.1, hF⟩
end Jvm.Pilot.@@N@@
namespace Jvm.Pilot.@@N@@
open Jvm Jvm.ClassFile Sem Op Lib Jvm.Free Jvm.Stand Jvm.Pilot.@@N@@.Jvm.D
/-! MADE BY PROGRAM (witnessworld.py) out of the Statement's table words and the real class files: 12 classes; the members and pool entries that the words name. The judged class is class 1, her method 1. -/
namespace start1
open Jvm.ClassFile
def u (s : String) : CpInfo := .utf8 (stringToUtf16 s)
/-- a pool by its gaps: so many unusable entries, then the entry; so many at the end -/
def gap : Nat → List CpInfo → List CpInfo
  | 0, r => r
  | n + 1, r => .unusable :: gap n r
def poolList (es : List (Nat × CpInfo)) (last : Nat) : List CpInfo := es.foldr (fun e r => gap e.1 (e.2 :: r)) (gap last [])
def pool (es : List (Nat × CpInfo)) (last : Nat) : Array CpInfo := ⟨poolList es last⟩
def fileOf (pool : Array CpInfo) (this : Nat) (attrs : Array Attribute := #[]) (ms : Array MethodInfo := #[]) (fl : Nat := 33) (sup : Nat := 0) (ifs : Array Nat := #[]) (fds : Array FieldInfo := #[]) : ClassFile where
  minorVersion := 0
  majorVersion := 65
  constantPool := pool
  accessFlags := fl
  thisClass := this
  superClass := sup
  interfaces := ifs
  fields := fds
  methods := ms
  attributes := attrs
def plain (name : String) (sup : Option ClassId) : Class where
  name := name
  kind := .ordinary
  loader := none
  accessFlags := 33
  super := sup
  interfaces := #[]
  cf := none
  fields := #[]
  methods := #[]
  instanceTypes := #[]
  staticTypes := #[]
  resolved := #[]
  callSites := []
  init := .initialized
  statics := none
  mirror := none

def pool0 : Array CpInfo := pool [(5, u "<init>"), (0, u "()V"), (1, .class_ 10), (1, u "java/lang/Object")] 113

def k0m0 : Method := { name := "<init>", desc := "()V", sig := { parameters := [], returnType := none }, accessFlags := 1, code := none }
/-- java/lang/Object -/
def k0 : Class := { plain "java/lang/Object" none with
  accessFlags := 33
  interfaces := #[]
  cf := some (fileOf pool0 8 #[] #[{ accessFlags := 1, nameIndex := 5, descriptorIndex := 6, attributes := #[] }] 33 0 #[] #[])
  fields := #[]
  methods := #[k0m0]
  instanceTypes := #[]
  staticTypes := #[]
  resolved := Array.replicate 124 none
  statics := none }

def pool1 : Array CpInfo := pool [(2, .class_ 4), (1, u "java/lang/Object"), (0, u "<init>"), (0, u "()V"), (0, .integer 2147483647), (0, .fieldref 9 10), (0, .class_ 11), (0, .nameAndType 12 13), (0, u "com/example/stentor/stentor/protocol/Permission"), (0, u "CREATE"), (0, u "Lcom/example/stentor/stentor/protocol/Permission;"), (0, .fieldref 9 15), (0, .nameAndType 16 13), (0, u "DELETE"), (0, .fieldref 9 18), (0, .nameAndType 19 13), (0, u "READ"), (0, .fieldref 9 21), (0, .nameAndType 22 13), (0, u "WRITE"), (0, .fieldref 9 24), (0, .nameAndType 25 13), (0, u "ADMIN"), (0, .methodref 9 27), (0, .nameAndType 28 29), (0, u "grantedBy"), (0, u "(I)Z"), (0, .class_ 31), (0, u "com/example/stentor/stentor/protocol/PermissionGrantedByPinLaw"), (2, u "law"), (0, u "(II)Z")] 3

def k1m0 : Method := { name := "<init>", desc := "()V", sig := { parameters := [], returnType := none }, accessFlags := 1, code := none }
def k1c1 : Code := { maxStack := 2, maxLocals := 6, code := code, exceptionTable := #[], attributes := #[] }
def k1m1 : Method := { name := "law", desc := "(II)Z", sig := { parameters := [.int, .int], returnType := some .boolean }, accessFlags := 9, code := some k1c1 }
/-- com/example/stentor/stentor/protocol/PermissionGrantedByPinLaw -/
def k1 : Class := { plain "com/example/stentor/stentor/protocol/PermissionGrantedByPinLaw" (some 0) with
  accessFlags := 49
  interfaces := #[]
  cf := some (fileOf pool1 30 #[] #[{ accessFlags := 1, nameIndex := 5, descriptorIndex := 6, attributes := #[] }, { accessFlags := 9, nameIndex := 34, descriptorIndex := 35, attributes := #[] }] 49 2 #[] #[])
  fields := #[]
  methods := #[k1m0, k1m1]
  instanceTypes := #[]
  staticTypes := #[]
  resolved := Array.replicate 39 none
  statics := none }

def pool2 : Array CpInfo := pool [(1, .class_ 2), (0, u "java/lang/constant/Constable"), (0, .class_ 4), (0, u "java/lang/Object")] 6

/-- java/lang/constant/Constable -/
def k2 : Class := { plain "java/lang/constant/Constable" (some 0) with
  accessFlags := 1537
  interfaces := #[]
  cf := some (fileOf pool2 1 #[] #[] 1537 3 #[] #[])
  fields := #[]
  methods := #[]
  instanceTypes := #[]
  staticTypes := #[]
  resolved := Array.replicate 11 none
  statics := none }

def pool3 : Array CpInfo := pool [(1, .class_ 2), (0, u "java/lang/Comparable"), (0, .class_ 4), (0, u "java/lang/Object")] 7

/-- java/lang/Comparable -/
def k3 : Class := { plain "java/lang/Comparable" (some 0) with
  accessFlags := 1537
  interfaces := #[]
  cf := some (fileOf pool3 1 #[] #[] 1537 3 #[] #[])
  fields := #[]
  methods := #[]
  instanceTypes := #[]
  staticTypes := #[]
  resolved := Array.replicate 12 none
  statics := none }

def pool4 : Array CpInfo := pool [(1, .class_ 2), (0, u "java/io/Serializable"), (0, .class_ 4), (0, u "java/lang/Object")] 2

/-- java/io/Serializable -/
def k4 : Class := { plain "java/io/Serializable" (some 0) with
  accessFlags := 1537
  interfaces := #[]
  cf := some (fileOf pool4 1 #[] #[] 1537 3 #[] #[])
  fields := #[]
  methods := #[]
  instanceTypes := #[]
  staticTypes := #[]
  resolved := Array.replicate 7 none
  statics := none }

def pool5 : Array CpInfo := pool [(2, .class_ 4), (1, u "java/lang/Enum"), (0, u "name"), (0, u "Ljava/lang/String;"), (2, u "ordinal"), (0, u "I"), (1, .class_ 14), (1, u "java/lang/Object"), (4, u "hash"), (86, .class_ 108), (1, u "java/lang/Enum$EnumDesc"), (2, .class_ 112), (0, u "java/lang/constant/Constable"), (0, .class_ 114), (0, u "java/lang/Comparable"), (0, .class_ 116), (0, u "java/io/Serializable")] 87

/-- java/lang/Enum -/
def k5 : Class := { plain "java/lang/Enum" (some 0) with
  accessFlags := 1057
  interfaces := #[2, 3, 4]
  cf := some (fileOf pool5 2 #[.nestMembers #[106]] #[] 1057 12 #[111, 113, 115] #[{ accessFlags := 18, nameIndex := 5, descriptorIndex := 6, attributes := #[] }, { accessFlags := 18, nameIndex := 9, descriptorIndex := 10, attributes := #[] }, { accessFlags := 2, nameIndex := 19, descriptorIndex := 10, attributes := #[] }])
  fields := #[{ name := "name", type := (.object "java/lang/String"), accessFlags := 18, slot := 0, constantValue := 0 }, { name := "ordinal", type := .int, accessFlags := 18, slot := 1, constantValue := 0 }, { name := "hash", type := .int, accessFlags := 2, slot := 2, constantValue := 0 }]
  methods := #[]
  instanceTypes := #[(.object "java/lang/String"), .int, .int]
  staticTypes := #[]
  resolved := Array.replicate 204 none
  statics := none }

def pool6 : Array CpInfo := pool [(1, .class_ 2), (0, u "com/example/stentor/stentor/protocol/Permission"), (2, u "CREATE"), (0, u "Lcom/example/stentor/stentor/protocol/Permission;"), (2, u "DELETE"), (2, u "READ"), (2, u "WRITE"), (2, u "ADMIN"), (2, u "$VALUES"), (0, u "[Lcom/example/stentor/stentor/protocol/Permission;"), (6, .class_ 31), (1, u "java/lang/Enum"), (6, .fieldref 1 39), (0, .nameAndType 40 41), (0, u "bit"), (0, u "I"), (2, u "letter"), (0, u "C"), (21, u "grantedBy"), (0, u "(I)Z")] 6

def k6c0 : Code := { maxStack := 2, maxLocals := 2, code := prog_46_method_6_code, exceptionTable := #[], attributes := #[] }
def k6m0 : Method := { name := "grantedBy", desc := "(I)Z", sig := { parameters := [.int], returnType := some .boolean }, accessFlags := 1, code := some k6c0 }
/-- com/example/stentor/stentor/protocol/Permission -/
def k6 : Class := { plain "com/example/stentor/stentor/protocol/Permission" (some 5) with
  accessFlags := 16433
  interfaces := #[]
  cf := some (fileOf pool6 1 #[] #[{ accessFlags := 1, nameIndex := 67, descriptorIndex := 68, attributes := #[] }] 16433 29 #[] #[{ accessFlags := 16409, nameIndex := 5, descriptorIndex := 6, attributes := #[] }, { accessFlags := 16409, nameIndex := 9, descriptorIndex := 6, attributes := #[] }, { accessFlags := 16409, nameIndex := 12, descriptorIndex := 6, attributes := #[] }, { accessFlags := 16409, nameIndex := 15, descriptorIndex := 6, attributes := #[] }, { accessFlags := 16409, nameIndex := 18, descriptorIndex := 6, attributes := #[] }, { accessFlags := 18, nameIndex := 40, descriptorIndex := 41, attributes := #[] }, { accessFlags := 18, nameIndex := 44, descriptorIndex := 45, attributes := #[] }, { accessFlags := 4122, nameIndex := 21, descriptorIndex := 22, attributes := #[] }])
  fields := #[{ name := "CREATE", type := (.object "com/example/stentor/stentor/protocol/Permission"), accessFlags := 16409, slot := 0, constantValue := 0 }, { name := "DELETE", type := (.object "com/example/stentor/stentor/protocol/Permission"), accessFlags := 16409, slot := 1, constantValue := 0 }, { name := "READ", type := (.object "com/example/stentor/stentor/protocol/Permission"), accessFlags := 16409, slot := 2, constantValue := 0 }, { name := "WRITE", type := (.object "com/example/stentor/stentor/protocol/Permission"), accessFlags := 16409, slot := 3, constantValue := 0 }, { name := "ADMIN", type := (.object "com/example/stentor/stentor/protocol/Permission"), accessFlags := 16409, slot := 4, constantValue := 0 }, { name := "bit", type := .int, accessFlags := 18, slot := 3, constantValue := 0 }, { name := "letter", type := .char, accessFlags := 18, slot := 4, constantValue := 0 }, { name := "$VALUES", type := (.array (.object "com/example/stentor/stentor/protocol/Permission")), accessFlags := 4122, slot := 5, constantValue := 0 }]
  methods := #[k6m0]
  instanceTypes := #[(.object "java/lang/String"), .int, .int, .int, .char]
  staticTypes := #[(.object "com/example/stentor/stentor/protocol/Permission"), (.object "com/example/stentor/stentor/protocol/Permission"), (.object "com/example/stentor/stentor/protocol/Permission"), (.object "com/example/stentor/stentor/protocol/Permission"), (.object "com/example/stentor/stentor/protocol/Permission"), (.array (.object "com/example/stentor/stentor/protocol/Permission"))]
  resolved := Array.replicate 75 none
  statics := some 0 }

def pool7 : Array CpInfo := pool [(1, u "java/lang/Cloneable"), (0, .class_ 1), (0, u "java/lang/Object"), (0, .class_ 3)] 3

/-- java/lang/Cloneable -/
def k7 : Class := { plain "java/lang/Cloneable" (some 0) with
  accessFlags := 1537
  interfaces := #[]
  cf := some (fileOf pool7 2 #[] #[] 1537 4 #[] #[])
  fields := #[]
  methods := #[]
  instanceTypes := #[]
  staticTypes := #[]
  resolved := Array.replicate 8 none
  statics := none }

/-- the primitive byte -/
def k8 : Class := { plain "byte" none with kind := .primitive 'B', accessFlags := 0x411 }
/-- [B -/
def k9 : Class := { plain "[B" (some 0) with kind := .array 8 .byte, interfaces := #[7, 4], accessFlags := 1041 }

/-- the primitive int -/
def k10 : Class := { plain "int" none with kind := .primitive 'I', accessFlags := 0x411 }
/-- [I -/
def k11 : Class := { plain "[I" (some 0) with kind := .array 10 .int, interfaces := #[7, 4], accessFlags := 1041 }

def heap : Heap := #[{ cls := 6, slots := #[.ref 1, .ref 2, .ref 3, .ref 4, .ref 5, .null], vm := .statics 6 },
  { cls := 6, slots := #[.null, .int 0, .int 0, .int 4, .int 99], vm := .none },
  { cls := 6, slots := #[.null, .int 1, .int 0, .int 8, .int 99], vm := .none },
  { cls := 6, slots := #[.null, .int 2, .int 0, .int 1, .int 99], vm := .none },
  { cls := 6, slots := #[.null, .int 3, .int 0, .int 2, .int 99], vm := .none },
  { cls := 6, slots := #[.null, .int 4, .int 0, .int 16, .int 99], vm := .none }]
def classes : Array Class := #[k0, k1, k2, k3, k4, k5, k6, k7, k8, k9, k10, k11]
def interned : List (Array UInt16 × Addr) := []
def slotsUsed : Nat := 31
def theMethod : MethodId := ⟨1, 1⟩
def args0 : Array Value := #[.int 5, .int 300]
def aboutOver (below : List Frame) : State where
  vm := { classes := classes, interned := interned.toArray }
  heap := heap
  slotsUsed := slotsUsed
  threads := #[{ frames := .invoking theMethod args0 :: below }]
def below0 : List Frame := [.native { method := ⟨0, 0⟩, args := #[] }]
def about1 : State := aboutOver below0
def p0 : Program := .bare "" "" ""
def e0 : Env := launch0.env 0 0 0
theorem w_frames : about1.frames = Frame.invoking theMethod args0 :: below0 := rfl
set_option maxRecDepth 65536 in
theorem w_args : argsFit about1.vm theMethod args0 = true := by decide +kernel
set_option maxRecDepth 65536 in
theorem w_heap : heapFits about1 = true := by decide +kernel
set_option maxRecDepth 65536 in
theorem w_runnable : about1.curStatus? = some .runnable := by decide +kernel
set_option maxRecDepth 65536 in
theorem w_alone : about1.alone = true := by decide +kernel
set_option maxRecDepth 65536 in
theorem w_named : about1.methodNamed? x = some theMethod := by decide +kernel
set_option maxRecDepth 65536 in
theorem w_hears : about1.hears theMethod below0 = true := by decide +kernel
set_option maxRecDepth 65536 in
theorem w_ripe : about1.ripe theMethod args0 below0 = true := by decide +kernel
theorem w_running : about1.status = .running := rfl
set_option maxRecDepth 65536 in
theorem w_room : about1.hasRoom e0.platform room_1 = true :=
  launch0.hasRoom_least _ room_1 (by decide +kernel) (by decide +kernel) (by decide +kernel) (by decide +kernel) (by decide +kernel) (by decide +kernel)
theorem allAtoms_all (ts : List Jvm.Cond) (a : Array Jvm.Value) (st : Jvm.State) : (allAtoms ts).before a st = ts.all (fun c => c.before a st) := by
  induction ts with
  | nil => rfl
  | cons c t ih =>
    show (Jvm.Cond.and c (allAtoms t)).before a st = _
    rw [Jvm.Cond.before_and, ih, List.all_cons]
def words1 : List Jvm.Cond := Jvm.Cond.code x code maxLocals ret :: tables_1
/-- a 'code' word, met by the world's own term for the bytes: nothing is compared byte by byte -/
theorem code_word {y : MethodName} {bytes : ByteArray} {mx : Nat} {rt : Option FieldType} {a : Array Value} {s : State} {m : MethodId} {meth : Method} {c : Code} (h1 : s.methodNamed? y = some m) (h2 : s.vm.method? m = some meth) (h3 : meth.code = some c) (h4 : c.code = bytes)
    (h5 : (c.maxLocals == mx && c.exceptionTable.isEmpty && decide (c.maxStack ≤ mostOperands) && decide (meth.sig.returnType = rt) && !meth.locks && decide (parseMethodDescriptor y.desc = some meth.sig)) = true) : (Jvm.Cond.code y bytes mx rt).before a s = true := by
  simp only [Bool.and_eq_true, beq_iff_eq, Bool.not_eq_true', decide_eq_true_eq] at h5
  obtain ⟨⟨⟨⟨⟨g1, g2⟩, g3⟩, g4⟩, g5⟩, g6⟩ := h5
  simp [Cond.before, Cond.holds, Cond.value, h1, h2, h3, h4, g1, g2, g3, g4, g5, g6]
def isCode : Jvm.Cond → Bool
  | .code _ _ _ _ => true
  | _ => false
theorem all_split {L : List Jvm.Cond} {P : Jvm.Cond → Bool} (h1 : L.all (fun c => isCode c || P c) = true) (h2 : ∀ c ∈ L.filter isCode, P c = true) : L.all P = true := by
  refine List.all_eq_true.mpr fun c hc => ?_
  have h := List.all_eq_true.mp h1 c hc
  rcases Bool.eq_false_or_eq_true (isCode c) with hi | hi
  · exact h2 c (List.mem_filter.mpr ⟨hc, hi⟩)
  · simpa [hi] using h
set_option maxRecDepth 65536 in
theorem w_c0 : (Jvm.Cond.code x code maxLocals ret).before args0 about1 = true := code_word (m := ⟨1, 1⟩) (meth := k1m1) (c := k1c1) (by decide +kernel) rfl rfl rfl (by decide +kernel)
set_option maxRecDepth 65536 in
theorem w_c1 : (Jvm.Cond.code ({ cls := "com/example/stentor/stentor/protocol/Permission", name := "grantedBy", desc := "(I)Z" } : Jvm.MethodName) prog_46_method_6_code (2 : Nat) (Option.some Jvm.ClassFile.FieldType.boolean)).before args0 about1 = true := code_word (m := ⟨6, 0⟩) (meth := k6m0) (c := k6c0) (by decide +kernel) rfl rfl rfl (by decide +kernel)
def codes1 : List Jvm.Cond := [Jvm.Cond.code x code maxLocals ret, Jvm.Cond.code ({ cls := "com/example/stentor/stentor/protocol/Permission", name := "grantedBy", desc := "(I)Z" } : Jvm.MethodName) prog_46_method_6_code (2 : Nat) (Option.some Jvm.ClassFile.FieldType.boolean)]
set_option maxRecDepth 65536 in
theorem codes_eq : words1.filter isCode = codes1 := rfl
theorem w_codes : ∀ c ∈ words1.filter isCode, c.before args0 about1 = true := by
  rw [codes_eq]
  intro c hc
  simp only [codes1, List.mem_cons, List.not_mem_nil, or_false] at hc
  rcases hc with rfl | rfl
  · exact w_c0
  · exact w_c1
set_option maxRecDepth 65536 in
theorem w_t1 : words1.all (fun c => isCode c || c.before args0 about1) = true := by decide +kernel
theorem w_tables : (allAtoms (Jvm.Cond.code x code maxLocals ret :: tables_1)).before args0 about1 = true := by
  rw [allAtoms_all]
  show words1.all (fun c => c.before args0 about1) = true
  refine all_split ?_ w_codes
  rw [w_t1]
set_option maxRecDepth 65536 in
theorem w_case : (Jvm.Cond.and given_1 narrow_1).before args0 about1 = true := by decide +kernel
theorem w_applies : (headSpec (Jvm.Cond.code x code maxLocals ret :: tables_1) room_1).applies x e0.platform about1 = true :=
  (Spec.applies_iff w_frames).mpr ⟨w_running, w_runnable, w_alone, w_named, w_hears, w_ripe, w_room, w_tables⟩
theorem atStart : AtStart classFile x code maxLocals ret World_1 tables_1 room_1 Calls_1 rest_1 Pre_1 launch0 p0 e0 about1 theMethod args0 below0 :=
  ⟨lists_1, trivial, launch0.admits_env _ _ _, launch0.least_env, fairChoices_fair.cas, fairChoices_fair.clock, w_frames, w_args, w_heap, w_applies, trivial, trivial, w_case⟩
end start1
theorem witness_1 : WitnessClaimed_1 := ⟨start1.p0, start1.e0, start1.about1, start1.theMethod, start1.args0, start1.below0, start1.atStart⟩
end Jvm.Pilot.@@N@@
