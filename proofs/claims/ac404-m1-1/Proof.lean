import JvmDerived
import JvmDerived.Pilot.@@N@@Statement
import JvmDerived.Pilot.@@N@@Code
set_option linter.unusedVariables false
set_option linter.unusedSimpArgs false
namespace Jvm.RoadKit
open Sem ClassFile Op Lib Jvm.Stand Jvm.Free Jvm.LawKit
section New
variable {p : Program} {l : Launch} {e : Env} {R : Room} {s : State} {m : MethodId} {args : Array Value} {below : List Frame} {meth : Method} {c : Code} {T : State} {locs : List Loc} {cells slots : Nat}
theorem retI (X : Stand p l e R s m args below meth c T locs cells slots) (hx : p.tables.exec = Jvm.exec) {pc : Nat} {Ls : Array Slot} {z : Int32} {rest : List Value} (hret : meth.sig.returnType = some .int) (hd : decode c.code pc = .ok (.ireturn, 1)) {fs : List Frame}
    (hl : ∀ (f : JFrame) (acts : List Action), f.method = m → f.locked = none → f.entered = [] → (doReturn e (T.setTop f) acts (some (.int z))).1 = T.setFrames fs) : Steps p.tables e below (T.setTop (mkF m pc Ls (.int z :: rest))) (T.setFrames fs) := by
  have hm' : T.vm.method? m = some meth := X.method'
  have hn : narrow .int (.int z) = .int z := rfl
  show Steps p.tables e below (T.setTop { method := m, pc := pc, locals := Ls, stack := _ :: rest, locked := none }) _
  jvm_step X.here [X.here.top, hx, hd, hm', hret, hn]
  first | (intro acts; rw [hl _ acts rfl rfl rfl]) | rw [hl _ _ rfl rfl rfl]
  exact Steps.refl _
end New
end Jvm.RoadKit
namespace Jvm.Pilot.@@N@@
open Jvm Jvm.ClassFile Sem Op Lib Jvm.Free Jvm.Stand Jvm.LawKit Jvm.RoadKit Bundle Jvm.Pilot.@@N@@.Jvm.D
/-! The walk in a goal-driven form: own_Fin says that the run from A comes to an end at which Q holds, within the frame. -/
def own_Fin (p : Program) (e : Env) (below : List Frame) (s : State) (Q : Option Value → Heap → List Loc → Prop) (kc ks : Nat) (A : State) : Prop :=
  ∃ s₂ o, Steps p.tables e below A s₂ ∧ s₂.status = .running ∧ Ended s₂ below o ∧ ∃ v L, o = .returned v ∧ Q v s₂.heap L ∧ FrameEnd s o s₂ L kc ks
theorem own_Fin.go {p : Program} {e : Env} {below : List Frame} {s : State} {Q : Option Value → Heap → List Loc → Prop} {kc ks : Nat} {A B : State} (st : ∀ t, Steps p.tables e below B t → Steps p.tables e below A t) (h : own_Fin p e below s Q kc ks B) : own_Fin p e below s Q kc ks A := by
  obtain ⟨s₂, o, h1, h2⟩ := h
  exact ⟨s₂, o, st _ h1, h2⟩
section OwnRet
variable {p : Program} {l : Launch} {e : Env} {R : Room} {s : State} {m : MethodId} {args : Array Value} {below : List Frame} {meth : Method} {c : Code} {T : State} {locs : List Loc} {cells slots : Nat} {Q : Option Value → Heap → List Loc → Prop} {kc ks : Nat}
theorem own_end (X : Stand p l e R s m args below meth c T locs cells slots) {v : Option Value} (hv : meth.sig.returnType = none → v = none) (hlocks : meth.locks = false) (hc : cells ≤ kc) (hs : slots ≤ ks) {A : State}
    (h : ∀ fs : List Frame, (∀ (f : JFrame) (acts : List Action), f.method = m → f.locked = none → f.entered = [] → (doReturn e (T.setTop f) acts v).1 = T.setFrames fs) → Steps p.tables e below A (T.setFrames fs)) (hQ : Q v T.heap locs) : own_Fin p e below s Q kc ks A := by
  obtain ⟨fs, hr, hrun, hended, hW, hsame⟩ := X.leave (v := v) hv hlocks
  exact ⟨_, _, h fs hr, hrun, hended, _, _, rfl, hQ, ⟨_, rfl⟩, hW, hsame.mono hc hs⟩
theorem own_retN (X : Stand p l e R s m args below meth c T locs cells slots) (hx : p.tables.exec = Jvm.exec) {pc : Nat} {Ls : Array Slot} {z w : Int32} {t : FieldType} {rest : List Value} (hret : meth.sig.returnType = some t) (ht : t = .boolean ∨ t = .byte ∨ t = .char ∨ t = .short)
    (hd : decode c.code pc = .ok (.ireturn, 1)) (hlocks : meth.locks = false) (hw : nar t z = w) (hc : cells ≤ kc) (hs : slots ≤ ks) (hQ : Q (some (.int w)) T.heap locs) : own_Fin p e below s Q kc ks (T.setTop (mkF m pc Ls (.int z :: rest))) :=
  own_end X (v := some (.int w)) (fun h => by rw [hret] at h; cases h) hlocks hc hs (fun fs hr => retN X hx hret ht hd (by rw [hw]; exact hr)) hQ
theorem own_retI (X : Stand p l e R s m args below meth c T locs cells slots) (hx : p.tables.exec = Jvm.exec) {pc : Nat} {Ls : Array Slot} {z : Int32} {rest : List Value} (hret : meth.sig.returnType = some .int)
    (hd : decode c.code pc = .ok (.ireturn, 1)) (hlocks : meth.locks = false) (hc : cells ≤ kc) (hs : slots ≤ ks) (hQ : Q (some (.int z)) T.heap locs) : own_Fin p e below s Q kc ks (T.setTop (mkF m pc Ls (.int z :: rest))) :=
  own_end X (v := some (.int z)) (fun h => by rw [hret] at h; cases h) hlocks hc hs (fun fs hr => retI X hx hret hd hr) hQ
theorem own_retJ (X : Stand p l e R s m args below meth c T locs cells slots) (hx : p.tables.exec = Jvm.exec) {pc : Nat} {Ls : Array Slot} {z : Int64} (hret : meth.sig.returnType = some .long)
    (hd : decode c.code pc = .ok (.lreturn, 1)) (hlocks : meth.locks = false) (hc : cells ≤ kc) (hs : slots ≤ ks) (hQ : Q (some (.long z)) T.heap locs) : own_Fin p e below s Q kc ks (T.setTop (mkF m pc Ls [.long z])) :=
  own_end X (v := some (.long z)) (fun h => by rw [hret] at h; cases h) hlocks hc hs (fun fs hr => X.lreturnOut hx hret hd hr) hQ
theorem own_retA (X : Stand p l e R s m args below meth c T locs cells slots) (hx : p.tables.exec = Jvm.exec) {pc : Nat} {Ls : Array Slot} {a : Addr} {t : FieldType} {rest : List Value} (hret : meth.sig.returnType = some t) (ht : t.isReference = true)
    (hd : decode c.code pc = .ok (.areturn, 1)) (hlocks : meth.locks = false) (hc : cells ≤ kc) (hs : slots ≤ ks) (hQ : Q (some (.ref a)) T.heap locs) : own_Fin p e below s Q kc ks (T.setTop (mkF m pc Ls (.ref a :: rest))) :=
  own_end X (v := some (.ref a)) (fun h => by rw [hret] at h; cases h) hlocks hc hs (fun fs hr => retOut X hx hret (by cases t <;> first | rfl | (simp [FieldType.isReference] at ht)) (Or.inr (Or.inr (Or.inr (Or.inr ⟨rfl, ht, rfl⟩)))) hd hr) hQ
theorem own_ret0 (X : Stand p l e R s m args below meth c T locs cells slots) (hx : p.tables.exec = Jvm.exec) {pc : Nat} {Ls : Array Slot} (hret : meth.sig.returnType = none)
    (hd : decode c.code pc = .ok (.return_, 1)) (hlocks : meth.locks = false) (hc : cells ≤ kc) (hs : slots ≤ ks) (hQ : Q none T.heap locs) : own_Fin p e below s Q kc ks (T.setTop (mkF m pc Ls [])) :=
  own_end X (v := none) (fun _ => rfl) hlocks hc hs (fun fs hr => X.returnOut hx hret hd hr) hQ
end OwnRet
theorem own_selp {s : State} {args args' : Array Value} {C : String} {y w : MethodName} (hw : (Jvm.Cond.selects C w w).before args s = true) (hcls : w.cls = y.cls) (hpriv : s.PrivateAt y) (hinst : (Jvm.Cond.instanceMethod y).before args s = true) (hy : y.cls ≠ "java/lang/invoke/MethodHandle" ∧ y.cls ≠ "java/lang/invoke/VarHandle") : (Jvm.Cond.selects y.cls y y).before args' s = true := by
  obtain ⟨c2, r2, m2, -, -, q3, -, kP, hkP, hkPi⟩ := Cond.selects_spec hw
  exact selects_self_of_private (by rw [← hcls]; exact findClass_of_methodNamed q3) hkP hkPi hpriv hinst hy
def own_us (x : Int64) (k : Int32) : Int64 := ((x.toUInt64 >>> (k &&& 0x3f).toInt64.toUInt64).toInt64)
def own_m1 (x : Int64) : Int64 := (x ^^^ own_us x 30) * (-4658895280553007687)
def own_m2 (x : Int64) : Int64 := (x ^^^ own_us x 27) * (-7723592293110705685)
def own_m3 (x : Int64) : Int64 := x ^^^ own_us x 31
def own_mix (x : Int64) : Int64 := own_m3 (own_m2 (own_m1 x))
def own_nt (a x : Int64) : Int64 := x * (2 - a * x)
def own_inv (a : Int64) : Int64 := own_nt a (own_nt a (own_nt a (own_nt a (own_nt a a))))
def own_u3 (z : Int64) : Int64 := (z ^^^ own_us z 31) ^^^ own_us z 62
def own_u2 (z : Int64) : Int64 := (z ^^^ own_us z 27) ^^^ own_us z 54
def own_u1 (z : Int64) : Int64 := (z ^^^ own_us z 30) ^^^ own_us z 60
def own_unmix (z : Int64) : Int64 := own_u1 (own_u2 (own_u3 z * own_inv (-7723592293110705685)) * own_inv (-4658895280553007687))
theorem own_us_bv (x : Int64) (k : Int32) (n : Nat) (hk : (k &&& 0x3f).toInt64.toUInt64.toBitVec.toNat % 64 = n) : (own_us x k).toBitVec = x.toBitVec >>> n := by
  subst hk
  show x.toUInt64.toBitVec >>> (((k &&& 0x3f).toInt64.toUInt64).toBitVec % 64) = _
  rw [BitVec.ushiftRight_eq', BitVec.toNat_umod]
  rfl
theorem own_xs (x : BitVec 64) (k : Nat) (hk : 64 ≤ 3 * k) : ((x ^^^ (x >>> k)) ^^^ ((x ^^^ (x >>> k)) >>> k)) ^^^ ((x ^^^ (x >>> k)) >>> (2 * k)) = x := by
  apply BitVec.eq_of_getLsbD_eq
  intro i hi
  simp only [BitVec.getLsbD_xor, BitVec.getLsbD_ushiftRight]
  have h3 : x.getLsbD (k + (2 * k + i)) = false := BitVec.getLsbD_of_ge _ _ (by omega)
  have e2 : k + (k + i) = 2 * k + i := by omega
  rw [h3, e2]
  cases x.getLsbD i <;> cases x.getLsbD (k + i) <;> cases x.getLsbD (2 * k + i) <;> rfl
theorem own_inv1 : (-4658895280553007687 : Int64) * own_inv (-4658895280553007687) = 1 := by decide +kernel
theorem own_inv2 : (-7723592293110705685 : Int64) * own_inv (-7723592293110705685) = 1 := by decide +kernel
theorem own_x3 (x : Int64) : own_u3 (own_m3 x) = x := by
  apply Int64.toBitVec_inj.mp
  simp only [own_u3, own_m3, Int64.toBitVec_xor]
  rw [own_us_bv _ 31 31 (by decide +kernel), own_us_bv _ 62 62 (by decide +kernel)]
  simp only [Int64.toBitVec_xor]
  rw [own_us_bv _ 31 31 (by decide +kernel)]
  exact own_xs _ 31 (by decide)
theorem own_x2 (x : Int64) : own_u2 (x ^^^ own_us x 27) = x := by
  apply Int64.toBitVec_inj.mp
  simp only [own_u2, Int64.toBitVec_xor]
  rw [own_us_bv _ 27 27 (by decide +kernel), own_us_bv _ 54 54 (by decide +kernel)]
  simp only [Int64.toBitVec_xor]
  rw [own_us_bv _ 27 27 (by decide +kernel)]
  exact own_xs _ 27 (by decide)
theorem own_x1 (x : Int64) : own_u1 (x ^^^ own_us x 30) = x := by
  apply Int64.toBitVec_inj.mp
  simp only [own_u1, Int64.toBitVec_xor]
  rw [own_us_bv _ 30 30 (by decide +kernel), own_us_bv _ 60 60 (by decide +kernel)]
  simp only [Int64.toBitVec_xor]
  rw [own_us_bv _ 30 30 (by decide +kernel)]
  exact own_xs _ 30 (by decide)
theorem own_plain (x : Int64) : own_unmix (own_mix x) = x := by
  unfold own_unmix own_mix
  rw [own_x3]
  unfold own_m2
  rw [Int64.mul_assoc, own_inv2, Int64.mul_one, own_x2]
  unfold own_m1
  rw [Int64.mul_assoc, own_inv1, Int64.mul_one, own_x1]
theorem own_two (x : Int64) : (x + (-7046029254386353131)) + (-7046029254386353131) = x + 2 * (-7046029254386353131) := by
  rw [Int64.add_assoc]; rfl
theorem own_dini_0 : decode prog_17_method_1_code 0 = .ok (.aload_n 0, 1) := by decide +kernel
theorem own_dini_1 : decode prog_17_method_1_code 1 = .ok (.invokespecial 1, 3) := by decide +kernel
theorem own_dini_4 : decode prog_17_method_1_code 4 = .ok (.aload_n 0, 1) := by decide +kernel
theorem own_dini_5 : decode prog_17_method_1_code 5 = .ok (.lload_n 1, 1) := by decide +kernel
theorem own_dini_6 : decode prog_17_method_1_code 6 = .ok (.putfield 7, 3) := by decide +kernel
theorem own_dini_9 : decode prog_17_method_1_code 9 = .ok (.return_, 1) := by decide +kernel
theorem own_pn0 : plainName "com/example/latebound/latebound/analysis/simulation/Draws" = true := by first | (simp [plainName, overriddenIn]; done) | decide +kernel
theorem own_ef_ini (m : MethodId) (oa : Addr) (va : Int64) : entryFrame m #[(.ref oa), (.long va)] 3 = mkF m 0 #[.val (.ref oa), .val (.long va), .second] [] := by first | (simp [entryFrame, mkF, argsToLocals, Value.category]; done) | rfl
def own_Q_ini (Z : State) (oa : Addr) (va : Int64) (h0 : Heap) (n0 : Nat) (v : Option Value) (h : Heap) (L : List Loc) : Prop := v = none ∧ Fr n0 L ∧ Keep h0 h [oa] ∧ Exa Z h oa "com/example/latebound/latebound/analysis/simulation/Draws" ∧ Fld Z h oa "com/example/latebound/latebound/analysis/simulation/Draws" "state" "J" (.long va)
set_option maxRecDepth 65536 in
set_option maxHeartbeats 40000000 in
theorem own_rm_ini (l : Launch) (Z : State) (a0 : Array Value) (hw : ∀ d ∈ tables_1, d.before a0 Z = true) (ws : List Jvm.Cond) (oa : Addr) (va : Int64) (h0 : Heap) (n0 : Nat) (Z0 : n0 ≤ h0.size) (E_oa : Exa Z h0 oa "com/example/latebound/latebound/analysis/simulation/Draws") (F_oa_state : Fld Z h0 oa "com/example/latebound/latebound/analysis/simulation/Draws" "state" "J" (.long (0 : Int64))) (g_oa : n0 ≤ oa) :
    MetFree l (⟨"com/example/latebound/latebound/analysis/simulation/Draws", "<init>", "(J)V"⟩ : MethodName) (head1 (Jvm.Cond.code (⟨"com/example/latebound/latebound/analysis/simulation/Draws", "<init>", "(J)V"⟩ : MethodName) prog_17_method_1_code 3 none :: ws) ({ frames := 1, cells := 0, slots := 0, locals := 12 } : Room)) (fun a U => a = #[(.ref oa), (.long va)] ∧ Z.Warmed39 U.vm ∧ U.heap = h0) (fun _ _ _ _ _ => True) (fun _ U o U' => ∃ v L, o = .returned v ∧ own_Q_ini Z oa va h0 n0 v U'.heap L ∧ FrameEnd U o U' L ({ frames := 1, cells := 0, slots := 0, locals := 12 } : Room).cells ({ frames := 1, cells := 0, slots := 0, locals := 12 } : Room).slots) := by
  refine MetFree.of_bodySF (plainFor_of_name own_pn0) hisR ?_
  intro p e s m args below meth c s₁ Bd hml0 hP hK
  obtain ⟨rfl, hZ, hh⟩ := hP
  have hx := Bd.exec
  have hby := Bd.bytes
  have hml : c.maxLocals = 3 := hml0
  have hown : s.vm.findClass "com/example/latebound/latebound/analysis/simulation/Draws" = some m.cls := findClass_of_methodNamed Bd.named
  have hnm := (name_of_methodNamed Bd.named Bd.method).1
  have X0 : Stand p l e ({ frames := 1, cells := 0, slots := 0, locals := 12 } : Room) s m #[(.ref oa), (.long va)] below meth c s₁ [] 0 0 := Stand.of_body Bd
  have e0 : s₁.heap = h0 := by rw [← hh, Bd.state]; rfl
  have N0 := Fr.nil n0
  have K0 := Keep.refl h0 [oa]
  show own_Fin p e below s (own_Q_ini Z oa va h0 n0) ({ frames := 1, cells := 0, slots := 0, locals := 12 } : Room).cells ({ frames := 1, cells := 0, slots := 0, locals := 12 } : Room).slots (s₁.setTop (entryFrame m #[(.ref oa), (.long va)] 3))
  refine own_Fin.go (fun t k => castTop (own_ef_ini m oa va) k) ?_
  refine own_Fin.go (fun t k => XS.aloadN X0.here hx rfl (hb hby own_dini_0) rfl rfl k) ?_
  show own_Fin _ _ _ _ _ _ _ (s₁.setTop (mkF m 1 #[.val (.ref oa), .val (.long va), .second] [(.ref oa)]))
  obtain ⟨T1, X1, e1, st1⟩ := initO X0 hx hZ hown (hw _ (List.mem_of_getElem? (i := 7) rfl)) (hw _ (List.mem_of_getElem? (i := 8) rfl)) (hw _ (List.mem_of_getElem? (i := 9) rfl)) e0 (g := (mkF m 1 #[.val (.ref oa), .val (.long va), .second] [(.ref oa)])) rfl (by rw [hml]; rfl) rfl (hb hby own_dini_1) (by decide) (W := 0) (by show 2 * 0 + _ ≤ _; exact Nat.le_of_eq rfl) (by decide)
  refine own_Fin.go st1 ?_
  show own_Fin _ _ _ _ _ _ _ (T1.setTop (mkF m 4 #[.val (.ref oa), .val (.long va), .second] []))
  refine own_Fin.go (fun t k => XS.aloadN X1.here hx rfl (hb hby own_dini_4) rfl rfl k) ?_
  show own_Fin _ _ _ _ _ _ _ (T1.setTop (mkF m 5 #[.val (.ref oa), .val (.long va), .second] [(.ref oa)]))
  refine own_Fin.go (fun t k => XS.lloadN X1.here hx rfl (hb hby own_dini_5) rfl k) ?_
  show own_Fin _ _ _ _ _ _ _ (T1.setTop (mkF m 6 #[.val (.ref oa), .val (.long va), .second] [(.long va), (.ref oa)]))
  obtain ⟨T2, h2, X2, e2, W2, st2⟩ := putF X1 hx hZ hown (host := "") (Or.inl (hw _ (List.mem_of_getElem? (i := 10) rfl))) Via.refl e1 F_oa_state E_oa (Or.inl (hw _ (List.mem_of_getElem? (i := 11) rfl))) (hw _ (List.mem_of_getElem? (i := 2) rfl)) (ty := .long) (by decide) rfl rfl (g := (mkF m 6 #[.val (.ref oa), .val (.long va), .second] [(.long va), (.ref oa)])) rfl rfl (hb hby own_dini_6)
  refine own_Fin.go st2 ?_
  have F_oa_state_2 := Fld.same W2 F_oa_state
  have E_oa_2 := Exa.wr W2 E_oa
  have Z2 := Nat.le_trans Z0 (Keep.of_wr W2).1
  have K2 := K0.wr W2 (Or.inl (List.mem_of_getElem? (i := 0) rfl))
  have N2 := Fr.snoc X2 N0 g_oa
  show own_Fin _ _ _ _ _ _ _ (T2.setTop (mkF m 9 #[.val (.ref oa), .val (.long va), .second] []))
  refine own_ret0 X2 hx Bd.returns (hb hby own_dini_9) Bd.notSynchronized (by decide) (by decide) ?_
  rw [e2]
  exact ⟨rfl, N2, K2, E_oa_2, F_oa_state_2⟩
theorem own_dnxt_0 : decode prog_17_method_3_code 0 = .ok (.aload_n 0, 1) := by decide +kernel
theorem own_dnxt_1 : decode prog_17_method_3_code 1 = .ok (.dup, 1) := by decide +kernel
theorem own_dnxt_2 : decode prog_17_method_3_code 2 = .ok (.getfield 7, 3) := by decide +kernel
theorem own_dnxt_5 : decode prog_17_method_3_code 5 = .ok (.ldc2_w 13, 3) := by decide +kernel
theorem own_dnxt_8 : decode prog_17_method_3_code 8 = .ok (.ladd, 1) := by decide +kernel
theorem own_dnxt_9 : decode prog_17_method_3_code 9 = .ok (.putfield 7, 3) := by decide +kernel
theorem own_dnxt_12 : decode prog_17_method_3_code 12 = .ok (.aload_n 0, 1) := by decide +kernel
theorem own_dnxt_13 : decode prog_17_method_3_code 13 = .ok (.getfield 7, 3) := by decide +kernel
theorem own_dnxt_16 : decode prog_17_method_3_code 16 = .ok (.aload_n 0, 1) := by decide +kernel
theorem own_dnxt_17 : decode prog_17_method_3_code 17 = .ok (.getfield 7, 3) := by decide +kernel
theorem own_dnxt_20 : decode prog_17_method_3_code 20 = .ok (.bipush 30, 2) := by decide +kernel
theorem own_dnxt_22 : decode prog_17_method_3_code 22 = .ok (.lushr, 1) := by decide +kernel
theorem own_dnxt_23 : decode prog_17_method_3_code 23 = .ok (.lxor, 1) := by decide +kernel
theorem own_dnxt_24 : decode prog_17_method_3_code 24 = .ok (.ldc2_w 18, 3) := by decide +kernel
theorem own_dnxt_27 : decode prog_17_method_3_code 27 = .ok (.lmul, 1) := by decide +kernel
theorem own_dnxt_28 : decode prog_17_method_3_code 28 = .ok (.lstore_n 1, 1) := by decide +kernel
theorem own_dnxt_29 : decode prog_17_method_3_code 29 = .ok (.lload_n 1, 1) := by decide +kernel
theorem own_dnxt_30 : decode prog_17_method_3_code 30 = .ok (.lload_n 1, 1) := by decide +kernel
theorem own_dnxt_31 : decode prog_17_method_3_code 31 = .ok (.bipush 27, 2) := by decide +kernel
theorem own_dnxt_33 : decode prog_17_method_3_code 33 = .ok (.lushr, 1) := by decide +kernel
theorem own_dnxt_34 : decode prog_17_method_3_code 34 = .ok (.lxor, 1) := by decide +kernel
theorem own_dnxt_35 : decode prog_17_method_3_code 35 = .ok (.ldc2_w 20, 3) := by decide +kernel
theorem own_dnxt_38 : decode prog_17_method_3_code 38 = .ok (.lmul, 1) := by decide +kernel
theorem own_dnxt_39 : decode prog_17_method_3_code 39 = .ok (.lstore_n 1, 1) := by decide +kernel
theorem own_dnxt_40 : decode prog_17_method_3_code 40 = .ok (.lload_n 1, 1) := by decide +kernel
theorem own_dnxt_41 : decode prog_17_method_3_code 41 = .ok (.lload_n 1, 1) := by decide +kernel
theorem own_dnxt_42 : decode prog_17_method_3_code 42 = .ok (.bipush 31, 2) := by decide +kernel
theorem own_dnxt_44 : decode prog_17_method_3_code 44 = .ok (.lushr, 1) := by decide +kernel
theorem own_dnxt_45 : decode prog_17_method_3_code 45 = .ok (.lxor, 1) := by decide +kernel
theorem own_dnxt_46 : decode prog_17_method_3_code 46 = .ok (.lreturn, 1) := by decide +kernel
theorem own_ef_nxt (m : MethodId) (oa : Addr) : entryFrame m #[(.ref oa)] 3 = mkF m 0 #[.val (.ref oa), .unset, .unset] [] := by first | (simp [entryFrame, mkF, argsToLocals, Value.category]; done) | rfl
def own_Q_nxt (Z : State) (oa : Addr) (u : Int64) (h0 : Heap) (n0 : Nat) (v : Option Value) (h : Heap) (L : List Loc) : Prop := v = some (.long (own_mix (u + (-7046029254386353131 : Int64)))) ∧ Fr n0 L ∧ Keep h0 h [oa] ∧ Exa Z h oa "com/example/latebound/latebound/analysis/simulation/Draws" ∧ Fld Z h oa "com/example/latebound/latebound/analysis/simulation/Draws" "state" "J" (.long (u + (-7046029254386353131 : Int64)))
set_option maxRecDepth 65536 in
set_option maxHeartbeats 40000000 in
theorem own_rm_nxt (l : Launch) (Z : State) (a0 : Array Value) (hw : ∀ d ∈ tables_1, d.before a0 Z = true) (ws : List Jvm.Cond) (oa : Addr) (u : Int64) (h0 : Heap) (n0 : Nat) (Z0 : n0 ≤ h0.size) (E_oa : Exa Z h0 oa "com/example/latebound/latebound/analysis/simulation/Draws") (F_oa_state : Fld Z h0 oa "com/example/latebound/latebound/analysis/simulation/Draws" "state" "J" (.long u)) (g_oa : n0 ≤ oa) :
    MetFree l (⟨"com/example/latebound/latebound/analysis/simulation/Draws", "next", "()J"⟩ : MethodName) (head1 (Jvm.Cond.code (⟨"com/example/latebound/latebound/analysis/simulation/Draws", "next", "()J"⟩ : MethodName) prog_17_method_3_code 3 (some .long) :: ws) ({ frames := 0, cells := 0, slots := 0, locals := 0 } : Room)) (fun a U => a = #[(.ref oa)] ∧ Z.Warmed39 U.vm ∧ U.heap = h0) (fun _ _ _ _ _ => True) (fun _ U o U' => ∃ v L, o = .returned v ∧ own_Q_nxt Z oa u h0 n0 v U'.heap L ∧ FrameEnd U o U' L ({ frames := 0, cells := 0, slots := 0, locals := 0 } : Room).cells ({ frames := 0, cells := 0, slots := 0, locals := 0 } : Room).slots) := by
  refine MetFree.of_bodySF (plainFor_of_name own_pn0) hisR ?_
  intro p e s m args below meth c s₁ Bd hml0 hP hK
  obtain ⟨rfl, hZ, hh⟩ := hP
  have hx := Bd.exec
  have hby := Bd.bytes
  have hml : c.maxLocals = 3 := hml0
  have hown : s.vm.findClass "com/example/latebound/latebound/analysis/simulation/Draws" = some m.cls := findClass_of_methodNamed Bd.named
  have hnm := (name_of_methodNamed Bd.named Bd.method).1
  have X0 : Stand p l e ({ frames := 0, cells := 0, slots := 0, locals := 0 } : Room) s m #[(.ref oa)] below meth c s₁ [] 0 0 := Stand.of_body Bd
  have e0 : s₁.heap = h0 := by rw [← hh, Bd.state]; rfl
  have N0 := Fr.nil n0
  have K0 := Keep.refl h0 [oa]
  show own_Fin p e below s (own_Q_nxt Z oa u h0 n0) ({ frames := 0, cells := 0, slots := 0, locals := 0 } : Room).cells ({ frames := 0, cells := 0, slots := 0, locals := 0 } : Room).slots (s₁.setTop (entryFrame m #[(.ref oa)] 3))
  refine own_Fin.go (fun t k => castTop (own_ef_nxt m oa) k) ?_
  refine own_Fin.go (fun t k => XS.aloadN X0.here hx rfl (hb hby own_dnxt_0) rfl rfl k) ?_
  show own_Fin _ _ _ _ _ _ _ (s₁.setTop (mkF m 1 #[.val (.ref oa), .unset, .unset] [(.ref oa)]))
  refine own_Fin.go (fun t k => XS.dup X0.here hx rfl (hb hby own_dnxt_1) rfl rfl k) ?_
  show own_Fin _ _ _ _ _ _ _ (s₁.setTop (mkF m 2 #[.val (.ref oa), .unset, .unset] [(.ref oa), (.ref oa)]))
  obtain ⟨T1, X1, e1, st1⟩ := getF X0 hx hZ hown (host := "") (Or.inl (hw _ (List.mem_of_getElem? (i := 10) rfl))) Via.refl e0 F_oa_state (g := (mkF m 2 #[.val (.ref oa), .unset, .unset] [(.ref oa), (.ref oa)])) rfl rfl (hb hby own_dnxt_2)
  refine own_Fin.go st1 ?_
  show own_Fin _ _ _ _ _ _ _ (T1.setTop (mkF m 5 #[.val (.ref oa), .unset, .unset] [(.long u), (.ref oa)]))
  refine own_Fin.go (fun t k => X1.ldc2Long hx hown (mvT hZ (hw _ (List.mem_of_getElem? (i := 17) rfl))) (g := (mkF m 5 #[.val (.ref oa), .unset, .unset] [(.long u), (.ref oa)])) rfl (hb hby own_dnxt_5) t k) ?_
  show own_Fin _ _ _ _ _ _ _ (T1.setTop (mkF m 8 #[.val (.ref oa), .unset, .unset] [(.long (-7046029254386353131 : Int64)), (.long u), (.ref oa)]))
  refine own_Fin.go (fun t k => XS.ladd X1.here hx rfl (hb hby own_dnxt_8) rfl k) ?_
  show own_Fin _ _ _ _ _ _ _ (T1.setTop (mkF m 9 #[.val (.ref oa), .unset, .unset] [(.long (u + (-7046029254386353131 : Int64))), (.ref oa)]))
  obtain ⟨T2, h2, X2, e2, W2, st2⟩ := putF X1 hx hZ hown (host := "") (Or.inl (hw _ (List.mem_of_getElem? (i := 10) rfl))) Via.refl e1 F_oa_state E_oa (Or.inl (hw _ (List.mem_of_getElem? (i := 11) rfl))) (hw _ (List.mem_of_getElem? (i := 2) rfl)) (ty := .long) (by decide) rfl rfl (g := (mkF m 9 #[.val (.ref oa), .unset, .unset] [(.long (u + (-7046029254386353131 : Int64))), (.ref oa)])) rfl rfl (hb hby own_dnxt_9)
  refine own_Fin.go st2 ?_
  have F_oa_state_2 := Fld.same W2 F_oa_state
  have E_oa_2 := Exa.wr W2 E_oa
  have Z2 := Nat.le_trans Z0 (Keep.of_wr W2).1
  have K2 := K0.wr W2 (Or.inl (List.mem_of_getElem? (i := 0) rfl))
  have N2 := Fr.snoc X2 N0 g_oa
  show own_Fin _ _ _ _ _ _ _ (T2.setTop (mkF m 12 #[.val (.ref oa), .unset, .unset] []))
  refine own_Fin.go (fun t k => XS.aloadN X2.here hx rfl (hb hby own_dnxt_12) rfl rfl k) ?_
  show own_Fin _ _ _ _ _ _ _ (T2.setTop (mkF m 13 #[.val (.ref oa), .unset, .unset] [(.ref oa)]))
  obtain ⟨T3, X3, e3, st3⟩ := getF X2 hx hZ hown (host := "") (Or.inl (hw _ (List.mem_of_getElem? (i := 10) rfl))) Via.refl e2 F_oa_state_2 (g := (mkF m 13 #[.val (.ref oa), .unset, .unset] [(.ref oa)])) rfl rfl (hb hby own_dnxt_13)
  refine own_Fin.go st3 ?_
  show own_Fin _ _ _ _ _ _ _ (T3.setTop (mkF m 16 #[.val (.ref oa), .unset, .unset] [(.long (u + (-7046029254386353131 : Int64)))]))
  refine own_Fin.go (fun t k => XS.aloadN X3.here hx rfl (hb hby own_dnxt_16) rfl rfl k) ?_
  show own_Fin _ _ _ _ _ _ _ (T3.setTop (mkF m 17 #[.val (.ref oa), .unset, .unset] [(.ref oa), (.long (u + (-7046029254386353131 : Int64)))]))
  obtain ⟨T4, X4, e4, st4⟩ := getF X3 hx hZ hown (host := "") (Or.inl (hw _ (List.mem_of_getElem? (i := 10) rfl))) Via.refl e3 F_oa_state_2 (g := (mkF m 17 #[.val (.ref oa), .unset, .unset] [(.ref oa), (.long (u + (-7046029254386353131 : Int64)))])) rfl rfl (hb hby own_dnxt_17)
  refine own_Fin.go st4 ?_
  show own_Fin _ _ _ _ _ _ _ (T4.setTop (mkF m 20 #[.val (.ref oa), .unset, .unset] [(.long (u + (-7046029254386353131 : Int64))), (.long (u + (-7046029254386353131 : Int64)))]))
  refine own_Fin.go (fun t k => XS.bipush X4.here hx rfl (hb hby own_dnxt_20) k) ?_
  show own_Fin _ _ _ _ _ _ _ (T4.setTop (mkF m 22 #[.val (.ref oa), .unset, .unset] [(.int (30 : Int32)), (.long (u + (-7046029254386353131 : Int64))), (.long (u + (-7046029254386353131 : Int64)))]))
  refine own_Fin.go (fun t k => XS.lushr X4.here hx rfl (hb hby own_dnxt_22) rfl k) ?_
  show own_Fin _ _ _ _ _ _ _ (T4.setTop (mkF m 23 #[.val (.ref oa), .unset, .unset] [(.long (((u + (-7046029254386353131 : Int64)).toUInt64 >>> ((30 : Int32) &&& 0x3f).toInt64.toUInt64).toInt64)), (.long (u + (-7046029254386353131 : Int64)))]))
  refine own_Fin.go (fun t k => XS.lxor X4.here hx rfl (hb hby own_dnxt_23) rfl k) ?_
  show own_Fin _ _ _ _ _ _ _ (T4.setTop (mkF m 24 #[.val (.ref oa), .unset, .unset] [(.long ((u + (-7046029254386353131 : Int64)) ^^^ (((u + (-7046029254386353131 : Int64)).toUInt64 >>> ((30 : Int32) &&& 0x3f).toInt64.toUInt64).toInt64)))]))
  refine own_Fin.go (fun t k => X4.ldc2Long hx hown (mvT hZ (hw _ (List.mem_of_getElem? (i := 18) rfl))) (g := (mkF m 24 #[.val (.ref oa), .unset, .unset] [(.long ((u + (-7046029254386353131 : Int64)) ^^^ (((u + (-7046029254386353131 : Int64)).toUInt64 >>> ((30 : Int32) &&& 0x3f).toInt64.toUInt64).toInt64)))])) rfl (hb hby own_dnxt_24) t k) ?_
  show own_Fin _ _ _ _ _ _ _ (T4.setTop (mkF m 27 #[.val (.ref oa), .unset, .unset] [(.long (-4658895280553007687 : Int64)), (.long ((u + (-7046029254386353131 : Int64)) ^^^ (((u + (-7046029254386353131 : Int64)).toUInt64 >>> ((30 : Int32) &&& 0x3f).toInt64.toUInt64).toInt64)))]))
  refine own_Fin.go (fun t k => XS.lmul X4.here hx rfl (hb hby own_dnxt_27) rfl k) ?_
  show own_Fin _ _ _ _ _ _ _ (T4.setTop (mkF m 28 #[.val (.ref oa), .unset, .unset] [(.long (((u + (-7046029254386353131 : Int64)) ^^^ (((u + (-7046029254386353131 : Int64)).toUInt64 >>> ((30 : Int32) &&& 0x3f).toInt64.toUInt64).toInt64)) * (-4658895280553007687 : Int64)))]))
  refine own_Fin.go (fun t k => XS.lstoreN X4.here hx rfl (hb hby own_dnxt_28) rfl (l' := #[.val (.ref oa), .val (.long (((u + (-7046029254386353131 : Int64)) ^^^ (((u + (-7046029254386353131 : Int64)).toUInt64 >>> ((30 : Int32) &&& 0x3f).toInt64.toUInt64).toInt64)) * (-4658895280553007687 : Int64))), .second]) rfl k) ?_
  show own_Fin _ _ _ _ _ _ _ (T4.setTop (mkF m 29 #[.val (.ref oa), .val (.long (((u + (-7046029254386353131 : Int64)) ^^^ (((u + (-7046029254386353131 : Int64)).toUInt64 >>> ((30 : Int32) &&& 0x3f).toInt64.toUInt64).toInt64)) * (-4658895280553007687 : Int64))), .second] []))
  show own_Fin _ _ _ _ _ _ _ (T4.setTop (mkF m 29 #[.val (.ref oa), .val (.long (own_m1 (u + (-7046029254386353131 : Int64)))), .second] []))
  refine own_Fin.go (fun t k => XS.lloadN X4.here hx rfl (hb hby own_dnxt_29) rfl k) ?_
  show own_Fin _ _ _ _ _ _ _ (T4.setTop (mkF m 30 #[.val (.ref oa), .val (.long (own_m1 (u + (-7046029254386353131 : Int64)))), .second] [(.long (own_m1 (u + (-7046029254386353131 : Int64))))]))
  refine own_Fin.go (fun t k => XS.lloadN X4.here hx rfl (hb hby own_dnxt_30) rfl k) ?_
  show own_Fin _ _ _ _ _ _ _ (T4.setTop (mkF m 31 #[.val (.ref oa), .val (.long (own_m1 (u + (-7046029254386353131 : Int64)))), .second] [(.long (own_m1 (u + (-7046029254386353131 : Int64)))), (.long (own_m1 (u + (-7046029254386353131 : Int64))))]))
  refine own_Fin.go (fun t k => XS.bipush X4.here hx rfl (hb hby own_dnxt_31) k) ?_
  show own_Fin _ _ _ _ _ _ _ (T4.setTop (mkF m 33 #[.val (.ref oa), .val (.long (own_m1 (u + (-7046029254386353131 : Int64)))), .second] [(.int (27 : Int32)), (.long (own_m1 (u + (-7046029254386353131 : Int64)))), (.long (own_m1 (u + (-7046029254386353131 : Int64))))]))
  refine own_Fin.go (fun t k => XS.lushr X4.here hx rfl (hb hby own_dnxt_33) rfl k) ?_
  show own_Fin _ _ _ _ _ _ _ (T4.setTop (mkF m 34 #[.val (.ref oa), .val (.long (own_m1 (u + (-7046029254386353131 : Int64)))), .second] [(.long (((own_m1 (u + (-7046029254386353131 : Int64))).toUInt64 >>> ((27 : Int32) &&& 0x3f).toInt64.toUInt64).toInt64)), (.long (own_m1 (u + (-7046029254386353131 : Int64))))]))
  refine own_Fin.go (fun t k => XS.lxor X4.here hx rfl (hb hby own_dnxt_34) rfl k) ?_
  show own_Fin _ _ _ _ _ _ _ (T4.setTop (mkF m 35 #[.val (.ref oa), .val (.long (own_m1 (u + (-7046029254386353131 : Int64)))), .second] [(.long ((own_m1 (u + (-7046029254386353131 : Int64))) ^^^ (((own_m1 (u + (-7046029254386353131 : Int64))).toUInt64 >>> ((27 : Int32) &&& 0x3f).toInt64.toUInt64).toInt64)))]))
  refine own_Fin.go (fun t k => X4.ldc2Long hx hown (mvT hZ (hw _ (List.mem_of_getElem? (i := 19) rfl))) (g := (mkF m 35 #[.val (.ref oa), .val (.long (own_m1 (u + (-7046029254386353131 : Int64)))), .second] [(.long ((own_m1 (u + (-7046029254386353131 : Int64))) ^^^ (((own_m1 (u + (-7046029254386353131 : Int64))).toUInt64 >>> ((27 : Int32) &&& 0x3f).toInt64.toUInt64).toInt64)))])) rfl (hb hby own_dnxt_35) t k) ?_
  show own_Fin _ _ _ _ _ _ _ (T4.setTop (mkF m 38 #[.val (.ref oa), .val (.long (own_m1 (u + (-7046029254386353131 : Int64)))), .second] [(.long (-7723592293110705685 : Int64)), (.long ((own_m1 (u + (-7046029254386353131 : Int64))) ^^^ (((own_m1 (u + (-7046029254386353131 : Int64))).toUInt64 >>> ((27 : Int32) &&& 0x3f).toInt64.toUInt64).toInt64)))]))
  refine own_Fin.go (fun t k => XS.lmul X4.here hx rfl (hb hby own_dnxt_38) rfl k) ?_
  show own_Fin _ _ _ _ _ _ _ (T4.setTop (mkF m 39 #[.val (.ref oa), .val (.long (own_m1 (u + (-7046029254386353131 : Int64)))), .second] [(.long (((own_m1 (u + (-7046029254386353131 : Int64))) ^^^ (((own_m1 (u + (-7046029254386353131 : Int64))).toUInt64 >>> ((27 : Int32) &&& 0x3f).toInt64.toUInt64).toInt64)) * (-7723592293110705685 : Int64)))]))
  refine own_Fin.go (fun t k => XS.lstoreN X4.here hx rfl (hb hby own_dnxt_39) rfl (l' := #[.val (.ref oa), .val (.long (((own_m1 (u + (-7046029254386353131 : Int64))) ^^^ (((own_m1 (u + (-7046029254386353131 : Int64))).toUInt64 >>> ((27 : Int32) &&& 0x3f).toInt64.toUInt64).toInt64)) * (-7723592293110705685 : Int64))), .second]) rfl k) ?_
  show own_Fin _ _ _ _ _ _ _ (T4.setTop (mkF m 40 #[.val (.ref oa), .val (.long (((own_m1 (u + (-7046029254386353131 : Int64))) ^^^ (((own_m1 (u + (-7046029254386353131 : Int64))).toUInt64 >>> ((27 : Int32) &&& 0x3f).toInt64.toUInt64).toInt64)) * (-7723592293110705685 : Int64))), .second] []))
  show own_Fin _ _ _ _ _ _ _ (T4.setTop (mkF m 40 #[.val (.ref oa), .val (.long (own_m2 (own_m1 (u + (-7046029254386353131 : Int64))))), .second] []))
  refine own_Fin.go (fun t k => XS.lloadN X4.here hx rfl (hb hby own_dnxt_40) rfl k) ?_
  show own_Fin _ _ _ _ _ _ _ (T4.setTop (mkF m 41 #[.val (.ref oa), .val (.long (own_m2 (own_m1 (u + (-7046029254386353131 : Int64))))), .second] [(.long (own_m2 (own_m1 (u + (-7046029254386353131 : Int64)))))]))
  refine own_Fin.go (fun t k => XS.lloadN X4.here hx rfl (hb hby own_dnxt_41) rfl k) ?_
  show own_Fin _ _ _ _ _ _ _ (T4.setTop (mkF m 42 #[.val (.ref oa), .val (.long (own_m2 (own_m1 (u + (-7046029254386353131 : Int64))))), .second] [(.long (own_m2 (own_m1 (u + (-7046029254386353131 : Int64))))), (.long (own_m2 (own_m1 (u + (-7046029254386353131 : Int64)))))]))
  refine own_Fin.go (fun t k => XS.bipush X4.here hx rfl (hb hby own_dnxt_42) k) ?_
  show own_Fin _ _ _ _ _ _ _ (T4.setTop (mkF m 44 #[.val (.ref oa), .val (.long (own_m2 (own_m1 (u + (-7046029254386353131 : Int64))))), .second] [(.int (31 : Int32)), (.long (own_m2 (own_m1 (u + (-7046029254386353131 : Int64))))), (.long (own_m2 (own_m1 (u + (-7046029254386353131 : Int64)))))]))
  refine own_Fin.go (fun t k => XS.lushr X4.here hx rfl (hb hby own_dnxt_44) rfl k) ?_
  show own_Fin _ _ _ _ _ _ _ (T4.setTop (mkF m 45 #[.val (.ref oa), .val (.long (own_m2 (own_m1 (u + (-7046029254386353131 : Int64))))), .second] [(.long (((own_m2 (own_m1 (u + (-7046029254386353131 : Int64)))).toUInt64 >>> ((31 : Int32) &&& 0x3f).toInt64.toUInt64).toInt64)), (.long (own_m2 (own_m1 (u + (-7046029254386353131 : Int64)))))]))
  refine own_Fin.go (fun t k => XS.lxor X4.here hx rfl (hb hby own_dnxt_45) rfl k) ?_
  show own_Fin _ _ _ _ _ _ _ (T4.setTop (mkF m 46 #[.val (.ref oa), .val (.long (own_m2 (own_m1 (u + (-7046029254386353131 : Int64))))), .second] [(.long ((own_m2 (own_m1 (u + (-7046029254386353131 : Int64)))) ^^^ (((own_m2 (own_m1 (u + (-7046029254386353131 : Int64)))).toUInt64 >>> ((31 : Int32) &&& 0x3f).toInt64.toUInt64).toInt64)))]))
  refine own_retJ X4 hx Bd.returns (hb hby own_dnxt_46) Bd.notSynchronized (by decide) (by decide) ?_
  rw [e4]
  exact ⟨rfl, N2, K2, E_oa_2, F_oa_state_2⟩
theorem own_dinv_0 : decode method_3_code 0 = .ok (.lload_n 0, 1) := by decide +kernel
theorem own_dinv_1 : decode method_3_code 1 = .ok (.lstore_n 2, 1) := by decide +kernel
theorem own_dinv_2 : decode method_3_code 2 = .ok (.lload_n 2, 1) := by decide +kernel
theorem own_dinv_3 : decode method_3_code 3 = .ok (.ldc2_w 24, 3) := by decide +kernel
theorem own_dinv_6 : decode method_3_code 6 = .ok (.lload_n 0, 1) := by decide +kernel
theorem own_dinv_7 : decode method_3_code 7 = .ok (.lload_n 2, 1) := by decide +kernel
theorem own_dinv_8 : decode method_3_code 8 = .ok (.lmul, 1) := by decide +kernel
theorem own_dinv_9 : decode method_3_code 9 = .ok (.lsub, 1) := by decide +kernel
theorem own_dinv_10 : decode method_3_code 10 = .ok (.lmul, 1) := by decide +kernel
theorem own_dinv_11 : decode method_3_code 11 = .ok (.lstore_n 2, 1) := by decide +kernel
theorem own_dinv_12 : decode method_3_code 12 = .ok (.lload_n 2, 1) := by decide +kernel
theorem own_dinv_13 : decode method_3_code 13 = .ok (.ldc2_w 24, 3) := by decide +kernel
theorem own_dinv_16 : decode method_3_code 16 = .ok (.lload_n 0, 1) := by decide +kernel
theorem own_dinv_17 : decode method_3_code 17 = .ok (.lload_n 2, 1) := by decide +kernel
theorem own_dinv_18 : decode method_3_code 18 = .ok (.lmul, 1) := by decide +kernel
theorem own_dinv_19 : decode method_3_code 19 = .ok (.lsub, 1) := by decide +kernel
theorem own_dinv_20 : decode method_3_code 20 = .ok (.lmul, 1) := by decide +kernel
theorem own_dinv_21 : decode method_3_code 21 = .ok (.lstore_n 2, 1) := by decide +kernel
theorem own_dinv_22 : decode method_3_code 22 = .ok (.lload_n 2, 1) := by decide +kernel
theorem own_dinv_23 : decode method_3_code 23 = .ok (.ldc2_w 24, 3) := by decide +kernel
theorem own_dinv_26 : decode method_3_code 26 = .ok (.lload_n 0, 1) := by decide +kernel
theorem own_dinv_27 : decode method_3_code 27 = .ok (.lload_n 2, 1) := by decide +kernel
theorem own_dinv_28 : decode method_3_code 28 = .ok (.lmul, 1) := by decide +kernel
theorem own_dinv_29 : decode method_3_code 29 = .ok (.lsub, 1) := by decide +kernel
theorem own_dinv_30 : decode method_3_code 30 = .ok (.lmul, 1) := by decide +kernel
theorem own_dinv_31 : decode method_3_code 31 = .ok (.lstore_n 2, 1) := by decide +kernel
theorem own_dinv_32 : decode method_3_code 32 = .ok (.lload_n 2, 1) := by decide +kernel
theorem own_dinv_33 : decode method_3_code 33 = .ok (.ldc2_w 24, 3) := by decide +kernel
theorem own_dinv_36 : decode method_3_code 36 = .ok (.lload_n 0, 1) := by decide +kernel
theorem own_dinv_37 : decode method_3_code 37 = .ok (.lload_n 2, 1) := by decide +kernel
theorem own_dinv_38 : decode method_3_code 38 = .ok (.lmul, 1) := by decide +kernel
theorem own_dinv_39 : decode method_3_code 39 = .ok (.lsub, 1) := by decide +kernel
theorem own_dinv_40 : decode method_3_code 40 = .ok (.lmul, 1) := by decide +kernel
theorem own_dinv_41 : decode method_3_code 41 = .ok (.lstore_n 2, 1) := by decide +kernel
theorem own_dinv_42 : decode method_3_code 42 = .ok (.lload_n 2, 1) := by decide +kernel
theorem own_dinv_43 : decode method_3_code 43 = .ok (.ldc2_w 24, 3) := by decide +kernel
theorem own_dinv_46 : decode method_3_code 46 = .ok (.lload_n 0, 1) := by decide +kernel
theorem own_dinv_47 : decode method_3_code 47 = .ok (.lload_n 2, 1) := by decide +kernel
theorem own_dinv_48 : decode method_3_code 48 = .ok (.lmul, 1) := by decide +kernel
theorem own_dinv_49 : decode method_3_code 49 = .ok (.lsub, 1) := by decide +kernel
theorem own_dinv_50 : decode method_3_code 50 = .ok (.lmul, 1) := by decide +kernel
theorem own_dinv_51 : decode method_3_code 51 = .ok (.lstore_n 2, 1) := by decide +kernel
theorem own_dinv_52 : decode method_3_code 52 = .ok (.lload_n 2, 1) := by decide +kernel
theorem own_dinv_53 : decode method_3_code 53 = .ok (.lreturn, 1) := by decide +kernel
theorem own_pn1 : plainName "com/example/latebound/latebound/analysis/simulation/DrawsNextPinLaw" = true := by first | (simp [plainName, overriddenIn]; done) | decide +kernel
theorem own_ef_inv (m : MethodId) (va : Int64) : entryFrame m #[(.long va)] 4 = mkF m 0 #[.val (.long va), .second, .unset, .unset] [] := by first | (simp [entryFrame, mkF, argsToLocals, Value.category]; done) | rfl
def own_Q_inv (Z : State) (va : Int64) (h0 : Heap) (n0 : Nat) (v : Option Value) (h : Heap) (L : List Loc) : Prop := v = some (.long (own_inv va)) ∧ Fr n0 L ∧ h = h0
set_option maxRecDepth 65536 in
set_option maxHeartbeats 40000000 in
theorem own_rm_inv (l : Launch) (Z : State) (a0 : Array Value) (hw : ∀ d ∈ tables_1, d.before a0 Z = true) (ws : List Jvm.Cond) (va : Int64) (h0 : Heap) (n0 : Nat) (Z0 : n0 ≤ h0.size) :
    MetFree l (⟨"com/example/latebound/latebound/analysis/simulation/DrawsNextPinLaw", "inverse", "(J)J"⟩ : MethodName) (head1 (Jvm.Cond.code (⟨"com/example/latebound/latebound/analysis/simulation/DrawsNextPinLaw", "inverse", "(J)J"⟩ : MethodName) method_3_code 4 (some .long) :: ws) ({ frames := 0, cells := 0, slots := 0, locals := 0 } : Room)) (fun a U => a = #[(.long va)] ∧ Z.Warmed39 U.vm ∧ U.heap = h0) (fun _ _ _ _ _ => True) (fun _ U o U' => ∃ v L, o = .returned v ∧ own_Q_inv Z va h0 n0 v U'.heap L ∧ FrameEnd U o U' L ({ frames := 0, cells := 0, slots := 0, locals := 0 } : Room).cells ({ frames := 0, cells := 0, slots := 0, locals := 0 } : Room).slots) := by
  refine MetFree.of_bodySF (plainFor_of_name own_pn1) hisR ?_
  intro p e s m args below meth c s₁ Bd hml0 hP hK
  obtain ⟨rfl, hZ, hh⟩ := hP
  have hx := Bd.exec
  have hby := Bd.bytes
  have hml : c.maxLocals = 4 := hml0
  have hown : s.vm.findClass "com/example/latebound/latebound/analysis/simulation/DrawsNextPinLaw" = some m.cls := findClass_of_methodNamed Bd.named
  have hnm := (name_of_methodNamed Bd.named Bd.method).1
  have X0 : Stand p l e ({ frames := 0, cells := 0, slots := 0, locals := 0 } : Room) s m #[(.long va)] below meth c s₁ [] 0 0 := Stand.of_body Bd
  have e0 : s₁.heap = h0 := by rw [← hh, Bd.state]; rfl
  have N0 := Fr.nil n0
  show own_Fin p e below s (own_Q_inv Z va h0 n0) ({ frames := 0, cells := 0, slots := 0, locals := 0 } : Room).cells ({ frames := 0, cells := 0, slots := 0, locals := 0 } : Room).slots (s₁.setTop (entryFrame m #[(.long va)] 4))
  refine own_Fin.go (fun t k => castTop (own_ef_inv m va) k) ?_
  refine own_Fin.go (fun t k => XS.lloadN X0.here hx rfl (hb hby own_dinv_0) rfl k) ?_
  show own_Fin _ _ _ _ _ _ _ (s₁.setTop (mkF m 1 #[.val (.long va), .second, .unset, .unset] [(.long va)]))
  refine own_Fin.go (fun t k => XS.lstoreN X0.here hx rfl (hb hby own_dinv_1) rfl (l' := #[.val (.long va), .second, .val (.long va), .second]) rfl k) ?_
  show own_Fin _ _ _ _ _ _ _ (s₁.setTop (mkF m 2 #[.val (.long va), .second, .val (.long va), .second] []))
  refine own_Fin.go (fun t k => XS.lloadN X0.here hx rfl (hb hby own_dinv_2) rfl k) ?_
  show own_Fin _ _ _ _ _ _ _ (s₁.setTop (mkF m 3 #[.val (.long va), .second, .val (.long va), .second] [(.long va)]))
  refine own_Fin.go (fun t k => X0.ldc2Long hx hown (mvT hZ (hw _ (List.mem_of_getElem? (i := 28) rfl))) (g := (mkF m 3 #[.val (.long va), .second, .val (.long va), .second] [(.long va)])) rfl (hb hby own_dinv_3) t k) ?_
  show own_Fin _ _ _ _ _ _ _ (s₁.setTop (mkF m 6 #[.val (.long va), .second, .val (.long va), .second] [(.long (2 : Int64)), (.long va)]))
  refine own_Fin.go (fun t k => XS.lloadN X0.here hx rfl (hb hby own_dinv_6) rfl k) ?_
  show own_Fin _ _ _ _ _ _ _ (s₁.setTop (mkF m 7 #[.val (.long va), .second, .val (.long va), .second] [(.long va), (.long (2 : Int64)), (.long va)]))
  refine own_Fin.go (fun t k => XS.lloadN X0.here hx rfl (hb hby own_dinv_7) rfl k) ?_
  show own_Fin _ _ _ _ _ _ _ (s₁.setTop (mkF m 8 #[.val (.long va), .second, .val (.long va), .second] [(.long va), (.long va), (.long (2 : Int64)), (.long va)]))
  refine own_Fin.go (fun t k => XS.lmul X0.here hx rfl (hb hby own_dinv_8) rfl k) ?_
  show own_Fin _ _ _ _ _ _ _ (s₁.setTop (mkF m 9 #[.val (.long va), .second, .val (.long va), .second] [(.long (va * va)), (.long (2 : Int64)), (.long va)]))
  refine own_Fin.go (fun t k => XS.lsub X0.here hx rfl (hb hby own_dinv_9) rfl k) ?_
  show own_Fin _ _ _ _ _ _ _ (s₁.setTop (mkF m 10 #[.val (.long va), .second, .val (.long va), .second] [(.long ((2 : Int64) - (va * va))), (.long va)]))
  refine own_Fin.go (fun t k => XS.lmul X0.here hx rfl (hb hby own_dinv_10) rfl k) ?_
  show own_Fin _ _ _ _ _ _ _ (s₁.setTop (mkF m 11 #[.val (.long va), .second, .val (.long va), .second] [(.long (va * ((2 : Int64) - (va * va))))]))
  refine own_Fin.go (fun t k => XS.lstoreN X0.here hx rfl (hb hby own_dinv_11) rfl (l' := #[.val (.long va), .second, .val (.long (va * ((2 : Int64) - (va * va)))), .second]) rfl k) ?_
  show own_Fin _ _ _ _ _ _ _ (s₁.setTop (mkF m 12 #[.val (.long va), .second, .val (.long (va * ((2 : Int64) - (va * va)))), .second] []))
  show own_Fin _ _ _ _ _ _ _ (s₁.setTop (mkF m 12 #[.val (.long va), .second, .val (.long (own_nt va va)), .second] []))
  refine own_Fin.go (fun t k => XS.lloadN X0.here hx rfl (hb hby own_dinv_12) rfl k) ?_
  show own_Fin _ _ _ _ _ _ _ (s₁.setTop (mkF m 13 #[.val (.long va), .second, .val (.long (own_nt va va)), .second] [(.long (own_nt va va))]))
  refine own_Fin.go (fun t k => X0.ldc2Long hx hown (mvT hZ (hw _ (List.mem_of_getElem? (i := 28) rfl))) (g := (mkF m 13 #[.val (.long va), .second, .val (.long (own_nt va va)), .second] [(.long (own_nt va va))])) rfl (hb hby own_dinv_13) t k) ?_
  show own_Fin _ _ _ _ _ _ _ (s₁.setTop (mkF m 16 #[.val (.long va), .second, .val (.long (own_nt va va)), .second] [(.long (2 : Int64)), (.long (own_nt va va))]))
  refine own_Fin.go (fun t k => XS.lloadN X0.here hx rfl (hb hby own_dinv_16) rfl k) ?_
  show own_Fin _ _ _ _ _ _ _ (s₁.setTop (mkF m 17 #[.val (.long va), .second, .val (.long (own_nt va va)), .second] [(.long va), (.long (2 : Int64)), (.long (own_nt va va))]))
  refine own_Fin.go (fun t k => XS.lloadN X0.here hx rfl (hb hby own_dinv_17) rfl k) ?_
  show own_Fin _ _ _ _ _ _ _ (s₁.setTop (mkF m 18 #[.val (.long va), .second, .val (.long (own_nt va va)), .second] [(.long (own_nt va va)), (.long va), (.long (2 : Int64)), (.long (own_nt va va))]))
  refine own_Fin.go (fun t k => XS.lmul X0.here hx rfl (hb hby own_dinv_18) rfl k) ?_
  show own_Fin _ _ _ _ _ _ _ (s₁.setTop (mkF m 19 #[.val (.long va), .second, .val (.long (own_nt va va)), .second] [(.long (va * (own_nt va va))), (.long (2 : Int64)), (.long (own_nt va va))]))
  refine own_Fin.go (fun t k => XS.lsub X0.here hx rfl (hb hby own_dinv_19) rfl k) ?_
  show own_Fin _ _ _ _ _ _ _ (s₁.setTop (mkF m 20 #[.val (.long va), .second, .val (.long (own_nt va va)), .second] [(.long ((2 : Int64) - (va * (own_nt va va)))), (.long (own_nt va va))]))
  refine own_Fin.go (fun t k => XS.lmul X0.here hx rfl (hb hby own_dinv_20) rfl k) ?_
  show own_Fin _ _ _ _ _ _ _ (s₁.setTop (mkF m 21 #[.val (.long va), .second, .val (.long (own_nt va va)), .second] [(.long ((own_nt va va) * ((2 : Int64) - (va * (own_nt va va)))))]))
  refine own_Fin.go (fun t k => XS.lstoreN X0.here hx rfl (hb hby own_dinv_21) rfl (l' := #[.val (.long va), .second, .val (.long ((own_nt va va) * ((2 : Int64) - (va * (own_nt va va))))), .second]) rfl k) ?_
  show own_Fin _ _ _ _ _ _ _ (s₁.setTop (mkF m 22 #[.val (.long va), .second, .val (.long ((own_nt va va) * ((2 : Int64) - (va * (own_nt va va))))), .second] []))
  show own_Fin _ _ _ _ _ _ _ (s₁.setTop (mkF m 22 #[.val (.long va), .second, .val (.long (own_nt va (own_nt va va))), .second] []))
  refine own_Fin.go (fun t k => XS.lloadN X0.here hx rfl (hb hby own_dinv_22) rfl k) ?_
  show own_Fin _ _ _ _ _ _ _ (s₁.setTop (mkF m 23 #[.val (.long va), .second, .val (.long (own_nt va (own_nt va va))), .second] [(.long (own_nt va (own_nt va va)))]))
  refine own_Fin.go (fun t k => X0.ldc2Long hx hown (mvT hZ (hw _ (List.mem_of_getElem? (i := 28) rfl))) (g := (mkF m 23 #[.val (.long va), .second, .val (.long (own_nt va (own_nt va va))), .second] [(.long (own_nt va (own_nt va va)))])) rfl (hb hby own_dinv_23) t k) ?_
  show own_Fin _ _ _ _ _ _ _ (s₁.setTop (mkF m 26 #[.val (.long va), .second, .val (.long (own_nt va (own_nt va va))), .second] [(.long (2 : Int64)), (.long (own_nt va (own_nt va va)))]))
  refine own_Fin.go (fun t k => XS.lloadN X0.here hx rfl (hb hby own_dinv_26) rfl k) ?_
  show own_Fin _ _ _ _ _ _ _ (s₁.setTop (mkF m 27 #[.val (.long va), .second, .val (.long (own_nt va (own_nt va va))), .second] [(.long va), (.long (2 : Int64)), (.long (own_nt va (own_nt va va)))]))
  refine own_Fin.go (fun t k => XS.lloadN X0.here hx rfl (hb hby own_dinv_27) rfl k) ?_
  show own_Fin _ _ _ _ _ _ _ (s₁.setTop (mkF m 28 #[.val (.long va), .second, .val (.long (own_nt va (own_nt va va))), .second] [(.long (own_nt va (own_nt va va))), (.long va), (.long (2 : Int64)), (.long (own_nt va (own_nt va va)))]))
  refine own_Fin.go (fun t k => XS.lmul X0.here hx rfl (hb hby own_dinv_28) rfl k) ?_
  show own_Fin _ _ _ _ _ _ _ (s₁.setTop (mkF m 29 #[.val (.long va), .second, .val (.long (own_nt va (own_nt va va))), .second] [(.long (va * (own_nt va (own_nt va va)))), (.long (2 : Int64)), (.long (own_nt va (own_nt va va)))]))
  refine own_Fin.go (fun t k => XS.lsub X0.here hx rfl (hb hby own_dinv_29) rfl k) ?_
  show own_Fin _ _ _ _ _ _ _ (s₁.setTop (mkF m 30 #[.val (.long va), .second, .val (.long (own_nt va (own_nt va va))), .second] [(.long ((2 : Int64) - (va * (own_nt va (own_nt va va))))), (.long (own_nt va (own_nt va va)))]))
  refine own_Fin.go (fun t k => XS.lmul X0.here hx rfl (hb hby own_dinv_30) rfl k) ?_
  show own_Fin _ _ _ _ _ _ _ (s₁.setTop (mkF m 31 #[.val (.long va), .second, .val (.long (own_nt va (own_nt va va))), .second] [(.long ((own_nt va (own_nt va va)) * ((2 : Int64) - (va * (own_nt va (own_nt va va))))))]))
  refine own_Fin.go (fun t k => XS.lstoreN X0.here hx rfl (hb hby own_dinv_31) rfl (l' := #[.val (.long va), .second, .val (.long ((own_nt va (own_nt va va)) * ((2 : Int64) - (va * (own_nt va (own_nt va va)))))), .second]) rfl k) ?_
  show own_Fin _ _ _ _ _ _ _ (s₁.setTop (mkF m 32 #[.val (.long va), .second, .val (.long ((own_nt va (own_nt va va)) * ((2 : Int64) - (va * (own_nt va (own_nt va va)))))), .second] []))
  show own_Fin _ _ _ _ _ _ _ (s₁.setTop (mkF m 32 #[.val (.long va), .second, .val (.long (own_nt va (own_nt va (own_nt va va)))), .second] []))
  refine own_Fin.go (fun t k => XS.lloadN X0.here hx rfl (hb hby own_dinv_32) rfl k) ?_
  show own_Fin _ _ _ _ _ _ _ (s₁.setTop (mkF m 33 #[.val (.long va), .second, .val (.long (own_nt va (own_nt va (own_nt va va)))), .second] [(.long (own_nt va (own_nt va (own_nt va va))))]))
  refine own_Fin.go (fun t k => X0.ldc2Long hx hown (mvT hZ (hw _ (List.mem_of_getElem? (i := 28) rfl))) (g := (mkF m 33 #[.val (.long va), .second, .val (.long (own_nt va (own_nt va (own_nt va va)))), .second] [(.long (own_nt va (own_nt va (own_nt va va))))])) rfl (hb hby own_dinv_33) t k) ?_
  show own_Fin _ _ _ _ _ _ _ (s₁.setTop (mkF m 36 #[.val (.long va), .second, .val (.long (own_nt va (own_nt va (own_nt va va)))), .second] [(.long (2 : Int64)), (.long (own_nt va (own_nt va (own_nt va va))))]))
  refine own_Fin.go (fun t k => XS.lloadN X0.here hx rfl (hb hby own_dinv_36) rfl k) ?_
  show own_Fin _ _ _ _ _ _ _ (s₁.setTop (mkF m 37 #[.val (.long va), .second, .val (.long (own_nt va (own_nt va (own_nt va va)))), .second] [(.long va), (.long (2 : Int64)), (.long (own_nt va (own_nt va (own_nt va va))))]))
  refine own_Fin.go (fun t k => XS.lloadN X0.here hx rfl (hb hby own_dinv_37) rfl k) ?_
  show own_Fin _ _ _ _ _ _ _ (s₁.setTop (mkF m 38 #[.val (.long va), .second, .val (.long (own_nt va (own_nt va (own_nt va va)))), .second] [(.long (own_nt va (own_nt va (own_nt va va)))), (.long va), (.long (2 : Int64)), (.long (own_nt va (own_nt va (own_nt va va))))]))
  refine own_Fin.go (fun t k => XS.lmul X0.here hx rfl (hb hby own_dinv_38) rfl k) ?_
  show own_Fin _ _ _ _ _ _ _ (s₁.setTop (mkF m 39 #[.val (.long va), .second, .val (.long (own_nt va (own_nt va (own_nt va va)))), .second] [(.long (va * (own_nt va (own_nt va (own_nt va va))))), (.long (2 : Int64)), (.long (own_nt va (own_nt va (own_nt va va))))]))
  refine own_Fin.go (fun t k => XS.lsub X0.here hx rfl (hb hby own_dinv_39) rfl k) ?_
  show own_Fin _ _ _ _ _ _ _ (s₁.setTop (mkF m 40 #[.val (.long va), .second, .val (.long (own_nt va (own_nt va (own_nt va va)))), .second] [(.long ((2 : Int64) - (va * (own_nt va (own_nt va (own_nt va va)))))), (.long (own_nt va (own_nt va (own_nt va va))))]))
  refine own_Fin.go (fun t k => XS.lmul X0.here hx rfl (hb hby own_dinv_40) rfl k) ?_
  show own_Fin _ _ _ _ _ _ _ (s₁.setTop (mkF m 41 #[.val (.long va), .second, .val (.long (own_nt va (own_nt va (own_nt va va)))), .second] [(.long ((own_nt va (own_nt va (own_nt va va))) * ((2 : Int64) - (va * (own_nt va (own_nt va (own_nt va va)))))))]))
  refine own_Fin.go (fun t k => XS.lstoreN X0.here hx rfl (hb hby own_dinv_41) rfl (l' := #[.val (.long va), .second, .val (.long ((own_nt va (own_nt va (own_nt va va))) * ((2 : Int64) - (va * (own_nt va (own_nt va (own_nt va va))))))), .second]) rfl k) ?_
  show own_Fin _ _ _ _ _ _ _ (s₁.setTop (mkF m 42 #[.val (.long va), .second, .val (.long ((own_nt va (own_nt va (own_nt va va))) * ((2 : Int64) - (va * (own_nt va (own_nt va (own_nt va va))))))), .second] []))
  show own_Fin _ _ _ _ _ _ _ (s₁.setTop (mkF m 42 #[.val (.long va), .second, .val (.long (own_nt va (own_nt va (own_nt va (own_nt va va))))), .second] []))
  refine own_Fin.go (fun t k => XS.lloadN X0.here hx rfl (hb hby own_dinv_42) rfl k) ?_
  show own_Fin _ _ _ _ _ _ _ (s₁.setTop (mkF m 43 #[.val (.long va), .second, .val (.long (own_nt va (own_nt va (own_nt va (own_nt va va))))), .second] [(.long (own_nt va (own_nt va (own_nt va (own_nt va va)))))]))
  refine own_Fin.go (fun t k => X0.ldc2Long hx hown (mvT hZ (hw _ (List.mem_of_getElem? (i := 28) rfl))) (g := (mkF m 43 #[.val (.long va), .second, .val (.long (own_nt va (own_nt va (own_nt va (own_nt va va))))), .second] [(.long (own_nt va (own_nt va (own_nt va (own_nt va va)))))])) rfl (hb hby own_dinv_43) t k) ?_
  show own_Fin _ _ _ _ _ _ _ (s₁.setTop (mkF m 46 #[.val (.long va), .second, .val (.long (own_nt va (own_nt va (own_nt va (own_nt va va))))), .second] [(.long (2 : Int64)), (.long (own_nt va (own_nt va (own_nt va (own_nt va va)))))]))
  refine own_Fin.go (fun t k => XS.lloadN X0.here hx rfl (hb hby own_dinv_46) rfl k) ?_
  show own_Fin _ _ _ _ _ _ _ (s₁.setTop (mkF m 47 #[.val (.long va), .second, .val (.long (own_nt va (own_nt va (own_nt va (own_nt va va))))), .second] [(.long va), (.long (2 : Int64)), (.long (own_nt va (own_nt va (own_nt va (own_nt va va)))))]))
  refine own_Fin.go (fun t k => XS.lloadN X0.here hx rfl (hb hby own_dinv_47) rfl k) ?_
  show own_Fin _ _ _ _ _ _ _ (s₁.setTop (mkF m 48 #[.val (.long va), .second, .val (.long (own_nt va (own_nt va (own_nt va (own_nt va va))))), .second] [(.long (own_nt va (own_nt va (own_nt va (own_nt va va))))), (.long va), (.long (2 : Int64)), (.long (own_nt va (own_nt va (own_nt va (own_nt va va)))))]))
  refine own_Fin.go (fun t k => XS.lmul X0.here hx rfl (hb hby own_dinv_48) rfl k) ?_
  show own_Fin _ _ _ _ _ _ _ (s₁.setTop (mkF m 49 #[.val (.long va), .second, .val (.long (own_nt va (own_nt va (own_nt va (own_nt va va))))), .second] [(.long (va * (own_nt va (own_nt va (own_nt va (own_nt va va)))))), (.long (2 : Int64)), (.long (own_nt va (own_nt va (own_nt va (own_nt va va)))))]))
  refine own_Fin.go (fun t k => XS.lsub X0.here hx rfl (hb hby own_dinv_49) rfl k) ?_
  show own_Fin _ _ _ _ _ _ _ (s₁.setTop (mkF m 50 #[.val (.long va), .second, .val (.long (own_nt va (own_nt va (own_nt va (own_nt va va))))), .second] [(.long ((2 : Int64) - (va * (own_nt va (own_nt va (own_nt va (own_nt va va))))))), (.long (own_nt va (own_nt va (own_nt va (own_nt va va)))))]))
  refine own_Fin.go (fun t k => XS.lmul X0.here hx rfl (hb hby own_dinv_50) rfl k) ?_
  show own_Fin _ _ _ _ _ _ _ (s₁.setTop (mkF m 51 #[.val (.long va), .second, .val (.long (own_nt va (own_nt va (own_nt va (own_nt va va))))), .second] [(.long ((own_nt va (own_nt va (own_nt va (own_nt va va)))) * ((2 : Int64) - (va * (own_nt va (own_nt va (own_nt va (own_nt va va))))))))]))
  refine own_Fin.go (fun t k => XS.lstoreN X0.here hx rfl (hb hby own_dinv_51) rfl (l' := #[.val (.long va), .second, .val (.long ((own_nt va (own_nt va (own_nt va (own_nt va va)))) * ((2 : Int64) - (va * (own_nt va (own_nt va (own_nt va (own_nt va va)))))))), .second]) rfl k) ?_
  show own_Fin _ _ _ _ _ _ _ (s₁.setTop (mkF m 52 #[.val (.long va), .second, .val (.long ((own_nt va (own_nt va (own_nt va (own_nt va va)))) * ((2 : Int64) - (va * (own_nt va (own_nt va (own_nt va (own_nt va va)))))))), .second] []))
  show own_Fin _ _ _ _ _ _ _ (s₁.setTop (mkF m 52 #[.val (.long va), .second, .val (.long (own_nt va (own_nt va (own_nt va (own_nt va (own_nt va va)))))), .second] []))
  refine own_Fin.go (fun t k => XS.lloadN X0.here hx rfl (hb hby own_dinv_52) rfl k) ?_
  show own_Fin _ _ _ _ _ _ _ (s₁.setTop (mkF m 53 #[.val (.long va), .second, .val (.long (own_nt va (own_nt va (own_nt va (own_nt va (own_nt va va)))))), .second] [(.long (own_nt va (own_nt va (own_nt va (own_nt va (own_nt va va))))))]))
  refine own_retJ X0 hx Bd.returns (hb hby own_dinv_53) Bd.notSynchronized (by decide) (by decide) ?_
  rw [e0]
  exact ⟨rfl, N0, rfl⟩
theorem own_pd0 : parseMethodDescriptor "(J)J" = some ⟨[.long], some .long⟩ := by decide +kernel
theorem own_dunm_0 : decode method_4_code 0 = .ok (.lload_n 0, 1) := by decide +kernel
theorem own_dunm_1 : decode method_4_code 1 = .ok (.lload_n 0, 1) := by decide +kernel
theorem own_dunm_2 : decode method_4_code 2 = .ok (.bipush 31, 2) := by decide +kernel
theorem own_dunm_4 : decode method_4_code 4 = .ok (.lushr, 1) := by decide +kernel
theorem own_dunm_5 : decode method_4_code 5 = .ok (.lxor, 1) := by decide +kernel
theorem own_dunm_6 : decode method_4_code 6 = .ok (.lload_n 0, 1) := by decide +kernel
theorem own_dunm_7 : decode method_4_code 7 = .ok (.bipush 62, 2) := by decide +kernel
theorem own_dunm_9 : decode method_4_code 9 = .ok (.lushr, 1) := by decide +kernel
theorem own_dunm_10 : decode method_4_code 10 = .ok (.lxor, 1) := by decide +kernel
theorem own_dunm_11 : decode method_4_code 11 = .ok (.lstore_n 2, 1) := by decide +kernel
theorem own_dunm_12 : decode method_4_code 12 = .ok (.lload_n 2, 1) := by decide +kernel
theorem own_dunm_13 : decode method_4_code 13 = .ok (.ldc2_w 26, 3) := by decide +kernel
theorem own_dunm_16 : decode method_4_code 16 = .ok (.invokestatic 28, 3) := by decide +kernel
theorem own_dunm_19 : decode method_4_code 19 = .ok (.lmul, 1) := by decide +kernel
theorem own_dunm_20 : decode method_4_code 20 = .ok (.lstore_n 2, 1) := by decide +kernel
theorem own_dunm_21 : decode method_4_code 21 = .ok (.lload_n 2, 1) := by decide +kernel
theorem own_dunm_22 : decode method_4_code 22 = .ok (.lload_n 2, 1) := by decide +kernel
theorem own_dunm_23 : decode method_4_code 23 = .ok (.bipush 27, 2) := by decide +kernel
theorem own_dunm_25 : decode method_4_code 25 = .ok (.lushr, 1) := by decide +kernel
theorem own_dunm_26 : decode method_4_code 26 = .ok (.lxor, 1) := by decide +kernel
theorem own_dunm_27 : decode method_4_code 27 = .ok (.lload_n 2, 1) := by decide +kernel
theorem own_dunm_28 : decode method_4_code 28 = .ok (.bipush 54, 2) := by decide +kernel
theorem own_dunm_30 : decode method_4_code 30 = .ok (.lushr, 1) := by decide +kernel
theorem own_dunm_31 : decode method_4_code 31 = .ok (.lxor, 1) := by decide +kernel
theorem own_dunm_32 : decode method_4_code 32 = .ok (.lstore_n 2, 1) := by decide +kernel
theorem own_dunm_33 : decode method_4_code 33 = .ok (.lload_n 2, 1) := by decide +kernel
theorem own_dunm_34 : decode method_4_code 34 = .ok (.ldc2_w 31, 3) := by decide +kernel
theorem own_dunm_37 : decode method_4_code 37 = .ok (.invokestatic 28, 3) := by decide +kernel
theorem own_dunm_40 : decode method_4_code 40 = .ok (.lmul, 1) := by decide +kernel
theorem own_dunm_41 : decode method_4_code 41 = .ok (.lstore_n 2, 1) := by decide +kernel
theorem own_dunm_42 : decode method_4_code 42 = .ok (.lload_n 2, 1) := by decide +kernel
theorem own_dunm_43 : decode method_4_code 43 = .ok (.lload_n 2, 1) := by decide +kernel
theorem own_dunm_44 : decode method_4_code 44 = .ok (.bipush 30, 2) := by decide +kernel
theorem own_dunm_46 : decode method_4_code 46 = .ok (.lushr, 1) := by decide +kernel
theorem own_dunm_47 : decode method_4_code 47 = .ok (.lxor, 1) := by decide +kernel
theorem own_dunm_48 : decode method_4_code 48 = .ok (.lload_n 2, 1) := by decide +kernel
theorem own_dunm_49 : decode method_4_code 49 = .ok (.bipush 60, 2) := by decide +kernel
theorem own_dunm_51 : decode method_4_code 51 = .ok (.lushr, 1) := by decide +kernel
theorem own_dunm_52 : decode method_4_code 52 = .ok (.lxor, 1) := by decide +kernel
theorem own_dunm_53 : decode method_4_code 53 = .ok (.lreturn, 1) := by decide +kernel
theorem own_ef_unm (m : MethodId) (va : Int64) : entryFrame m #[(.long va)] 4 = mkF m 0 #[.val (.long va), .second, .unset, .unset] [] := by first | (simp [entryFrame, mkF, argsToLocals, Value.category]; done) | rfl
def own_Q_unm (Z : State) (va : Int64) (h0 : Heap) (n0 : Nat) (v : Option Value) (h : Heap) (L : List Loc) : Prop := v = some (.long (own_unmix va)) ∧ Fr n0 L ∧ h = h0
set_option maxRecDepth 65536 in
set_option maxHeartbeats 40000000 in
theorem own_rm_unm (l : Launch) (Z : State) (a0 : Array Value) (hw : ∀ d ∈ tables_1, d.before a0 Z = true) (ws : List Jvm.Cond) (va : Int64) (h0 : Heap) (n0 : Nat) (Z0 : n0 ≤ h0.size) :
    MetFree l (⟨"com/example/latebound/latebound/analysis/simulation/DrawsNextPinLaw", "unmix", "(J)J"⟩ : MethodName) (head1 (Jvm.Cond.code (⟨"com/example/latebound/latebound/analysis/simulation/DrawsNextPinLaw", "unmix", "(J)J"⟩ : MethodName) method_4_code 4 (some .long) :: ws) ({ frames := 1, cells := 0, slots := 0, locals := 17 } : Room)) (fun a U => a = #[(.long va)] ∧ Z.Warmed39 U.vm ∧ U.heap = h0) (fun _ _ _ _ _ => True) (fun _ U o U' => ∃ v L, o = .returned v ∧ own_Q_unm Z va h0 n0 v U'.heap L ∧ FrameEnd U o U' L ({ frames := 1, cells := 0, slots := 0, locals := 17 } : Room).cells ({ frames := 1, cells := 0, slots := 0, locals := 17 } : Room).slots) := by
  refine MetFree.of_bodySF (plainFor_of_name own_pn1) hisR ?_
  intro p e s m args below meth c s₁ Bd hml0 hP hK
  obtain ⟨rfl, hZ, hh⟩ := hP
  have hx := Bd.exec
  have hby := Bd.bytes
  have hml : c.maxLocals = 4 := hml0
  have hown : s.vm.findClass "com/example/latebound/latebound/analysis/simulation/DrawsNextPinLaw" = some m.cls := findClass_of_methodNamed Bd.named
  have hnm := (name_of_methodNamed Bd.named Bd.method).1
  have X0 : Stand p l e ({ frames := 1, cells := 0, slots := 0, locals := 17 } : Room) s m #[(.long va)] below meth c s₁ [] 0 0 := Stand.of_body Bd
  have e0 : s₁.heap = h0 := by rw [← hh, Bd.state]; rfl
  have N0 := Fr.nil n0
  show own_Fin p e below s (own_Q_unm Z va h0 n0) ({ frames := 1, cells := 0, slots := 0, locals := 17 } : Room).cells ({ frames := 1, cells := 0, slots := 0, locals := 17 } : Room).slots (s₁.setTop (entryFrame m #[(.long va)] 4))
  refine own_Fin.go (fun t k => castTop (own_ef_unm m va) k) ?_
  refine own_Fin.go (fun t k => XS.lloadN X0.here hx rfl (hb hby own_dunm_0) rfl k) ?_
  show own_Fin _ _ _ _ _ _ _ (s₁.setTop (mkF m 1 #[.val (.long va), .second, .unset, .unset] [(.long va)]))
  refine own_Fin.go (fun t k => XS.lloadN X0.here hx rfl (hb hby own_dunm_1) rfl k) ?_
  show own_Fin _ _ _ _ _ _ _ (s₁.setTop (mkF m 2 #[.val (.long va), .second, .unset, .unset] [(.long va), (.long va)]))
  refine own_Fin.go (fun t k => XS.bipush X0.here hx rfl (hb hby own_dunm_2) k) ?_
  show own_Fin _ _ _ _ _ _ _ (s₁.setTop (mkF m 4 #[.val (.long va), .second, .unset, .unset] [(.int (31 : Int32)), (.long va), (.long va)]))
  refine own_Fin.go (fun t k => XS.lushr X0.here hx rfl (hb hby own_dunm_4) rfl k) ?_
  show own_Fin _ _ _ _ _ _ _ (s₁.setTop (mkF m 5 #[.val (.long va), .second, .unset, .unset] [(.long ((va.toUInt64 >>> ((31 : Int32) &&& 0x3f).toInt64.toUInt64).toInt64)), (.long va)]))
  refine own_Fin.go (fun t k => XS.lxor X0.here hx rfl (hb hby own_dunm_5) rfl k) ?_
  show own_Fin _ _ _ _ _ _ _ (s₁.setTop (mkF m 6 #[.val (.long va), .second, .unset, .unset] [(.long (va ^^^ ((va.toUInt64 >>> ((31 : Int32) &&& 0x3f).toInt64.toUInt64).toInt64)))]))
  refine own_Fin.go (fun t k => XS.lloadN X0.here hx rfl (hb hby own_dunm_6) rfl k) ?_
  show own_Fin _ _ _ _ _ _ _ (s₁.setTop (mkF m 7 #[.val (.long va), .second, .unset, .unset] [(.long va), (.long (va ^^^ ((va.toUInt64 >>> ((31 : Int32) &&& 0x3f).toInt64.toUInt64).toInt64)))]))
  refine own_Fin.go (fun t k => XS.bipush X0.here hx rfl (hb hby own_dunm_7) k) ?_
  show own_Fin _ _ _ _ _ _ _ (s₁.setTop (mkF m 9 #[.val (.long va), .second, .unset, .unset] [(.int (62 : Int32)), (.long va), (.long (va ^^^ ((va.toUInt64 >>> ((31 : Int32) &&& 0x3f).toInt64.toUInt64).toInt64)))]))
  refine own_Fin.go (fun t k => XS.lushr X0.here hx rfl (hb hby own_dunm_9) rfl k) ?_
  show own_Fin _ _ _ _ _ _ _ (s₁.setTop (mkF m 10 #[.val (.long va), .second, .unset, .unset] [(.long ((va.toUInt64 >>> ((62 : Int32) &&& 0x3f).toInt64.toUInt64).toInt64)), (.long (va ^^^ ((va.toUInt64 >>> ((31 : Int32) &&& 0x3f).toInt64.toUInt64).toInt64)))]))
  refine own_Fin.go (fun t k => XS.lxor X0.here hx rfl (hb hby own_dunm_10) rfl k) ?_
  show own_Fin _ _ _ _ _ _ _ (s₁.setTop (mkF m 11 #[.val (.long va), .second, .unset, .unset] [(.long ((va ^^^ ((va.toUInt64 >>> ((31 : Int32) &&& 0x3f).toInt64.toUInt64).toInt64)) ^^^ ((va.toUInt64 >>> ((62 : Int32) &&& 0x3f).toInt64.toUInt64).toInt64)))]))
  refine own_Fin.go (fun t k => XS.lstoreN X0.here hx rfl (hb hby own_dunm_11) rfl (l' := #[.val (.long va), .second, .val (.long ((va ^^^ ((va.toUInt64 >>> ((31 : Int32) &&& 0x3f).toInt64.toUInt64).toInt64)) ^^^ ((va.toUInt64 >>> ((62 : Int32) &&& 0x3f).toInt64.toUInt64).toInt64))), .second]) rfl k) ?_
  show own_Fin _ _ _ _ _ _ _ (s₁.setTop (mkF m 12 #[.val (.long va), .second, .val (.long ((va ^^^ ((va.toUInt64 >>> ((31 : Int32) &&& 0x3f).toInt64.toUInt64).toInt64)) ^^^ ((va.toUInt64 >>> ((62 : Int32) &&& 0x3f).toInt64.toUInt64).toInt64))), .second] []))
  show own_Fin _ _ _ _ _ _ _ (s₁.setTop (mkF m 12 #[.val (.long va), .second, .val (.long (own_u3 va)), .second] []))
  refine own_Fin.go (fun t k => XS.lloadN X0.here hx rfl (hb hby own_dunm_12) rfl k) ?_
  show own_Fin _ _ _ _ _ _ _ (s₁.setTop (mkF m 13 #[.val (.long va), .second, .val (.long (own_u3 va)), .second] [(.long (own_u3 va))]))
  refine own_Fin.go (fun t k => X0.ldc2Long hx hown (mvT hZ (hw _ (List.mem_of_getElem? (i := 24) rfl))) (g := (mkF m 13 #[.val (.long va), .second, .val (.long (own_u3 va)), .second] [(.long (own_u3 va))])) rfl (hb hby own_dunm_13) t k) ?_
  show own_Fin _ _ _ _ _ _ _ (s₁.setTop (mkF m 16 #[.val (.long va), .second, .val (.long (own_u3 va)), .second] [(.long (-7723592293110705685 : Int64)), (.long (own_u3 va))]))
  obtain ⟨_, _, ⟨T1, L1, k1, n1⟩, -, X1, ⟨Lc1, hQ1, l1, y1, z1⟩, st1⟩ := Jvm.LawKit.callS X0 hx (y := (⟨"com/example/latebound/latebound/analysis/simulation/DrawsNextPinLaw", "inverse", "(J)J"⟩ : MethodName)) hown (mvT hZ (hw _ (List.mem_of_getElem? (i := 25) rfl))) (mvT hZ (hw _ (List.mem_of_getElem? (i := 26) rfl))) (mvT hZ (hw _ (List.mem_of_getElem? (i := 22) rfl))) (mvT hZ (hw _ (List.mem_of_getElem? (i := 27) rfl))) (by decide) (backOf (W := 2) (own_rm_inv l Z a0 hw [] (-7723592293110705685 : Int64)  h0 n0 Z0 ) hZ (hw _ (List.mem_of_getElem? (i := 27) rfl)) (hw _ (List.mem_of_getElem? (i := 22) rfl)) (by decide) (by decide)) (g := (mkF m 16 #[.val (.long va), .second, .val (.long (own_u3 va)), .second] [(.long (-7723592293110705685 : Int64)), (.long (own_u3 va))])) rfl (by rw [hml]; rfl) (argsL := [(.long (-7723592293110705685 : Int64))]) (rest := [(.long (own_u3 va))]) (lenOf own_pd0 rfl) rfl (by show 2 * 0 + _ ≤ _; exact Nat.le_of_eq rfl) (hb hby own_dunm_16) (fun _ _ => ⟨rfl, e0, (by decide : 0 + 0 ≤ _), (by decide : 0 + 0 ≤ _)⟩)
  dsimp only [Pt.U, Pt.locs, Pt.cells, Pt.slots] at X1 l1 y1 z1 st1 hQ1
  subst l1 y1 z1
  obtain ⟨rfl, N1q, e1⟩ := hQ1
  refine own_Fin.go (fun t k => st1 t k) ?_
  have N1 := Fr.app N0 N1q
  show own_Fin _ _ _ _ _ _ _ (T1.setTop (mkF m 19 #[.val (.long va), .second, .val (.long (own_u3 va)), .second] [(.long (own_inv (-7723592293110705685 : Int64))), (.long (own_u3 va))]))
  refine own_Fin.go (fun t k => XS.lmul X1.here hx rfl (hb hby own_dunm_19) rfl k) ?_
  show own_Fin _ _ _ _ _ _ _ (T1.setTop (mkF m 20 #[.val (.long va), .second, .val (.long (own_u3 va)), .second] [(.long ((own_u3 va) * (own_inv (-7723592293110705685 : Int64))))]))
  refine own_Fin.go (fun t k => XS.lstoreN X1.here hx rfl (hb hby own_dunm_20) rfl (l' := #[.val (.long va), .second, .val (.long ((own_u3 va) * (own_inv (-7723592293110705685 : Int64)))), .second]) rfl k) ?_
  show own_Fin _ _ _ _ _ _ _ (T1.setTop (mkF m 21 #[.val (.long va), .second, .val (.long ((own_u3 va) * (own_inv (-7723592293110705685 : Int64)))), .second] []))
  refine own_Fin.go (fun t k => XS.lloadN X1.here hx rfl (hb hby own_dunm_21) rfl k) ?_
  show own_Fin _ _ _ _ _ _ _ (T1.setTop (mkF m 22 #[.val (.long va), .second, .val (.long ((own_u3 va) * (own_inv (-7723592293110705685 : Int64)))), .second] [(.long ((own_u3 va) * (own_inv (-7723592293110705685 : Int64))))]))
  refine own_Fin.go (fun t k => XS.lloadN X1.here hx rfl (hb hby own_dunm_22) rfl k) ?_
  show own_Fin _ _ _ _ _ _ _ (T1.setTop (mkF m 23 #[.val (.long va), .second, .val (.long ((own_u3 va) * (own_inv (-7723592293110705685 : Int64)))), .second] [(.long ((own_u3 va) * (own_inv (-7723592293110705685 : Int64)))), (.long ((own_u3 va) * (own_inv (-7723592293110705685 : Int64))))]))
  refine own_Fin.go (fun t k => XS.bipush X1.here hx rfl (hb hby own_dunm_23) k) ?_
  show own_Fin _ _ _ _ _ _ _ (T1.setTop (mkF m 25 #[.val (.long va), .second, .val (.long ((own_u3 va) * (own_inv (-7723592293110705685 : Int64)))), .second] [(.int (27 : Int32)), (.long ((own_u3 va) * (own_inv (-7723592293110705685 : Int64)))), (.long ((own_u3 va) * (own_inv (-7723592293110705685 : Int64))))]))
  refine own_Fin.go (fun t k => XS.lushr X1.here hx rfl (hb hby own_dunm_25) rfl k) ?_
  show own_Fin _ _ _ _ _ _ _ (T1.setTop (mkF m 26 #[.val (.long va), .second, .val (.long ((own_u3 va) * (own_inv (-7723592293110705685 : Int64)))), .second] [(.long ((((own_u3 va) * (own_inv (-7723592293110705685 : Int64))).toUInt64 >>> ((27 : Int32) &&& 0x3f).toInt64.toUInt64).toInt64)), (.long ((own_u3 va) * (own_inv (-7723592293110705685 : Int64))))]))
  refine own_Fin.go (fun t k => XS.lxor X1.here hx rfl (hb hby own_dunm_26) rfl k) ?_
  show own_Fin _ _ _ _ _ _ _ (T1.setTop (mkF m 27 #[.val (.long va), .second, .val (.long ((own_u3 va) * (own_inv (-7723592293110705685 : Int64)))), .second] [(.long (((own_u3 va) * (own_inv (-7723592293110705685 : Int64))) ^^^ ((((own_u3 va) * (own_inv (-7723592293110705685 : Int64))).toUInt64 >>> ((27 : Int32) &&& 0x3f).toInt64.toUInt64).toInt64)))]))
  refine own_Fin.go (fun t k => XS.lloadN X1.here hx rfl (hb hby own_dunm_27) rfl k) ?_
  show own_Fin _ _ _ _ _ _ _ (T1.setTop (mkF m 28 #[.val (.long va), .second, .val (.long ((own_u3 va) * (own_inv (-7723592293110705685 : Int64)))), .second] [(.long ((own_u3 va) * (own_inv (-7723592293110705685 : Int64)))), (.long (((own_u3 va) * (own_inv (-7723592293110705685 : Int64))) ^^^ ((((own_u3 va) * (own_inv (-7723592293110705685 : Int64))).toUInt64 >>> ((27 : Int32) &&& 0x3f).toInt64.toUInt64).toInt64)))]))
  refine own_Fin.go (fun t k => XS.bipush X1.here hx rfl (hb hby own_dunm_28) k) ?_
  show own_Fin _ _ _ _ _ _ _ (T1.setTop (mkF m 30 #[.val (.long va), .second, .val (.long ((own_u3 va) * (own_inv (-7723592293110705685 : Int64)))), .second] [(.int (54 : Int32)), (.long ((own_u3 va) * (own_inv (-7723592293110705685 : Int64)))), (.long (((own_u3 va) * (own_inv (-7723592293110705685 : Int64))) ^^^ ((((own_u3 va) * (own_inv (-7723592293110705685 : Int64))).toUInt64 >>> ((27 : Int32) &&& 0x3f).toInt64.toUInt64).toInt64)))]))
  refine own_Fin.go (fun t k => XS.lushr X1.here hx rfl (hb hby own_dunm_30) rfl k) ?_
  show own_Fin _ _ _ _ _ _ _ (T1.setTop (mkF m 31 #[.val (.long va), .second, .val (.long ((own_u3 va) * (own_inv (-7723592293110705685 : Int64)))), .second] [(.long ((((own_u3 va) * (own_inv (-7723592293110705685 : Int64))).toUInt64 >>> ((54 : Int32) &&& 0x3f).toInt64.toUInt64).toInt64)), (.long (((own_u3 va) * (own_inv (-7723592293110705685 : Int64))) ^^^ ((((own_u3 va) * (own_inv (-7723592293110705685 : Int64))).toUInt64 >>> ((27 : Int32) &&& 0x3f).toInt64.toUInt64).toInt64)))]))
  refine own_Fin.go (fun t k => XS.lxor X1.here hx rfl (hb hby own_dunm_31) rfl k) ?_
  show own_Fin _ _ _ _ _ _ _ (T1.setTop (mkF m 32 #[.val (.long va), .second, .val (.long ((own_u3 va) * (own_inv (-7723592293110705685 : Int64)))), .second] [(.long ((((own_u3 va) * (own_inv (-7723592293110705685 : Int64))) ^^^ ((((own_u3 va) * (own_inv (-7723592293110705685 : Int64))).toUInt64 >>> ((27 : Int32) &&& 0x3f).toInt64.toUInt64).toInt64)) ^^^ ((((own_u3 va) * (own_inv (-7723592293110705685 : Int64))).toUInt64 >>> ((54 : Int32) &&& 0x3f).toInt64.toUInt64).toInt64)))]))
  refine own_Fin.go (fun t k => XS.lstoreN X1.here hx rfl (hb hby own_dunm_32) rfl (l' := #[.val (.long va), .second, .val (.long ((((own_u3 va) * (own_inv (-7723592293110705685 : Int64))) ^^^ ((((own_u3 va) * (own_inv (-7723592293110705685 : Int64))).toUInt64 >>> ((27 : Int32) &&& 0x3f).toInt64.toUInt64).toInt64)) ^^^ ((((own_u3 va) * (own_inv (-7723592293110705685 : Int64))).toUInt64 >>> ((54 : Int32) &&& 0x3f).toInt64.toUInt64).toInt64))), .second]) rfl k) ?_
  show own_Fin _ _ _ _ _ _ _ (T1.setTop (mkF m 33 #[.val (.long va), .second, .val (.long ((((own_u3 va) * (own_inv (-7723592293110705685 : Int64))) ^^^ ((((own_u3 va) * (own_inv (-7723592293110705685 : Int64))).toUInt64 >>> ((27 : Int32) &&& 0x3f).toInt64.toUInt64).toInt64)) ^^^ ((((own_u3 va) * (own_inv (-7723592293110705685 : Int64))).toUInt64 >>> ((54 : Int32) &&& 0x3f).toInt64.toUInt64).toInt64))), .second] []))
  show own_Fin _ _ _ _ _ _ _ (T1.setTop (mkF m 33 #[.val (.long va), .second, .val (.long (own_u2 (own_u3 va * own_inv (-7723592293110705685 : Int64)))), .second] []))
  refine own_Fin.go (fun t k => XS.lloadN X1.here hx rfl (hb hby own_dunm_33) rfl k) ?_
  show own_Fin _ _ _ _ _ _ _ (T1.setTop (mkF m 34 #[.val (.long va), .second, .val (.long (own_u2 (own_u3 va * own_inv (-7723592293110705685 : Int64)))), .second] [(.long (own_u2 (own_u3 va * own_inv (-7723592293110705685 : Int64))))]))
  refine own_Fin.go (fun t k => X1.ldc2Long hx hown (mvT hZ (hw _ (List.mem_of_getElem? (i := 29) rfl))) (g := (mkF m 34 #[.val (.long va), .second, .val (.long (own_u2 (own_u3 va * own_inv (-7723592293110705685 : Int64)))), .second] [(.long (own_u2 (own_u3 va * own_inv (-7723592293110705685 : Int64))))])) rfl (hb hby own_dunm_34) t k) ?_
  show own_Fin _ _ _ _ _ _ _ (T1.setTop (mkF m 37 #[.val (.long va), .second, .val (.long (own_u2 (own_u3 va * own_inv (-7723592293110705685 : Int64)))), .second] [(.long (-4658895280553007687 : Int64)), (.long (own_u2 (own_u3 va * own_inv (-7723592293110705685 : Int64))))]))
  obtain ⟨_, _, ⟨T2, L2, k2, n2⟩, -, X2, ⟨Lc2, hQ2, l2, y2, z2⟩, st2⟩ := Jvm.LawKit.callS X1 hx (y := (⟨"com/example/latebound/latebound/analysis/simulation/DrawsNextPinLaw", "inverse", "(J)J"⟩ : MethodName)) hown (mvT hZ (hw _ (List.mem_of_getElem? (i := 25) rfl))) (mvT hZ (hw _ (List.mem_of_getElem? (i := 26) rfl))) (mvT hZ (hw _ (List.mem_of_getElem? (i := 22) rfl))) (mvT hZ (hw _ (List.mem_of_getElem? (i := 27) rfl))) (by decide) (backOf (W := 2) (own_rm_inv l Z a0 hw [] (-4658895280553007687 : Int64)  h0 n0 Z0 ) hZ (hw _ (List.mem_of_getElem? (i := 27) rfl)) (hw _ (List.mem_of_getElem? (i := 22) rfl)) (by decide) (by decide)) (g := (mkF m 37 #[.val (.long va), .second, .val (.long (own_u2 (own_u3 va * own_inv (-7723592293110705685 : Int64)))), .second] [(.long (-4658895280553007687 : Int64)), (.long (own_u2 (own_u3 va * own_inv (-7723592293110705685 : Int64))))])) rfl (by rw [hml]; rfl) (argsL := [(.long (-4658895280553007687 : Int64))]) (rest := [(.long (own_u2 (own_u3 va * own_inv (-7723592293110705685 : Int64))))]) (lenOf own_pd0 rfl) rfl (by show 2 * 0 + _ ≤ _; exact Nat.le_of_eq rfl) (hb hby own_dunm_37) (fun _ _ => ⟨rfl, e1, (by decide : 0 + 0 ≤ _), (by decide : 0 + 0 ≤ _)⟩)
  dsimp only [Pt.U, Pt.locs, Pt.cells, Pt.slots] at X2 l2 y2 z2 st2 hQ2
  subst l2 y2 z2
  obtain ⟨rfl, N2q, e2⟩ := hQ2
  refine own_Fin.go (fun t k => st2 t k) ?_
  have N2 := Fr.app N1 N2q
  show own_Fin _ _ _ _ _ _ _ (T2.setTop (mkF m 40 #[.val (.long va), .second, .val (.long (own_u2 (own_u3 va * own_inv (-7723592293110705685 : Int64)))), .second] [(.long (own_inv (-4658895280553007687 : Int64))), (.long (own_u2 (own_u3 va * own_inv (-7723592293110705685 : Int64))))]))
  refine own_Fin.go (fun t k => XS.lmul X2.here hx rfl (hb hby own_dunm_40) rfl k) ?_
  show own_Fin _ _ _ _ _ _ _ (T2.setTop (mkF m 41 #[.val (.long va), .second, .val (.long (own_u2 (own_u3 va * own_inv (-7723592293110705685 : Int64)))), .second] [(.long ((own_u2 (own_u3 va * own_inv (-7723592293110705685 : Int64))) * (own_inv (-4658895280553007687 : Int64))))]))
  refine own_Fin.go (fun t k => XS.lstoreN X2.here hx rfl (hb hby own_dunm_41) rfl (l' := #[.val (.long va), .second, .val (.long ((own_u2 (own_u3 va * own_inv (-7723592293110705685 : Int64))) * (own_inv (-4658895280553007687 : Int64)))), .second]) rfl k) ?_
  show own_Fin _ _ _ _ _ _ _ (T2.setTop (mkF m 42 #[.val (.long va), .second, .val (.long ((own_u2 (own_u3 va * own_inv (-7723592293110705685 : Int64))) * (own_inv (-4658895280553007687 : Int64)))), .second] []))
  refine own_Fin.go (fun t k => XS.lloadN X2.here hx rfl (hb hby own_dunm_42) rfl k) ?_
  show own_Fin _ _ _ _ _ _ _ (T2.setTop (mkF m 43 #[.val (.long va), .second, .val (.long ((own_u2 (own_u3 va * own_inv (-7723592293110705685 : Int64))) * (own_inv (-4658895280553007687 : Int64)))), .second] [(.long ((own_u2 (own_u3 va * own_inv (-7723592293110705685 : Int64))) * (own_inv (-4658895280553007687 : Int64))))]))
  refine own_Fin.go (fun t k => XS.lloadN X2.here hx rfl (hb hby own_dunm_43) rfl k) ?_
  show own_Fin _ _ _ _ _ _ _ (T2.setTop (mkF m 44 #[.val (.long va), .second, .val (.long ((own_u2 (own_u3 va * own_inv (-7723592293110705685 : Int64))) * (own_inv (-4658895280553007687 : Int64)))), .second] [(.long ((own_u2 (own_u3 va * own_inv (-7723592293110705685 : Int64))) * (own_inv (-4658895280553007687 : Int64)))), (.long ((own_u2 (own_u3 va * own_inv (-7723592293110705685 : Int64))) * (own_inv (-4658895280553007687 : Int64))))]))
  refine own_Fin.go (fun t k => XS.bipush X2.here hx rfl (hb hby own_dunm_44) k) ?_
  show own_Fin _ _ _ _ _ _ _ (T2.setTop (mkF m 46 #[.val (.long va), .second, .val (.long ((own_u2 (own_u3 va * own_inv (-7723592293110705685 : Int64))) * (own_inv (-4658895280553007687 : Int64)))), .second] [(.int (30 : Int32)), (.long ((own_u2 (own_u3 va * own_inv (-7723592293110705685 : Int64))) * (own_inv (-4658895280553007687 : Int64)))), (.long ((own_u2 (own_u3 va * own_inv (-7723592293110705685 : Int64))) * (own_inv (-4658895280553007687 : Int64))))]))
  refine own_Fin.go (fun t k => XS.lushr X2.here hx rfl (hb hby own_dunm_46) rfl k) ?_
  show own_Fin _ _ _ _ _ _ _ (T2.setTop (mkF m 47 #[.val (.long va), .second, .val (.long ((own_u2 (own_u3 va * own_inv (-7723592293110705685 : Int64))) * (own_inv (-4658895280553007687 : Int64)))), .second] [(.long ((((own_u2 (own_u3 va * own_inv (-7723592293110705685 : Int64))) * (own_inv (-4658895280553007687 : Int64))).toUInt64 >>> ((30 : Int32) &&& 0x3f).toInt64.toUInt64).toInt64)), (.long ((own_u2 (own_u3 va * own_inv (-7723592293110705685 : Int64))) * (own_inv (-4658895280553007687 : Int64))))]))
  refine own_Fin.go (fun t k => XS.lxor X2.here hx rfl (hb hby own_dunm_47) rfl k) ?_
  show own_Fin _ _ _ _ _ _ _ (T2.setTop (mkF m 48 #[.val (.long va), .second, .val (.long ((own_u2 (own_u3 va * own_inv (-7723592293110705685 : Int64))) * (own_inv (-4658895280553007687 : Int64)))), .second] [(.long (((own_u2 (own_u3 va * own_inv (-7723592293110705685 : Int64))) * (own_inv (-4658895280553007687 : Int64))) ^^^ ((((own_u2 (own_u3 va * own_inv (-7723592293110705685 : Int64))) * (own_inv (-4658895280553007687 : Int64))).toUInt64 >>> ((30 : Int32) &&& 0x3f).toInt64.toUInt64).toInt64)))]))
  refine own_Fin.go (fun t k => XS.lloadN X2.here hx rfl (hb hby own_dunm_48) rfl k) ?_
  show own_Fin _ _ _ _ _ _ _ (T2.setTop (mkF m 49 #[.val (.long va), .second, .val (.long ((own_u2 (own_u3 va * own_inv (-7723592293110705685 : Int64))) * (own_inv (-4658895280553007687 : Int64)))), .second] [(.long ((own_u2 (own_u3 va * own_inv (-7723592293110705685 : Int64))) * (own_inv (-4658895280553007687 : Int64)))), (.long (((own_u2 (own_u3 va * own_inv (-7723592293110705685 : Int64))) * (own_inv (-4658895280553007687 : Int64))) ^^^ ((((own_u2 (own_u3 va * own_inv (-7723592293110705685 : Int64))) * (own_inv (-4658895280553007687 : Int64))).toUInt64 >>> ((30 : Int32) &&& 0x3f).toInt64.toUInt64).toInt64)))]))
  refine own_Fin.go (fun t k => XS.bipush X2.here hx rfl (hb hby own_dunm_49) k) ?_
  show own_Fin _ _ _ _ _ _ _ (T2.setTop (mkF m 51 #[.val (.long va), .second, .val (.long ((own_u2 (own_u3 va * own_inv (-7723592293110705685 : Int64))) * (own_inv (-4658895280553007687 : Int64)))), .second] [(.int (60 : Int32)), (.long ((own_u2 (own_u3 va * own_inv (-7723592293110705685 : Int64))) * (own_inv (-4658895280553007687 : Int64)))), (.long (((own_u2 (own_u3 va * own_inv (-7723592293110705685 : Int64))) * (own_inv (-4658895280553007687 : Int64))) ^^^ ((((own_u2 (own_u3 va * own_inv (-7723592293110705685 : Int64))) * (own_inv (-4658895280553007687 : Int64))).toUInt64 >>> ((30 : Int32) &&& 0x3f).toInt64.toUInt64).toInt64)))]))
  refine own_Fin.go (fun t k => XS.lushr X2.here hx rfl (hb hby own_dunm_51) rfl k) ?_
  show own_Fin _ _ _ _ _ _ _ (T2.setTop (mkF m 52 #[.val (.long va), .second, .val (.long ((own_u2 (own_u3 va * own_inv (-7723592293110705685 : Int64))) * (own_inv (-4658895280553007687 : Int64)))), .second] [(.long ((((own_u2 (own_u3 va * own_inv (-7723592293110705685 : Int64))) * (own_inv (-4658895280553007687 : Int64))).toUInt64 >>> ((60 : Int32) &&& 0x3f).toInt64.toUInt64).toInt64)), (.long (((own_u2 (own_u3 va * own_inv (-7723592293110705685 : Int64))) * (own_inv (-4658895280553007687 : Int64))) ^^^ ((((own_u2 (own_u3 va * own_inv (-7723592293110705685 : Int64))) * (own_inv (-4658895280553007687 : Int64))).toUInt64 >>> ((30 : Int32) &&& 0x3f).toInt64.toUInt64).toInt64)))]))
  refine own_Fin.go (fun t k => XS.lxor X2.here hx rfl (hb hby own_dunm_52) rfl k) ?_
  show own_Fin _ _ _ _ _ _ _ (T2.setTop (mkF m 53 #[.val (.long va), .second, .val (.long ((own_u2 (own_u3 va * own_inv (-7723592293110705685 : Int64))) * (own_inv (-4658895280553007687 : Int64)))), .second] [(.long ((((own_u2 (own_u3 va * own_inv (-7723592293110705685 : Int64))) * (own_inv (-4658895280553007687 : Int64))) ^^^ ((((own_u2 (own_u3 va * own_inv (-7723592293110705685 : Int64))) * (own_inv (-4658895280553007687 : Int64))).toUInt64 >>> ((30 : Int32) &&& 0x3f).toInt64.toUInt64).toInt64)) ^^^ ((((own_u2 (own_u3 va * own_inv (-7723592293110705685 : Int64))) * (own_inv (-4658895280553007687 : Int64))).toUInt64 >>> ((60 : Int32) &&& 0x3f).toInt64.toUInt64).toInt64)))]))
  refine own_retJ X2 hx Bd.returns (hb hby own_dunm_53) Bd.notSynchronized (by decide) (by decide) ?_
  rw [e2]
  exact ⟨rfl, N2, rfl⟩
theorem own_pd1 : parseMethodDescriptor "(J)V" = some ⟨[.long], none⟩ := by decide +kernel
theorem own_pd2 : parseMethodDescriptor "()J" = some ⟨[], some .long⟩ := by decide +kernel
theorem own_ef_law (m : MethodId) (va : Int64) : entryFrame m #[(.long va)] maxLocals = mkF m 0 #[.val (.long va), .second, .unset, .unset, .unset, .unset, .unset, .unset, .unset] [] := by first | (simp [entryFrame, mkF, argsToLocals, Value.category, maxLocals]; done) | rfl
def own_Q_law (Z : State) (va : Int64) (h0 : Heap) (n0 : Nat) (v : Option Value) (h : Heap) (L : List Loc) : Prop := v = some (.int (1 : Int32)) ∧ Fr n0 L
set_option maxRecDepth 65536 in
set_option maxHeartbeats 40000000 in
theorem own_rm_law (l : Launch) (Z : State) (a0 : Array Value) (hw : ∀ d ∈ tables_1, d.before a0 Z = true) (ws : List Jvm.Cond) (va : Int64) (h0 : Heap) (n0 : Nat) (Z0 : n0 ≤ h0.size) :
    MetFree l x (head1 (Jvm.Cond.code x code maxLocals ret :: ws) room_1) (fun a U => a = #[(.long va)] ∧ Z.Warmed39 U.vm ∧ U.heap = h0) (fun _ _ _ _ _ => True) (fun _ U o U' => ∃ v L, o = .returned v ∧ own_Q_law Z va h0 n0 v U'.heap L ∧ FrameEnd U o U' L room_1.cells room_1.slots) := by
  refine MetFree.of_bodySF (plainFor_of_name own_pn1) hisR ?_
  intro p e s m args below meth c s₁ Bd hml0 hP hK
  obtain ⟨rfl, hZ, hh⟩ := hP
  have hx := Bd.exec
  have hby := Bd.bytes
  have hml : c.maxLocals = 9 := hml0
  have hown : s.vm.findClass "com/example/latebound/latebound/analysis/simulation/DrawsNextPinLaw" = some m.cls := findClass_of_methodNamed Bd.named
  have hnm := (name_of_methodNamed Bd.named Bd.method).1
  have X0 : Stand p l e room_1 s m #[(.long va)] below meth c s₁ [] 0 0 := Stand.of_body Bd
  have e0 : s₁.heap = h0 := by rw [← hh, Bd.state]; rfl
  have N0 := Fr.nil n0
  show own_Fin p e below s (own_Q_law Z va h0 n0) room_1.cells room_1.slots (s₁.setTop (entryFrame m #[(.long va)] maxLocals))
  refine own_Fin.go (fun t k => castTop (own_ef_law m va) k) ?_
  refine own_Fin.go (fun t k => X0.ldc2Long hx hown (mvT hZ (hw _ (List.mem_of_getElem? (i := 0) rfl))) (g := (mkF m 0 #[.val (.long va), .second, .unset, .unset, .unset, .unset, .unset, .unset, .unset] [])) rfl (hb hby at_0) t k) ?_
  show own_Fin _ _ _ _ _ _ _ (s₁.setTop (mkF m 3 #[.val (.long va), .second, .unset, .unset, .unset, .unset, .unset, .unset, .unset] [(.long (-7046029254386353131 : Int64))]))
  refine own_Fin.go (fun t k => XS.lstoreN X0.here hx rfl (hb hby at_3) rfl (l' := #[.val (.long va), .second, .val (.long (-7046029254386353131 : Int64)), .second, .unset, .unset, .unset, .unset, .unset]) rfl k) ?_
  show own_Fin _ _ _ _ _ _ _ (s₁.setTop (mkF m 4 #[.val (.long va), .second, .val (.long (-7046029254386353131 : Int64)), .second, .unset, .unset, .unset, .unset, .unset] []))
  obtain ⟨T1, h1, X1, e1, E1, A1, D1, -, st1⟩ := newO X0 hx hZ hown (hw _ (List.mem_of_getElem? (i := 1) rfl)) (hw _ (List.mem_of_getElem? (i := 2) rfl)) (hw _ (List.mem_of_getElem? (i := 3) rfl)) e0 (g := (mkF m 4 #[.val (.long va), .second, .val (.long (-7046029254386353131 : Int64)), .second, .unset, .unset, .unset, .unset, .unset] [])) rfl (hb hby at_4) (by decide) (by decide)
  obtain ⟨b1, g1⟩ : ∃ z, z = h0.size := ⟨_, rfl⟩
  rw [← g1] at A1 D1 st1
  refine own_Fin.go st1 ?_
  have g_b1 : n0 ≤ b1 := Nat.le_trans Z0 (Nat.le_of_eq g1.symm)
  have Z1 := Nat.le_trans Z0 E1.1
  have F_b1_state : Fld Z h1 b1 "com/example/latebound/latebound/analysis/simulation/Draws" "state" "J" (.long (0 : Int64)) := D1 (Or.inl (hw _ (List.mem_of_getElem? (i := 11) rfl))) (ty := .long) (by decide)
  show own_Fin _ _ _ _ _ _ _ (T1.setTop (mkF m 7 #[.val (.long va), .second, .val (.long (-7046029254386353131 : Int64)), .second, .unset, .unset, .unset, .unset, .unset] [(.ref b1)]))
  refine own_Fin.go (fun t k => XS.dup X1.here hx rfl (hb hby at_7) rfl rfl k) ?_
  show own_Fin _ _ _ _ _ _ _ (T1.setTop (mkF m 8 #[.val (.long va), .second, .val (.long (-7046029254386353131 : Int64)), .second, .unset, .unset, .unset, .unset, .unset] [(.ref b1), (.ref b1)]))
  refine own_Fin.go (fun t k => XS.lloadN X1.here hx rfl (hb hby at_8) rfl k) ?_
  show own_Fin _ _ _ _ _ _ _ (T1.setTop (mkF m 9 #[.val (.long va), .second, .val (.long (-7046029254386353131 : Int64)), .second, .unset, .unset, .unset, .unset, .unset] [(.long va), (.ref b1), (.ref b1)]))
  obtain ⟨_, _, ⟨T2, L2, k2, n2⟩, -, X2, ⟨Lc2, hQ2, l2, y2, z2⟩, st2⟩ := X1.specialBack hx (y := (⟨"com/example/latebound/latebound/analysis/simulation/Draws", "<init>", "(J)V"⟩ : MethodName)) rfl hown (mvT hZ (hw _ (List.mem_of_getElem? (i := 4) rfl))) (mvT hZ (hw _ (List.mem_of_getElem? (i := 5) rfl))) (mvT hZ (hw _ (List.mem_of_getElem? (i := 6) rfl))) (by decide) (backOf (W := 1) (own_rm_ini l Z a0 hw [] b1 va  h1 n0 Z1 A1 F_b1_state g_b1) hZ (hw _ (List.mem_of_getElem? (i := 6) rfl)) (hw _ (List.mem_of_getElem? (i := 3) rfl)) (by decide) (by decide)) (g := (mkF m 9 #[.val (.long va), .second, .val (.long (-7046029254386353131 : Int64)), .second, .unset, .unset, .unset, .unset, .unset] [(.long va), (.ref b1), (.ref b1)])) rfl (by rw [hml]; rfl) (Steps.refl _) (a := b1) (argsL := [(.long va)]) (rest := [(.ref b1)]) (lenOf own_pd1 rfl) rfl (by show 2 * 0 + _ ≤ _; exact Nat.le_of_eq rfl) (hb hby at_9) (fun _ _ => ⟨rfl, e1, (by decide : 1 + 0 ≤ _), (by decide : 1 + 0 ≤ _)⟩)
  dsimp only [Pt.U, Pt.locs, Pt.cells, Pt.slots] at X2 l2 y2 z2 st2 hQ2
  subst l2 y2 z2
  obtain ⟨rfl, N2q, K2q, c2_1, c2_2⟩ := hQ2
  refine own_Fin.go (fun t k => st2.trans k) ?_
  have N2 := Fr.app N0 N2q
  have Z2 := Nat.le_trans Z1 K2q.1
  show own_Fin _ _ _ _ _ _ _ (T2.setTop (mkF m 12 #[.val (.long va), .second, .val (.long (-7046029254386353131 : Int64)), .second, .unset, .unset, .unset, .unset, .unset] [(.ref b1)]))
  refine own_Fin.go (fun t k => XS.astore X2.here hx rfl (hb hby at_12) rfl rfl (l' := #[.val (.long va), .second, .val (.long (-7046029254386353131 : Int64)), .second, .val (.ref b1), .unset, .unset, .unset, .unset]) rfl k) ?_
  show own_Fin _ _ _ _ _ _ _ (T2.setTop (mkF m 14 #[.val (.long va), .second, .val (.long (-7046029254386353131 : Int64)), .second, .val (.ref b1), .unset, .unset, .unset, .unset] []))
  refine own_Fin.go (fun t k => XS.aload X2.here hx rfl (hb hby at_14) rfl rfl k) ?_
  show own_Fin _ _ _ _ _ _ _ (T2.setTop (mkF m 16 #[.val (.long va), .second, .val (.long (-7046029254386353131 : Int64)), .second, .val (.ref b1), .unset, .unset, .unset, .unset] [(.ref b1)]))
  obtain ⟨cq3, kq3, q3a, q3b, q3c⟩ := isOf hZ rfl c2_1
  obtain ⟨_, _, ⟨T3, L3, k3, n3⟩, -, X3, ⟨Lc3, hQ3, l3, y3, z3⟩, st3⟩ := X2.virtualBack hx (y := (⟨"com/example/latebound/latebound/analysis/simulation/Draws", "next", "()J"⟩ : MethodName)) (z := (⟨"com/example/latebound/latebound/analysis/simulation/Draws", "next", "()J"⟩ : MethodName)) hown (mvT hZ (hw _ (List.mem_of_getElem? (i := 12) rfl))) (mvT hZ (hw _ (List.mem_of_getElem? (i := 13) rfl))) (notFace_of_selects (args := #[]) (mvT hZ (hw _ (List.mem_of_getElem? (i := 15) rfl)))) (mvT hZ (hw _ (List.mem_of_getElem? (i := 15) rfl))) (mvT hZ (hw _ (List.mem_of_getElem? (i := 14) rfl))) (by decide) (backOf (W := 0) (own_rm_nxt l Z a0 hw [] b1 va T2.heap n0 Z2 c2_1 c2_2 g_b1) hZ (hw _ (List.mem_of_getElem? (i := 16) rfl)) (hw _ (List.mem_of_getElem? (i := 3) rfl)) (by decide) (by decide)) q3a q3c (g := (mkF m 16 #[.val (.long va), .second, .val (.long (-7046029254386353131 : Int64)), .second, .val (.ref b1), .unset, .unset, .unset, .unset] [(.ref b1)])) rfl (by rw [hml]; rfl) (Steps.refl _) (argsL := []) (rest := []) (lenOf own_pd2 rfl) rfl (by show 2 * 0 + _ ≤ _; exact Nat.le_of_eq rfl) (hb hby at_16) (fun _ _ => ⟨rfl, rfl, (by decide : 1 + 0 ≤ _), (by decide : 1 + 0 ≤ _)⟩)
  dsimp only [Pt.U, Pt.locs, Pt.cells, Pt.slots] at X3 l3 y3 z3 st3 hQ3
  subst l3 y3 z3
  obtain ⟨rfl, N3q, K3q, c3_1, c3_2⟩ := hQ3
  refine own_Fin.go (fun t k => st3.trans k) ?_
  have N3 := Fr.app N2 N3q
  have Z3 := Nat.le_trans Z2 K3q.1
  show own_Fin _ _ _ _ _ _ _ (T3.setTop (mkF m 19 #[.val (.long va), .second, .val (.long (-7046029254386353131 : Int64)), .second, .val (.ref b1), .unset, .unset, .unset, .unset] [(.long (own_mix (va + (-7046029254386353131 : Int64))))]))
  refine own_Fin.go (fun t k => XS.lstore X3.here hx rfl (hb hby at_19) rfl (l' := #[.val (.long va), .second, .val (.long (-7046029254386353131 : Int64)), .second, .val (.ref b1), .val (.long (own_mix (va + (-7046029254386353131 : Int64)))), .second, .unset, .unset]) rfl k) ?_
  show own_Fin _ _ _ _ _ _ _ (T3.setTop (mkF m 21 #[.val (.long va), .second, .val (.long (-7046029254386353131 : Int64)), .second, .val (.ref b1), .val (.long (own_mix (va + (-7046029254386353131 : Int64)))), .second, .unset, .unset] []))
  refine own_Fin.go (fun t k => XS.aload X3.here hx rfl (hb hby at_21) rfl rfl k) ?_
  show own_Fin _ _ _ _ _ _ _ (T3.setTop (mkF m 23 #[.val (.long va), .second, .val (.long (-7046029254386353131 : Int64)), .second, .val (.ref b1), .val (.long (own_mix (va + (-7046029254386353131 : Int64)))), .second, .unset, .unset] [(.ref b1)]))
  obtain ⟨cq4, kq4, q4a, q4b, q4c⟩ := isOf hZ rfl c3_1
  obtain ⟨_, _, ⟨T4, L4, k4, n4⟩, -, X4, ⟨Lc4, hQ4, l4, y4, z4⟩, st4⟩ := X3.virtualBack hx (y := (⟨"com/example/latebound/latebound/analysis/simulation/Draws", "next", "()J"⟩ : MethodName)) (z := (⟨"com/example/latebound/latebound/analysis/simulation/Draws", "next", "()J"⟩ : MethodName)) hown (mvT hZ (hw _ (List.mem_of_getElem? (i := 12) rfl))) (mvT hZ (hw _ (List.mem_of_getElem? (i := 13) rfl))) (notFace_of_selects (args := #[]) (mvT hZ (hw _ (List.mem_of_getElem? (i := 15) rfl)))) (mvT hZ (hw _ (List.mem_of_getElem? (i := 15) rfl))) (mvT hZ (hw _ (List.mem_of_getElem? (i := 14) rfl))) (by decide) (backOf (W := 0) (own_rm_nxt l Z a0 hw [] b1 (va + (-7046029254386353131 : Int64)) T3.heap n0 Z3 c3_1 c3_2 g_b1) hZ (hw _ (List.mem_of_getElem? (i := 16) rfl)) (hw _ (List.mem_of_getElem? (i := 3) rfl)) (by decide) (by decide)) q4a q4c (g := (mkF m 23 #[.val (.long va), .second, .val (.long (-7046029254386353131 : Int64)), .second, .val (.ref b1), .val (.long (own_mix (va + (-7046029254386353131 : Int64)))), .second, .unset, .unset] [(.ref b1)])) rfl (by rw [hml]; rfl) (Steps.refl _) (argsL := []) (rest := []) (lenOf own_pd2 rfl) rfl (by show 2 * 0 + _ ≤ _; exact Nat.le_of_eq rfl) (hb hby at_23) (fun _ _ => ⟨rfl, rfl, (by decide : 1 + 0 ≤ _), (by decide : 1 + 0 ≤ _)⟩)
  dsimp only [Pt.U, Pt.locs, Pt.cells, Pt.slots] at X4 l4 y4 z4 st4 hQ4
  subst l4 y4 z4
  obtain ⟨rfl, N4q, K4q, c4_1, c4_2⟩ := hQ4
  refine own_Fin.go (fun t k => st4.trans k) ?_
  have N4 := Fr.app N3 N4q
  have Z4 := Nat.le_trans Z3 K4q.1
  show own_Fin _ _ _ _ _ _ _ (T4.setTop (mkF m 26 #[.val (.long va), .second, .val (.long (-7046029254386353131 : Int64)), .second, .val (.ref b1), .val (.long (own_mix (va + (-7046029254386353131 : Int64)))), .second, .unset, .unset] [(.long (own_mix ((va + (-7046029254386353131 : Int64)) + (-7046029254386353131 : Int64))))]))
  refine own_Fin.go (fun t k => XS.lstore X4.here hx rfl (hb hby at_26) rfl (l' := #[.val (.long va), .second, .val (.long (-7046029254386353131 : Int64)), .second, .val (.ref b1), .val (.long (own_mix (va + (-7046029254386353131 : Int64)))), .second, .val (.long (own_mix ((va + (-7046029254386353131 : Int64)) + (-7046029254386353131 : Int64)))), .second]) rfl k) ?_
  show own_Fin _ _ _ _ _ _ _ (T4.setTop (mkF m 28 #[.val (.long va), .second, .val (.long (-7046029254386353131 : Int64)), .second, .val (.ref b1), .val (.long (own_mix (va + (-7046029254386353131 : Int64)))), .second, .val (.long (own_mix ((va + (-7046029254386353131 : Int64)) + (-7046029254386353131 : Int64)))), .second] []))
  refine own_Fin.go (fun t k => XS.lload X4.here hx rfl (hb hby at_28) rfl k) ?_
  show own_Fin _ _ _ _ _ _ _ (T4.setTop (mkF m 30 #[.val (.long va), .second, .val (.long (-7046029254386353131 : Int64)), .second, .val (.ref b1), .val (.long (own_mix (va + (-7046029254386353131 : Int64)))), .second, .val (.long (own_mix ((va + (-7046029254386353131 : Int64)) + (-7046029254386353131 : Int64)))), .second] [(.long (own_mix (va + (-7046029254386353131 : Int64))))]))
  obtain ⟨_, _, ⟨T5, L5, k5, n5⟩, -, X5, ⟨Lc5, hQ5, l5, y5, z5⟩, st5⟩ := Jvm.LawKit.callS X4 hx (y := (⟨"com/example/latebound/latebound/analysis/simulation/DrawsNextPinLaw", "unmix", "(J)J"⟩ : MethodName)) hown (mvT hZ (hw _ (List.mem_of_getElem? (i := 20) rfl))) (mvT hZ (hw _ (List.mem_of_getElem? (i := 21) rfl))) (mvT hZ (hw _ (List.mem_of_getElem? (i := 22) rfl))) (mvT hZ (hw _ (List.mem_of_getElem? (i := 23) rfl))) (by decide) (backOf (W := 0) (own_rm_unm l Z a0 hw [] (own_mix (va + (-7046029254386353131 : Int64)))  T4.heap n0 Z4 ) hZ (hw _ (List.mem_of_getElem? (i := 23) rfl)) (hw _ (List.mem_of_getElem? (i := 22) rfl)) (by decide) (by decide)) (g := (mkF m 30 #[.val (.long va), .second, .val (.long (-7046029254386353131 : Int64)), .second, .val (.ref b1), .val (.long (own_mix (va + (-7046029254386353131 : Int64)))), .second, .val (.long (own_mix ((va + (-7046029254386353131 : Int64)) + (-7046029254386353131 : Int64)))), .second] [(.long (own_mix (va + (-7046029254386353131 : Int64))))])) rfl (by rw [hml]; rfl) (argsL := [(.long (own_mix (va + (-7046029254386353131 : Int64))))]) (rest := []) (lenOf own_pd0 rfl) rfl (by show 2 * 0 + _ ≤ _; exact Nat.le_of_eq rfl) (hb hby at_30) (fun _ _ => ⟨rfl, rfl, (by decide : 1 + 0 ≤ _), (by decide : 1 + 0 ≤ _)⟩)
  dsimp only [Pt.U, Pt.locs, Pt.cells, Pt.slots] at X5 l5 y5 z5 st5 hQ5
  subst l5 y5 z5
  obtain ⟨rfl, N5q, e5⟩ := hQ5
  refine own_Fin.go (fun t k => st5 t k) ?_
  have N5 := Fr.app N4 N5q
  show own_Fin _ _ _ _ _ _ _ (T5.setTop (mkF m 33 #[.val (.long va), .second, .val (.long (-7046029254386353131 : Int64)), .second, .val (.ref b1), .val (.long (own_mix (va + (-7046029254386353131 : Int64)))), .second, .val (.long (own_mix ((va + (-7046029254386353131 : Int64)) + (-7046029254386353131 : Int64)))), .second] [(.long (own_unmix (own_mix (va + (-7046029254386353131 : Int64)))))]))
  refine own_Fin.go (fun t k => XS.lloadN X5.here hx rfl (hb hby at_33) rfl k) ?_
  show own_Fin _ _ _ _ _ _ _ (T5.setTop (mkF m 34 #[.val (.long va), .second, .val (.long (-7046029254386353131 : Int64)), .second, .val (.ref b1), .val (.long (own_mix (va + (-7046029254386353131 : Int64)))), .second, .val (.long (own_mix ((va + (-7046029254386353131 : Int64)) + (-7046029254386353131 : Int64)))), .second] [(.long va), (.long (own_unmix (own_mix (va + (-7046029254386353131 : Int64)))))]))
  refine own_Fin.go (fun t k => XS.lloadN X5.here hx rfl (hb hby at_34) rfl k) ?_
  show own_Fin _ _ _ _ _ _ _ (T5.setTop (mkF m 35 #[.val (.long va), .second, .val (.long (-7046029254386353131 : Int64)), .second, .val (.ref b1), .val (.long (own_mix (va + (-7046029254386353131 : Int64)))), .second, .val (.long (own_mix ((va + (-7046029254386353131 : Int64)) + (-7046029254386353131 : Int64)))), .second] [(.long (-7046029254386353131 : Int64)), (.long va), (.long (own_unmix (own_mix (va + (-7046029254386353131 : Int64)))))]))
  refine own_Fin.go (fun t k => XS.ladd X5.here hx rfl (hb hby at_35) rfl k) ?_
  show own_Fin _ _ _ _ _ _ _ (T5.setTop (mkF m 36 #[.val (.long va), .second, .val (.long (-7046029254386353131 : Int64)), .second, .val (.ref b1), .val (.long (own_mix (va + (-7046029254386353131 : Int64)))), .second, .val (.long (own_mix ((va + (-7046029254386353131 : Int64)) + (-7046029254386353131 : Int64)))), .second] [(.long (va + (-7046029254386353131 : Int64))), (.long (own_unmix (own_mix (va + (-7046029254386353131 : Int64)))))]))
  refine own_Fin.go (fun t k => XS.lcmp X5.here hx rfl (hb hby at_36) rfl k) ?_
  show own_Fin _ _ _ _ _ _ _ (T5.setTop (mkF m 37 #[.val (.long va), .second, .val (.long (-7046029254386353131 : Int64)), .second, .val (.ref b1), .val (.long (own_mix (va + (-7046029254386353131 : Int64)))), .second, .val (.long (own_mix ((va + (-7046029254386353131 : Int64)) + (-7046029254386353131 : Int64)))), .second] [(.int (lcmpW (own_unmix (own_mix (va + (-7046029254386353131 : Int64)))) (va + (-7046029254386353131 : Int64))))]))
  have hc37 : (own_unmix (own_mix (va + (-7046029254386353131 : Int64)))) = (va + (-7046029254386353131 : Int64)) := own_plain _
  refine own_Fin.go (fun t k => XS.ifNo X5.here hx rfl (hb hby at_37) rfl (Jvm.Free.XT.ll_ne_f hc37) k) ?_
  show own_Fin _ _ _ _ _ _ _ (T5.setTop (mkF m 40 #[.val (.long va), .second, .val (.long (-7046029254386353131 : Int64)), .second, .val (.ref b1), .val (.long (own_mix (va + (-7046029254386353131 : Int64)))), .second, .val (.long (own_mix ((va + (-7046029254386353131 : Int64)) + (-7046029254386353131 : Int64)))), .second] []))
  refine own_Fin.go (fun t k => XS.lload X5.here hx rfl (hb hby at_40) rfl k) ?_
  show own_Fin _ _ _ _ _ _ _ (T5.setTop (mkF m 42 #[.val (.long va), .second, .val (.long (-7046029254386353131 : Int64)), .second, .val (.ref b1), .val (.long (own_mix (va + (-7046029254386353131 : Int64)))), .second, .val (.long (own_mix ((va + (-7046029254386353131 : Int64)) + (-7046029254386353131 : Int64)))), .second] [(.long (own_mix ((va + (-7046029254386353131 : Int64)) + (-7046029254386353131 : Int64))))]))
  obtain ⟨_, _, ⟨T6, L6, k6, n6⟩, -, X6, ⟨Lc6, hQ6, l6, y6, z6⟩, st6⟩ := Jvm.LawKit.callS X5 hx (y := (⟨"com/example/latebound/latebound/analysis/simulation/DrawsNextPinLaw", "unmix", "(J)J"⟩ : MethodName)) hown (mvT hZ (hw _ (List.mem_of_getElem? (i := 20) rfl))) (mvT hZ (hw _ (List.mem_of_getElem? (i := 21) rfl))) (mvT hZ (hw _ (List.mem_of_getElem? (i := 22) rfl))) (mvT hZ (hw _ (List.mem_of_getElem? (i := 23) rfl))) (by decide) (backOf (W := 0) (own_rm_unm l Z a0 hw [] (own_mix ((va + (-7046029254386353131 : Int64)) + (-7046029254386353131 : Int64)))  T4.heap n0 Z4 ) hZ (hw _ (List.mem_of_getElem? (i := 23) rfl)) (hw _ (List.mem_of_getElem? (i := 22) rfl)) (by decide) (by decide)) (g := (mkF m 42 #[.val (.long va), .second, .val (.long (-7046029254386353131 : Int64)), .second, .val (.ref b1), .val (.long (own_mix (va + (-7046029254386353131 : Int64)))), .second, .val (.long (own_mix ((va + (-7046029254386353131 : Int64)) + (-7046029254386353131 : Int64)))), .second] [(.long (own_mix ((va + (-7046029254386353131 : Int64)) + (-7046029254386353131 : Int64))))])) rfl (by rw [hml]; rfl) (argsL := [(.long (own_mix ((va + (-7046029254386353131 : Int64)) + (-7046029254386353131 : Int64))))]) (rest := []) (lenOf own_pd0 rfl) rfl (by show 2 * 0 + _ ≤ _; exact Nat.le_of_eq rfl) (hb hby at_42) (fun _ _ => ⟨rfl, e5, (by decide : 1 + 0 ≤ _), (by decide : 1 + 0 ≤ _)⟩)
  dsimp only [Pt.U, Pt.locs, Pt.cells, Pt.slots] at X6 l6 y6 z6 st6 hQ6
  subst l6 y6 z6
  obtain ⟨rfl, N6q, e6⟩ := hQ6
  refine own_Fin.go (fun t k => st6 t k) ?_
  have N6 := Fr.app N5 N6q
  show own_Fin _ _ _ _ _ _ _ (T6.setTop (mkF m 45 #[.val (.long va), .second, .val (.long (-7046029254386353131 : Int64)), .second, .val (.ref b1), .val (.long (own_mix (va + (-7046029254386353131 : Int64)))), .second, .val (.long (own_mix ((va + (-7046029254386353131 : Int64)) + (-7046029254386353131 : Int64)))), .second] [(.long (own_unmix (own_mix ((va + (-7046029254386353131 : Int64)) + (-7046029254386353131 : Int64)))))]))
  refine own_Fin.go (fun t k => XS.lloadN X6.here hx rfl (hb hby at_45) rfl k) ?_
  show own_Fin _ _ _ _ _ _ _ (T6.setTop (mkF m 46 #[.val (.long va), .second, .val (.long (-7046029254386353131 : Int64)), .second, .val (.ref b1), .val (.long (own_mix (va + (-7046029254386353131 : Int64)))), .second, .val (.long (own_mix ((va + (-7046029254386353131 : Int64)) + (-7046029254386353131 : Int64)))), .second] [(.long va), (.long (own_unmix (own_mix ((va + (-7046029254386353131 : Int64)) + (-7046029254386353131 : Int64)))))]))
  refine own_Fin.go (fun t k => X6.ldc2Long hx hown (mvT hZ (hw _ (List.mem_of_getElem? (i := 28) rfl))) (g := (mkF m 46 #[.val (.long va), .second, .val (.long (-7046029254386353131 : Int64)), .second, .val (.ref b1), .val (.long (own_mix (va + (-7046029254386353131 : Int64)))), .second, .val (.long (own_mix ((va + (-7046029254386353131 : Int64)) + (-7046029254386353131 : Int64)))), .second] [(.long va), (.long (own_unmix (own_mix ((va + (-7046029254386353131 : Int64)) + (-7046029254386353131 : Int64)))))])) rfl (hb hby at_46) t k) ?_
  show own_Fin _ _ _ _ _ _ _ (T6.setTop (mkF m 49 #[.val (.long va), .second, .val (.long (-7046029254386353131 : Int64)), .second, .val (.ref b1), .val (.long (own_mix (va + (-7046029254386353131 : Int64)))), .second, .val (.long (own_mix ((va + (-7046029254386353131 : Int64)) + (-7046029254386353131 : Int64)))), .second] [(.long (2 : Int64)), (.long va), (.long (own_unmix (own_mix ((va + (-7046029254386353131 : Int64)) + (-7046029254386353131 : Int64)))))]))
  refine own_Fin.go (fun t k => XS.lloadN X6.here hx rfl (hb hby at_49) rfl k) ?_
  show own_Fin _ _ _ _ _ _ _ (T6.setTop (mkF m 50 #[.val (.long va), .second, .val (.long (-7046029254386353131 : Int64)), .second, .val (.ref b1), .val (.long (own_mix (va + (-7046029254386353131 : Int64)))), .second, .val (.long (own_mix ((va + (-7046029254386353131 : Int64)) + (-7046029254386353131 : Int64)))), .second] [(.long (-7046029254386353131 : Int64)), (.long (2 : Int64)), (.long va), (.long (own_unmix (own_mix ((va + (-7046029254386353131 : Int64)) + (-7046029254386353131 : Int64)))))]))
  refine own_Fin.go (fun t k => XS.lmul X6.here hx rfl (hb hby at_50) rfl k) ?_
  show own_Fin _ _ _ _ _ _ _ (T6.setTop (mkF m 51 #[.val (.long va), .second, .val (.long (-7046029254386353131 : Int64)), .second, .val (.ref b1), .val (.long (own_mix (va + (-7046029254386353131 : Int64)))), .second, .val (.long (own_mix ((va + (-7046029254386353131 : Int64)) + (-7046029254386353131 : Int64)))), .second] [(.long ((2 : Int64) * (-7046029254386353131 : Int64))), (.long va), (.long (own_unmix (own_mix ((va + (-7046029254386353131 : Int64)) + (-7046029254386353131 : Int64)))))]))
  rw [show ((2 : Int64) * (-7046029254386353131 : Int64)) = (4354685564936845354 : Int64) from by decide +kernel]
  show own_Fin _ _ _ _ _ _ _ (T6.setTop (mkF m 51 #[.val (.long va), .second, .val (.long (-7046029254386353131 : Int64)), .second, .val (.ref b1), .val (.long (own_mix (va + (-7046029254386353131 : Int64)))), .second, .val (.long (own_mix ((va + (-7046029254386353131 : Int64)) + (-7046029254386353131 : Int64)))), .second] [(.long (4354685564936845354 : Int64)), (.long va), (.long (own_unmix (own_mix ((va + (-7046029254386353131 : Int64)) + (-7046029254386353131 : Int64)))))]))
  refine own_Fin.go (fun t k => XS.ladd X6.here hx rfl (hb hby at_51) rfl k) ?_
  show own_Fin _ _ _ _ _ _ _ (T6.setTop (mkF m 52 #[.val (.long va), .second, .val (.long (-7046029254386353131 : Int64)), .second, .val (.ref b1), .val (.long (own_mix (va + (-7046029254386353131 : Int64)))), .second, .val (.long (own_mix ((va + (-7046029254386353131 : Int64)) + (-7046029254386353131 : Int64)))), .second] [(.long (va + (4354685564936845354 : Int64))), (.long (own_unmix (own_mix ((va + (-7046029254386353131 : Int64)) + (-7046029254386353131 : Int64)))))]))
  refine own_Fin.go (fun t k => XS.lcmp X6.here hx rfl (hb hby at_52) rfl k) ?_
  show own_Fin _ _ _ _ _ _ _ (T6.setTop (mkF m 53 #[.val (.long va), .second, .val (.long (-7046029254386353131 : Int64)), .second, .val (.ref b1), .val (.long (own_mix (va + (-7046029254386353131 : Int64)))), .second, .val (.long (own_mix ((va + (-7046029254386353131 : Int64)) + (-7046029254386353131 : Int64)))), .second] [(.int (lcmpW (own_unmix (own_mix ((va + (-7046029254386353131 : Int64)) + (-7046029254386353131 : Int64)))) (va + (4354685564936845354 : Int64))))]))
  have hc53 : (own_unmix (own_mix ((va + (-7046029254386353131 : Int64)) + (-7046029254386353131 : Int64)))) = (va + (4354685564936845354 : Int64)) := (own_plain _).trans (own_two _)
  refine own_Fin.go (fun t k => XS.ifNo X6.here hx rfl (hb hby at_53) rfl (Jvm.Free.XT.ll_ne_f hc53) k) ?_
  show own_Fin _ _ _ _ _ _ _ (T6.setTop (mkF m 56 #[.val (.long va), .second, .val (.long (-7046029254386353131 : Int64)), .second, .val (.ref b1), .val (.long (own_mix (va + (-7046029254386353131 : Int64)))), .second, .val (.long (own_mix ((va + (-7046029254386353131 : Int64)) + (-7046029254386353131 : Int64)))), .second] []))
  refine own_Fin.go (fun t k => XS.iconst X6.here hx rfl (hb hby at_56) k) ?_
  show own_Fin _ _ _ _ _ _ _ (T6.setTop (mkF m 57 #[.val (.long va), .second, .val (.long (-7046029254386353131 : Int64)), .second, .val (.ref b1), .val (.long (own_mix (va + (-7046029254386353131 : Int64)))), .second, .val (.long (own_mix ((va + (-7046029254386353131 : Int64)) + (-7046029254386353131 : Int64)))), .second] [(.int (1 : Int32))]))
  refine own_Fin.go (fun t k => XS.goto X6.here hx rfl (pc0 := 57) (pc' := 61) rfl (hb hby at_57) (by decide) (by decide) k) ?_
  show own_Fin _ _ _ _ _ _ _ (T6.setTop (mkF m 61 #[.val (.long va), .second, .val (.long (-7046029254386353131 : Int64)), .second, .val (.ref b1), .val (.long (own_mix (va + (-7046029254386353131 : Int64)))), .second, .val (.long (own_mix ((va + (-7046029254386353131 : Int64)) + (-7046029254386353131 : Int64)))), .second] [(.int (1 : Int32))]))
  refine own_retN X6 hx (t := .boolean) (w := (1 : Int32)) Bd.returns (by simp) (hb hby at_61) Bd.notSynchronized rfl (by decide) (by decide) ?_
  rw [e6]
  exact ⟨rfl, N6⟩
set_option maxRecDepth 65536 in
set_option maxHeartbeats 40000000 in
theorem comes_1 {Post : Tables → Env → Array Value → State → Outcome → State → Prop} (hpost : ∀ tb e args s v u, (limb_1_1.after args s (.returned v) u = true ∧ limb_1_2.after args s (.returned v) u = true ∧ True) → FrameEnd s (.returned v) u (Jvm.fieldLocs frame_1_writes args s ++ Jvm.arrayLocs frame_1_arrays args s ++ Jvm.staticLocs frame_1_statics s) 16 128 → Post tb e args s (.returned v) u) :
    ArmFor flags0 classFile x code maxLocals ret World_1 tables_1 room_1 Calls_1 rest_1 Pre_1 Post := by
  intro l hfl _ _ p e ha hc hk s m args below hf hA hF happ hP
  obtain ⟨hcalls, hrest, hpre⟩ := hP
  obtain ⟨-, -, -, hnamed, -, -, -, hat⟩ := (Spec.applies_iff hf).mp happ
  obtain ⟨hg, hn⟩ := and_e (Cond.before_iff.mp (show (Jvm.Cond.and given_1 narrow_1).before args s = true from hpre))
  obtain ⟨hg0, hr0⟩ := and_e hg
  obtain ⟨w0, rfl⟩ : ∃ w0 : Value, args = #[w0] := by
    have hs : args.size = 1 := by simpa [Cond.value, given_1] using hg0
    obtain ⟨L⟩ := args
    match L, hs with
    | [w0], _ => exact ⟨w0, rfl⟩
  have hw := fun d (hd : d ∈ tables_1) => atoms_spec (ws := Jvm.Cond.code x code maxLocals ret :: tables_1) hat d (List.mem_cons_of_mem _ hd)
  have hfit : Fit s := fun {y c} hc i hi => by
    obtain ⟨ha, rfl⟩ := Array.getElem?_eq_some_iff.mp hc
    have q := List.all_eq_true.mp ((Array.all_eq_true_iff_forall_mem.mp hF) _ (Array.getElem_mem ha)) i (List.mem_range.mpr hi)
    simpa [Array.getElem?_eq_getElem hi] using q
  obtain ⟨i0, ei0⟩ := isL_v hr0
  obtain rfl : w0 = (.long i0) := Option.some.inj ei0
  obtain ⟨n, o, h1, h2, h3, _, L, rfl, ⟨rfl, N⟩, hq⟩ := own_rm_law l s _ hw tables_1 i0  s.heap s.heap.size (Nat.le_refl _)  p e ha hc hk s m _ below hf ((Spec.applies_iff_loose hf).mp happ).1 ⟨rfl, State.Warmed39.refl s, rfl⟩ trivial
  refine ⟨n, _, h1, h2, h3, hpost _ _ _ _ _ _ ⟨Cond.after_iff.mpr rfl, Cond.after_iff.mpr (eq_i res_at (Term.int_eval (1)) rfl), trivial⟩ ⟨hq.1, hq.2.1, (hq.2.2.sift fun y hy => Or.inr (N y hy)).mono (by decide) (by decide)⟩⟩
theorem main_1_1 : Claimed_1_1 := comes_1 fun _ _ _ _ _ _ h hF => ⟨h.1, hF⟩
theorem main_1_2 : Claimed_1_2 := comes_1 fun _ _ _ _ _ _ h hF => ⟨h.2.1, hF⟩
end Jvm.Pilot.@@N@@
namespace Jvm.Pilot.@@N@@
open Jvm Jvm.ClassFile Sem Op Lib Jvm.Free Jvm.Stand Jvm.Pilot.@@N@@.Jvm.D
/-! MADE BY PROGRAM (witnessworld.py) out of the Statement's table words and the real class files: 9 classes; the members and pool entries that the words name. The judged class is class 1, her method 1. -/
namespace start1
open Jvm.ClassFile
def u (s : String) : CpInfo := .utf8 (stringToUtf16 s)
/-- a pool by its gaps: so many unusable entries, then the entry; so many at the end -/
def gap : Nat → List CpInfo → List CpInfo
  | 0, r => r
  | n + 1, r => .unusable :: gap n r
def poolList (es : List (Nat × CpInfo)) (last : Nat) : List CpInfo := es.foldr (fun e r => gap e.1 (e.2 :: r)) (gap last [])
def pool (es : List (Nat × CpInfo)) (last : Nat) : Array CpInfo := ⟨poolList es last⟩
def fileOf (pool : Array CpInfo) (this : Nat) (attrs : Array Attribute := #[]) (ms : Array MethodInfo := #[]) (fl : Nat := 33) (sup : Nat := 0) (ifs : Array Nat := #[]) (fds : Array FieldInfo := #[]) : ClassFile where
  minorVersion := 0
  majorVersion := 65
  constantPool := pool
  accessFlags := fl
  thisClass := this
  superClass := sup
  interfaces := ifs
  fields := fds
  methods := ms
  attributes := attrs
def plain (name : String) (sup : Option ClassId) : Class where
  name := name
  kind := .ordinary
  loader := none
  accessFlags := 33
  super := sup
  interfaces := #[]
  cf := none
  fields := #[]
  methods := #[]
  instanceTypes := #[]
  staticTypes := #[]
  resolved := #[]
  callSites := []
  init := .initialized
  statics := none
  mirror := none

def pool0 : Array CpInfo := pool [(5, u "<init>"), (0, u "()V"), (1, .class_ 10), (1, u "java/lang/Object")] 113

def k0c0 : Code := { maxStack := 0, maxLocals := 1, code := object_method_1_code, exceptionTable := #[], attributes := #[] }
def k0m0 : Method := { name := "<init>", desc := "()V", sig := { parameters := [], returnType := none }, accessFlags := 1, code := some k0c0 }
/-- java/lang/Object -/
def k0 : Class := { plain "java/lang/Object" none with
  accessFlags := 33
  interfaces := #[]
  cf := some (fileOf pool0 8 #[] #[{ accessFlags := 1, nameIndex := 5, descriptorIndex := 6, attributes := #[] }] 33 0 #[] #[])
  fields := #[]
  methods := #[k0m0]
  instanceTypes := #[]
  staticTypes := #[]
  resolved := Array.replicate 124 none
  statics := none }

def pool1 : Array CpInfo := pool [(2, .class_ 4), (1, u "java/lang/Object"), (0, u "<init>"), (0, u "()V"), (0, .long 11400714819323198485), (1, .class_ 10), (0, u "com/example/latebound/latebound/analysis/simulation/Draws"), (0, .methodref 9 12), (0, .nameAndType 5 13), (0, u "(J)V"), (0, .methodref 9 15), (0, .nameAndType 16 17), (0, u "next"), (0, u "()J"), (0, .methodref 19 20), (0, .class_ 21), (0, .nameAndType 22 23), (0, u "com/example/latebound/latebound/analysis/simulation/DrawsNextPinLaw"), (0, u "unmix"), (0, u "(J)J"), (0, .long 2), (1, .long 10723151780598845931), (1, .methodref 19 29), (0, .nameAndType 30 23), (0, u "inverse"), (0, .long 13787848793156543929), (3, u "law"), (0, u "(J)Z")] 3

def k1m0 : Method := { name := "<init>", desc := "()V", sig := { parameters := [], returnType := none }, accessFlags := 1, code := none }
def k1c1 : Code := { maxStack := 8, maxLocals := 9, code := code, exceptionTable := #[], attributes := #[] }
def k1m1 : Method := { name := "law", desc := "(J)Z", sig := { parameters := [.long], returnType := some .boolean }, accessFlags := 9, code := some k1c1 }
def k1c2 : Code := { maxStack := 8, maxLocals := 4, code := method_3_code, exceptionTable := #[], attributes := #[] }
def k1m2 : Method := { name := "inverse", desc := "(J)J", sig := { parameters := [.long], returnType := some .long }, accessFlags := 10, code := some k1c2 }
def k1c3 : Code := { maxStack := 5, maxLocals := 4, code := method_4_code, exceptionTable := #[], attributes := #[] }
def k1m3 : Method := { name := "unmix", desc := "(J)J", sig := { parameters := [.long], returnType := some .long }, accessFlags := 10, code := some k1c3 }
/-- com/example/latebound/latebound/analysis/simulation/DrawsNextPinLaw -/
def k1 : Class := { plain "com/example/latebound/latebound/analysis/simulation/DrawsNextPinLaw" (some 0) with
  accessFlags := 49
  interfaces := #[]
  cf := some (fileOf pool1 19 #[] #[{ accessFlags := 1, nameIndex := 5, descriptorIndex := 6, attributes := #[] }, { accessFlags := 9, nameIndex := 35, descriptorIndex := 36, attributes := #[] }, { accessFlags := 10, nameIndex := 30, descriptorIndex := 23, attributes := #[] }, { accessFlags := 10, nameIndex := 22, descriptorIndex := 23, attributes := #[] }] 49 2 #[] #[])
  fields := #[]
  methods := #[k1m0, k1m1, k1m2, k1m3]
  instanceTypes := #[]
  staticTypes := #[]
  resolved := Array.replicate 40 none
  statics := none }

def pool2 : Array CpInfo := pool [(1, .methodref 2 3), (0, .class_ 4), (0, .nameAndType 5 6), (0, u "java/lang/Object"), (0, u "<init>"), (0, u "()V"), (0, .fieldref 8 9), (0, .class_ 10), (0, .nameAndType 11 12), (0, u "com/example/latebound/latebound/analysis/simulation/Draws"), (0, u "state"), (0, u "J"), (0, .long 11400714819323198485), (3, u "(J)V"), (0, .long 13787848793156543929), (1, .long 10723151780598845931), (12, u "next"), (0, u "()J"), (4, u "GAMMA")] 25

def k2c0 : Code := { maxStack := 3, maxLocals := 3, code := prog_17_method_1_code, exceptionTable := #[], attributes := #[] }
def k2m0 : Method := { name := "<init>", desc := "(J)V", sig := { parameters := [.long], returnType := none }, accessFlags := 0, code := some k2c0 }
def k2c1 : Code := { maxStack := 5, maxLocals := 3, code := prog_17_method_3_code, exceptionTable := #[], attributes := #[] }
def k2m1 : Method := { name := "next", desc := "()J", sig := { parameters := [], returnType := some .long }, accessFlags := 0, code := some k2c1 }
/-- com/example/latebound/latebound/analysis/simulation/Draws -/
def k2 : Class := { plain "com/example/latebound/latebound/analysis/simulation/Draws" (some 0) with
  accessFlags := 48
  interfaces := #[]
  cf := some (fileOf pool2 8 #[] #[{ accessFlags := 0, nameIndex := 5, descriptorIndex := 17, attributes := #[] }, { accessFlags := 0, nameIndex := 33, descriptorIndex := 34, attributes := #[] }] 48 2 #[] #[{ accessFlags := 26, nameIndex := 39, descriptorIndex := 12, attributes := #[] }, { accessFlags := 2, nameIndex := 11, descriptorIndex := 12, attributes := #[] }])
  fields := #[{ name := "GAMMA", type := .long, accessFlags := 26, slot := 0, constantValue := 0 }, { name := "state", type := .long, accessFlags := 2, slot := 0, constantValue := 0 }]
  methods := #[k2m0, k2m1]
  instanceTypes := #[.long]
  staticTypes := #[.long]
  resolved := Array.replicate 65 none
  statics := none }

def pool3 : Array CpInfo := pool [(1, u "java/lang/Cloneable"), (0, .class_ 1), (0, u "java/lang/Object"), (0, .class_ 3)] 3

/-- java/lang/Cloneable -/
def k3 : Class := { plain "java/lang/Cloneable" (some 0) with
  accessFlags := 1537
  interfaces := #[]
  cf := some (fileOf pool3 2 #[] #[] 1537 4 #[] #[])
  fields := #[]
  methods := #[]
  instanceTypes := #[]
  staticTypes := #[]
  resolved := Array.replicate 8 none
  statics := none }

def pool4 : Array CpInfo := pool [(1, u "java/io/Serializable"), (0, .class_ 1), (0, u "java/lang/Object"), (0, .class_ 3)] 3

/-- java/io/Serializable -/
def k4 : Class := { plain "java/io/Serializable" (some 0) with
  accessFlags := 1537
  interfaces := #[]
  cf := some (fileOf pool4 2 #[] #[] 1537 4 #[] #[])
  fields := #[]
  methods := #[]
  instanceTypes := #[]
  staticTypes := #[]
  resolved := Array.replicate 8 none
  statics := none }

/-- the primitive byte -/
def k5 : Class := { plain "byte" none with kind := .primitive 'B', accessFlags := 0x411 }
/-- [B -/
def k6 : Class := { plain "[B" (some 0) with kind := .array 5 .byte, interfaces := #[3, 4], accessFlags := 1041 }

/-- the primitive int -/
def k7 : Class := { plain "int" none with kind := .primitive 'I', accessFlags := 0x411 }
/-- [I -/
def k8 : Class := { plain "[I" (some 0) with kind := .array 7 .int, interfaces := #[3, 4], accessFlags := 1041 }

def heap : Heap := #[]
def classes : Array Class := #[k0, k1, k2, k3, k4, k5, k6, k7, k8]
def interned : List (Array UInt16 × Addr) := []
def slotsUsed : Nat := 0
def theMethod : MethodId := ⟨1, 1⟩
def args0 : Array Value := #[.long 5]
def aboutOver (below : List Frame) : State where
  vm := { classes := classes, interned := interned.toArray }
  heap := heap
  slotsUsed := slotsUsed
  threads := #[{ frames := .invoking theMethod args0 :: below }]
def below0 : List Frame := [.native { method := ⟨0, 0⟩, args := #[] }]
def about1 : State := aboutOver below0
def p0 : Program := .bare "" "" ""
def e0 : Env := launch0.env 0 0 0
theorem w_frames : about1.frames = Frame.invoking theMethod args0 :: below0 := rfl
set_option maxRecDepth 65536 in
theorem w_args : argsFit about1.vm theMethod args0 = true := by decide +kernel
set_option maxRecDepth 65536 in
theorem w_heap : heapFits about1 = true := by decide +kernel
set_option maxRecDepth 65536 in
theorem w_runnable : about1.curStatus? = some .runnable := by decide +kernel
set_option maxRecDepth 65536 in
theorem w_alone : about1.alone = true := by decide +kernel
set_option maxRecDepth 65536 in
theorem w_named : about1.methodNamed? x = some theMethod := by decide +kernel
set_option maxRecDepth 65536 in
theorem w_hears : about1.hears theMethod below0 = true := by decide +kernel
set_option maxRecDepth 65536 in
theorem w_ripe : about1.ripe theMethod args0 below0 = true := by decide +kernel
theorem w_running : about1.status = .running := rfl
set_option maxRecDepth 65536 in
theorem w_room : about1.hasRoom e0.platform room_1 = true :=
  launch0.hasRoom_least _ room_1 (by decide +kernel) (by decide +kernel) (by decide +kernel) (by decide +kernel) (by decide +kernel) (by decide +kernel)
theorem allAtoms_all (ts : List Jvm.Cond) (a : Array Jvm.Value) (st : Jvm.State) : (allAtoms ts).before a st = ts.all (fun c => c.before a st) := by
  induction ts with
  | nil => rfl
  | cons c t ih =>
    show (Jvm.Cond.and c (allAtoms t)).before a st = _
    rw [Jvm.Cond.before_and, ih, List.all_cons]
def words1 : List Jvm.Cond := Jvm.Cond.code x code maxLocals ret :: tables_1
/-- a 'code' word, met by the world's own term for the bytes: nothing is compared byte by byte -/
theorem code_word {y : MethodName} {bytes : ByteArray} {mx : Nat} {rt : Option FieldType} {a : Array Value} {s : State} {m : MethodId} {meth : Method} {c : Code} (h1 : s.methodNamed? y = some m) (h2 : s.vm.method? m = some meth) (h3 : meth.code = some c) (h4 : c.code = bytes)
    (h5 : (c.maxLocals == mx && c.exceptionTable.isEmpty && decide (c.maxStack ≤ mostOperands) && decide (meth.sig.returnType = rt) && !meth.locks && decide (parseMethodDescriptor y.desc = some meth.sig)) = true) : (Jvm.Cond.code y bytes mx rt).before a s = true := by
  simp only [Bool.and_eq_true, beq_iff_eq, Bool.not_eq_true', decide_eq_true_eq] at h5
  obtain ⟨⟨⟨⟨⟨g1, g2⟩, g3⟩, g4⟩, g5⟩, g6⟩ := h5
  simp [Cond.before, Cond.holds, Cond.value, h1, h2, h3, h4, g1, g2, g3, g4, g5, g6]
def isCode : Jvm.Cond → Bool
  | .code _ _ _ _ => true
  | _ => false
theorem all_split {L : List Jvm.Cond} {P : Jvm.Cond → Bool} (h1 : L.all (fun c => isCode c || P c) = true) (h2 : ∀ c ∈ L.filter isCode, P c = true) : L.all P = true := by
  refine List.all_eq_true.mpr fun c hc => ?_
  have h := List.all_eq_true.mp h1 c hc
  rcases Bool.eq_false_or_eq_true (isCode c) with hi | hi
  · exact h2 c (List.mem_filter.mpr ⟨hc, hi⟩)
  · simpa [hi] using h
set_option maxRecDepth 65536 in
theorem w_c0 : (Jvm.Cond.code x code maxLocals ret).before args0 about1 = true := code_word (m := ⟨1, 1⟩) (meth := k1m1) (c := k1c1) (by decide +kernel) rfl rfl rfl (by decide +kernel)
set_option maxRecDepth 65536 in
theorem w_c1 : (Jvm.Cond.code ({ cls := "com/example/latebound/latebound/analysis/simulation/Draws", name := "<init>", desc := "(J)V" } : Jvm.MethodName) prog_17_method_1_code (3 : Nat) (Option.none : Option Jvm.ClassFile.FieldType)).before args0 about1 = true := code_word (m := ⟨2, 0⟩) (meth := k2m0) (c := k2c0) (by decide +kernel) rfl rfl rfl (by decide +kernel)
set_option maxRecDepth 65536 in
theorem w_c2 : (Jvm.Cond.code ({ cls := "java/lang/Object", name := "<init>", desc := "()V" } : Jvm.MethodName) object_method_1_code (1 : Nat) (Option.none : Option Jvm.ClassFile.FieldType)).before args0 about1 = true := code_word (m := ⟨0, 0⟩) (meth := k0m0) (c := k0c0) (by decide +kernel) rfl rfl rfl (by decide +kernel)
set_option maxRecDepth 65536 in
theorem w_c3 : (Jvm.Cond.code ({ cls := "com/example/latebound/latebound/analysis/simulation/Draws", name := "next", desc := "()J" } : Jvm.MethodName) prog_17_method_3_code (3 : Nat) (Option.some Jvm.ClassFile.FieldType.long)).before args0 about1 = true := code_word (m := ⟨2, 1⟩) (meth := k2m1) (c := k2c1) (by decide +kernel) rfl rfl rfl (by decide +kernel)
set_option maxRecDepth 65536 in
theorem w_c4 : (Jvm.Cond.code ({ cls := "com/example/latebound/latebound/analysis/simulation/DrawsNextPinLaw", name := "unmix", desc := "(J)J" } : Jvm.MethodName) method_4_code (4 : Nat) (Option.some Jvm.ClassFile.FieldType.long)).before args0 about1 = true := code_word (m := ⟨1, 3⟩) (meth := k1m3) (c := k1c3) (by decide +kernel) rfl rfl rfl (by decide +kernel)
set_option maxRecDepth 65536 in
theorem w_c5 : (Jvm.Cond.code ({ cls := "com/example/latebound/latebound/analysis/simulation/DrawsNextPinLaw", name := "inverse", desc := "(J)J" } : Jvm.MethodName) method_3_code (4 : Nat) (Option.some Jvm.ClassFile.FieldType.long)).before args0 about1 = true := code_word (m := ⟨1, 2⟩) (meth := k1m2) (c := k1c2) (by decide +kernel) rfl rfl rfl (by decide +kernel)
def codes1 : List Jvm.Cond := [Jvm.Cond.code x code maxLocals ret, Jvm.Cond.code ({ cls := "com/example/latebound/latebound/analysis/simulation/Draws", name := "<init>", desc := "(J)V" } : Jvm.MethodName) prog_17_method_1_code (3 : Nat) (Option.none : Option Jvm.ClassFile.FieldType), Jvm.Cond.code ({ cls := "java/lang/Object", name := "<init>", desc := "()V" } : Jvm.MethodName) object_method_1_code (1 : Nat) (Option.none : Option Jvm.ClassFile.FieldType), Jvm.Cond.code ({ cls := "com/example/latebound/latebound/analysis/simulation/Draws", name := "next", desc := "()J" } : Jvm.MethodName) prog_17_method_3_code (3 : Nat) (Option.some Jvm.ClassFile.FieldType.long), Jvm.Cond.code ({ cls := "com/example/latebound/latebound/analysis/simulation/DrawsNextPinLaw", name := "unmix", desc := "(J)J" } : Jvm.MethodName) method_4_code (4 : Nat) (Option.some Jvm.ClassFile.FieldType.long), Jvm.Cond.code ({ cls := "com/example/latebound/latebound/analysis/simulation/DrawsNextPinLaw", name := "inverse", desc := "(J)J" } : Jvm.MethodName) method_3_code (4 : Nat) (Option.some Jvm.ClassFile.FieldType.long)]
set_option maxRecDepth 65536 in
theorem codes_eq : words1.filter isCode = codes1 := rfl
theorem w_codes : ∀ c ∈ words1.filter isCode, c.before args0 about1 = true := by
  rw [codes_eq]
  intro c hc
  simp only [codes1, List.mem_cons, List.not_mem_nil, or_false] at hc
  rcases hc with rfl | rfl | rfl | rfl | rfl | rfl
  · exact w_c0
  · exact w_c1
  · exact w_c2
  · exact w_c3
  · exact w_c4
  · exact w_c5
set_option maxRecDepth 65536 in
theorem w_t1 : (words1.take 24).all (fun c => isCode c || c.before args0 about1) = true := by decide +kernel
set_option maxRecDepth 65536 in
theorem w_t2 : (words1.drop 24).all (fun c => isCode c || c.before args0 about1) = true := by decide +kernel
theorem w_tables : (allAtoms (Jvm.Cond.code x code maxLocals ret :: tables_1)).before args0 about1 = true := by
  rw [allAtoms_all]
  show words1.all (fun c => c.before args0 about1) = true
  refine all_split ?_ w_codes
  rw [← List.take_append_drop 24 words1, List.all_append, w_t1, w_t2]
  rfl
set_option maxRecDepth 65536 in
theorem w_case : (Jvm.Cond.and given_1 narrow_1).before args0 about1 = true := by decide +kernel
theorem w_applies : (headSpec (Jvm.Cond.code x code maxLocals ret :: tables_1) room_1).applies x e0.platform about1 = true :=
  (Spec.applies_iff w_frames).mpr ⟨w_running, w_runnable, w_alone, w_named, w_hears, w_ripe, w_room, w_tables⟩
theorem atStart : AtStart classFile x code maxLocals ret World_1 tables_1 room_1 Calls_1 rest_1 Pre_1 launch0 p0 e0 about1 theMethod args0 below0 :=
  ⟨lists_1, trivial, launch0.admits_env _ _ _, launch0.least_env, fairChoices_fair.cas, fairChoices_fair.clock, w_frames, w_args, w_heap, w_applies, trivial, trivial, w_case⟩
end start1
theorem witness_1 : WitnessClaimed_1 := ⟨start1.p0, start1.e0, start1.about1, start1.theMethod, start1.args0, start1.below0, start1.atStart⟩
end Jvm.Pilot.@@N@@
