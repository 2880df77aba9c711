import JvmDerived
import JvmDerived.Pilot.@@N@@Statement
import JvmDerived.Pilot.@@N@@Code
set_option linter.unusedVariables false
set_option linter.unusedSimpArgs false
namespace Jvm.RoadKit
open Sem ClassFile Op Lib Jvm.Stand Jvm.Free Jvm.LawKit
section New
variable {p : Program} {l : Launch} {e : Env} {R : Room} {s : State} {m : MethodId} {args : Array Value} {below : List Frame} {meth : Method} {c : Code} {T : State} {locs : List Loc} {cells slots : Nat}
theorem retI (X : Stand p l e R s m args below meth c T locs cells slots) (hx : p.tables.exec = Jvm.exec) {pc : Nat} {Ls : Array Slot} {z : Int32} {rest : List Value} (hret : meth.sig.returnType = some .int) (hd : decode c.code pc = .ok (.ireturn, 1)) {fs : List Frame}
    (hl : ∀ (f : JFrame) (acts : List Action), f.method = m → f.locked = none → f.entered = [] → (doReturn e (T.setTop f) acts (some (.int z))).1 = T.setFrames fs) : Steps p.tables e below (T.setTop (mkF m pc Ls (.int z :: rest))) (T.setFrames fs) := by
  have hm' : T.vm.method? m = some meth := X.method'
  have hn : narrow .int (.int z) = .int z := rfl
  show Steps p.tables e below (T.setTop { method := m, pc := pc, locals := Ls, stack := _ :: rest, locked := none }) _
  jvm_step X.here [X.here.top, hx, hd, hm', hret, hn]
  first | (intro acts; rw [hl _ acts rfl rfl rfl]) | rw [hl _ _ rfl rfl rfl]
  exact Steps.refl _
end New
end Jvm.RoadKit
namespace Jvm.Pilot.@@N@@
open Jvm Jvm.ClassFile Sem Op Lib Jvm.Free Jvm.Stand Jvm.LawKit Jvm.RoadKit Bundle Jvm.Pilot.@@N@@.Jvm.D
/-! The walk in a goal-driven form: own_Fin says that the run from A comes to an end at which Q holds, within the frame. -/
def own_Fin (p : Program) (e : Env) (below : List Frame) (s : State) (Q : Option Value → Heap → List Loc → Prop) (kc ks : Nat) (A : State) : Prop :=
  ∃ s₂ o, Steps p.tables e below A s₂ ∧ s₂.status = .running ∧ Ended s₂ below o ∧ ∃ v L, o = .returned v ∧ Q v s₂.heap L ∧ FrameEnd s o s₂ L kc ks
theorem own_Fin.go {p : Program} {e : Env} {below : List Frame} {s : State} {Q : Option Value → Heap → List Loc → Prop} {kc ks : Nat} {A B : State} (st : ∀ t, Steps p.tables e below B t → Steps p.tables e below A t) (h : own_Fin p e below s Q kc ks B) : own_Fin p e below s Q kc ks A := by
  obtain ⟨s₂, o, h1, h2⟩ := h
  exact ⟨s₂, o, st _ h1, h2⟩
section OwnRet
variable {p : Program} {l : Launch} {e : Env} {R : Room} {s : State} {m : MethodId} {args : Array Value} {below : List Frame} {meth : Method} {c : Code} {T : State} {locs : List Loc} {cells slots : Nat} {Q : Option Value → Heap → List Loc → Prop} {kc ks : Nat}
theorem own_end (X : Stand p l e R s m args below meth c T locs cells slots) {v : Option Value} (hv : meth.sig.returnType = none → v = none) (hlocks : meth.locks = false) (hc : cells ≤ kc) (hs : slots ≤ ks) {A : State}
    (h : ∀ fs : List Frame, (∀ (f : JFrame) (acts : List Action), f.method = m → f.locked = none → f.entered = [] → (doReturn e (T.setTop f) acts v).1 = T.setFrames fs) → Steps p.tables e below A (T.setFrames fs)) (hQ : Q v T.heap locs) : own_Fin p e below s Q kc ks A := by
  obtain ⟨fs, hr, hrun, hended, hW, hsame⟩ := X.leave (v := v) hv hlocks
  exact ⟨_, _, h fs hr, hrun, hended, _, _, rfl, hQ, ⟨_, rfl⟩, hW, hsame.mono hc hs⟩
theorem own_retN (X : Stand p l e R s m args below meth c T locs cells slots) (hx : p.tables.exec = Jvm.exec) {pc : Nat} {Ls : Array Slot} {z w : Int32} {t : FieldType} {rest : List Value} (hret : meth.sig.returnType = some t) (ht : t = .boolean ∨ t = .byte ∨ t = .char ∨ t = .short)
    (hd : decode c.code pc = .ok (.ireturn, 1)) (hlocks : meth.locks = false) (hw : nar t z = w) (hc : cells ≤ kc) (hs : slots ≤ ks) (hQ : Q (some (.int w)) T.heap locs) : own_Fin p e below s Q kc ks (T.setTop (mkF m pc Ls (.int z :: rest))) :=
  own_end X (v := some (.int w)) (fun h => by rw [hret] at h; cases h) hlocks hc hs (fun fs hr => retN X hx hret ht hd (by rw [hw]; exact hr)) hQ
theorem own_retI (X : Stand p l e R s m args below meth c T locs cells slots) (hx : p.tables.exec = Jvm.exec) {pc : Nat} {Ls : Array Slot} {z : Int32} {rest : List Value} (hret : meth.sig.returnType = some .int)
    (hd : decode c.code pc = .ok (.ireturn, 1)) (hlocks : meth.locks = false) (hc : cells ≤ kc) (hs : slots ≤ ks) (hQ : Q (some (.int z)) T.heap locs) : own_Fin p e below s Q kc ks (T.setTop (mkF m pc Ls (.int z :: rest))) :=
  own_end X (v := some (.int z)) (fun h => by rw [hret] at h; cases h) hlocks hc hs (fun fs hr => retI X hx hret hd hr) hQ
theorem own_retJ (X : Stand p l e R s m args below meth c T locs cells slots) (hx : p.tables.exec = Jvm.exec) {pc : Nat} {Ls : Array Slot} {z : Int64} (hret : meth.sig.returnType = some .long)
    (hd : decode c.code pc = .ok (.lreturn, 1)) (hlocks : meth.locks = false) (hc : cells ≤ kc) (hs : slots ≤ ks) (hQ : Q (some (.long z)) T.heap locs) : own_Fin p e below s Q kc ks (T.setTop (mkF m pc Ls [.long z])) :=
  own_end X (v := some (.long z)) (fun h => by rw [hret] at h; cases h) hlocks hc hs (fun fs hr => X.lreturnOut hx hret hd hr) hQ
theorem own_retA (X : Stand p l e R s m args below meth c T locs cells slots) (hx : p.tables.exec = Jvm.exec) {pc : Nat} {Ls : Array Slot} {a : Addr} {t : FieldType} {rest : List Value} (hret : meth.sig.returnType = some t) (ht : t.isReference = true)
    (hd : decode c.code pc = .ok (.areturn, 1)) (hlocks : meth.locks = false) (hc : cells ≤ kc) (hs : slots ≤ ks) (hQ : Q (some (.ref a)) T.heap locs) : own_Fin p e below s Q kc ks (T.setTop (mkF m pc Ls (.ref a :: rest))) :=
  own_end X (v := some (.ref a)) (fun h => by rw [hret] at h; cases h) hlocks hc hs (fun fs hr => retOut X hx hret (by cases t <;> first | rfl | (simp [FieldType.isReference] at ht)) (Or.inr (Or.inr (Or.inr (Or.inr ⟨rfl, ht, rfl⟩)))) hd hr) hQ
theorem own_ret0 (X : Stand p l e R s m args below meth c T locs cells slots) (hx : p.tables.exec = Jvm.exec) {pc : Nat} {Ls : Array Slot} (hret : meth.sig.returnType = none)
    (hd : decode c.code pc = .ok (.return_, 1)) (hlocks : meth.locks = false) (hc : cells ≤ kc) (hs : slots ≤ ks) (hQ : Q none T.heap locs) : own_Fin p e below s Q kc ks (T.setTop (mkF m pc Ls [])) :=
  own_end X (v := none) (fun _ => rfl) hlocks hc hs (fun fs hr => X.returnOut hx hret hd hr) hQ
end OwnRet
theorem own_selp {s : State} {args args' : Array Value} {C : String} {y w : MethodName} (hw : (Jvm.Cond.selects C w w).before args s = true) (hcls : w.cls = y.cls) (hpriv : s.PrivateAt y) (hinst : (Jvm.Cond.instanceMethod y).before args s = true) (hy : y.cls ≠ "java/lang/invoke/MethodHandle" ∧ y.cls ≠ "java/lang/invoke/VarHandle") : (Jvm.Cond.selects y.cls y y).before args' s = true := by
  obtain ⟨c2, r2, m2, -, -, q3, -, kP, hkP, hkPi⟩ := Cond.selects_spec hw
  exact selects_self_of_private (by rw [← hcls]; exact findClass_of_methodNamed q3) hkP hkPi hpriv hinst hy
theorem own_eqInt {args : Array Value} {first s : State} {o : Option Outcome} {idx : List Nat} {t : Term} {n : Int32} (h : (Jvm.Cond.eq t (.int n)).value args first o s idx = some true) : t.eval args first o idx s = some (.int n) := by
  cases ht : t.eval args first o idx s with
  | none => simp [Jvm.Cond.value, ht] at h
  | some x => cases x <;> simp [Jvm.Cond.value, ht, Term.eval] at h ⊢; exact h
theorem own_fld {args : Array Value} {first s : State} {o : Option Outcome} {idx : List Nat} {t : Term} {C n d : String} {a : Addr} {v : Value} (ht : t.eval args first o idx s = some (.ref a)) (h : (Term.field t C n d).eval args first o idx s = some v) : s.fieldOf? a C n d = some v := by
  rw [← fld_at ht]; exact h
def own_exp (c : Int32) : Int32 := if c < 128 then (if 32 < c then (if c = 60 then 0 else if c = 62 then 0 else if c = 34 then 0 else if c = 123 then 0 else if c = 125 then 0 else if c = 124 then 0 else if c = 94 then 0 else if c = 96 then 0 else if c = 92 then 0 else 1) else 0) else 1
def own_vs : List Value := (List.range 128).map (fun i => .int (own_exp i.toInt32))
theorem own_getD (k : Nat) (d : Value) (h : k < 128) : own_vs.getD k d = .int (own_exp k.toInt32) := by
  simp [own_vs, List.getD, h]
theorem own_at {j : Int32} (d : Value) (h0 : ¬ j < 0) (h1 : j < 128) : own_vs.getD j.toNatClampNeg d = .int (own_exp j) := by
  have q := (back32 h0).1
  have e0 : (0 : Int32).toInt = 0 := rfl
  have e1 : (128 : Int32).toInt = 128 := rfl
  rw [Int32.lt_iff_toInt_lt] at h0 h1
  have h2 : j.toNatClampNeg < 128 := by simp only [Int32.toNatClampNeg]; omega
  rw [own_getD _ d h2, q]
theorem own_01 : ∀ c : Int32, own_exp c = 0 ∨ own_exp c = 1 := by
  intro c
  unfold own_exp
  repeat' split
  all_goals first | exact Or.inl rfl | exact Or.inr rfl
theorem own_len {args : Array Value} {first s : State} {o : Option Outcome} {idx : List Nat} {t : Term} {a : Addr} {cell : Cell} {n : Int32} (ht : t.eval args first o idx s = some (.ref a)) (ha : s.arrayAt? a = some cell) (h : (Term.length t).eval args first o idx s = some (.int n)) : cell.slots.size < 2 ^ 31 ∧ cell.slots.size.toInt32 = n := by
  simp only [Term.eval, ht, ha, Option.bind_eq_bind, Option.bind_some] at h
  split at h
  · exact ⟨by assumption, by injection h with h; injection h⟩
  · cases h
theorem own_n (k : Nat) (v : Int32) (m : Int32) (hk : k ≤ 31) (hm : m.toBitVec.toNat = 2 ^ k - 1) : ¬ (v &&& m) < 0 := by
  have h := c_mask v m k hk hm
  have e0 : (0 : Int32).toInt = 0 := rfl
  have h2 : (0 : Int) ≤ v.toInt % ((2 ^ k : Nat) : Int) := Int.emod_nonneg _ (by have := Nat.two_pow_pos k; omega)
  rw [Int32.lt_iff_toInt_lt]; omega
theorem own_any {args : Array Value} {first s : State} {o : Option Outcome} {idx idx' : List Nat} {C n d : String} {v : Value} (h : (Term.static C n d).eval args first o idx s = some v) : (Term.static C n d).eval args first o idx' s = some v := by
  simpa [Term.eval] using h
theorem own_nat (k : Nat) (h : k < 128) : ¬ k.toInt32 < 0 ∧ k.toInt32 < 128 ∧ k.toInt32.toNatClampNeg = k := by
  have q : k.toInt32.toInt = k := len_toInt (by omega)
  have e0 : (0 : Int32).toInt = 0 := rfl
  have e1 : (128 : Int32).toInt = 128 := rfl
  refine ⟨?_, ?_, ?_⟩
  · rw [Int32.lt_iff_toInt_lt]; omega
  · rw [Int32.lt_iff_toInt_lt]; omega
  · simp only [Int32.toNatClampNeg, q]; omega
theorem own_dmay_0 : decode prog_31_method_5_code 0 = .ok (.iload_n 0, 1) := by decide +kernel
theorem own_dmay_1 : decode prog_31_method_5_code 1 = .ok (.getstatic 47, 3) := by decide +kernel
theorem own_dmay_4 : decode prog_31_method_5_code 4 = .ok (.arraylength, 1) := by decide +kernel
theorem own_dmay_5 : decode prog_31_method_5_code 5 = .ok (.if_icmp .ge 11, 3) := by decide +kernel
theorem own_dmay_8 : decode prog_31_method_5_code 8 = .ok (.getstatic 47, 3) := by decide +kernel
theorem own_dmay_11 : decode prog_31_method_5_code 11 = .ok (.iload_n 0, 1) := by decide +kernel
theorem own_dmay_12 : decode prog_31_method_5_code 12 = .ok (.baload, 1) := by decide +kernel
theorem own_dmay_13 : decode prog_31_method_5_code 13 = .ok (.ifCond .eq 7, 3) := by decide +kernel
theorem own_dmay_16 : decode prog_31_method_5_code 16 = .ok (.iconst 1, 1) := by decide +kernel
theorem own_dmay_17 : decode prog_31_method_5_code 17 = .ok (.goto 4, 3) := by decide +kernel
theorem own_dmay_20 : decode prog_31_method_5_code 20 = .ok (.iconst 0, 1) := by decide +kernel
theorem own_dmay_21 : decode prog_31_method_5_code 21 = .ok (.ireturn, 1) := by decide +kernel
theorem own_pn0 : plainName "com/example/starlace/starlace/io/Iris" = true := by first | (simp [plainName, overriddenIn]; done) | decide +kernel
theorem own_ef_may (m : MethodId) (va : Int32) : entryFrame m #[(.int va)] 1 = mkF m 0 #[.val (.int va)] [] := by first | (simp [entryFrame, mkF, argsToLocals, Value.category]; done) | rfl
def own_Q_may (Z : State) (va : Int32) (ot : Addr) (kt : ClassId) (h0 : Heap) (n0 : Nat) (v : Option Value) (h : Heap) (L : List Loc) : Prop := v = some (.int (own_exp va)) ∧ Fr n0 L ∧ h = h0
set_option maxRecDepth 65536 in
set_option maxHeartbeats 40000000 in
theorem own_rm_may (l : Launch) (Z : State) (a0 : Array Value) (hw : ∀ d ∈ tables_1, d.before a0 Z = true) (ws : List Jvm.Cond) (va : Int32) (ot : Addr) (kt : ClassId) (h0 : Heap) (n0 : Nat) (Z0 : n0 ≤ h0.size) (S_ASCII_IN_IRI : Sta Z h0 "com/example/starlace/starlace/io/Iris" "ASCII_IN_IRI" "[Z" (.ref ot)) (V_ot : Arv Z h0 ot kt .boolean (128 : Int32) own_vs (.int (0 : Int32))) (hn : ¬ va < 0) :
    MetFree l (⟨"com/example/starlace/starlace/io/Iris", "mayHold", "(I)Z"⟩ : MethodName) (head1 (Jvm.Cond.code (⟨"com/example/starlace/starlace/io/Iris", "mayHold", "(I)Z"⟩ : MethodName) prog_31_method_5_code 1 (some .boolean) :: ws) ({ frames := 0, cells := 0, slots := 0, locals := 0 } : Room)) (fun a U => a = #[(.int va)] ∧ Z.Warmed39 U.vm ∧ U.heap = h0) (fun _ _ _ _ _ => True) (fun _ U o U' => ∃ v L, o = .returned v ∧ own_Q_may Z va ot kt h0 n0 v U'.heap L ∧ FrameEnd U o U' L ({ frames := 0, cells := 0, slots := 0, locals := 0 } : Room).cells ({ frames := 0, cells := 0, slots := 0, locals := 0 } : Room).slots) := by
  refine MetFree.of_bodySF (plainFor_of_name own_pn0) hisR ?_
  intro p e s m args below meth c s₁ Bd hml0 hP hK
  obtain ⟨rfl, hZ, hh⟩ := hP
  have hx := Bd.exec
  have hby := Bd.bytes
  have hml : c.maxLocals = 1 := hml0
  have hown : s.vm.findClass "com/example/starlace/starlace/io/Iris" = some m.cls := findClass_of_methodNamed Bd.named
  have hnm := (name_of_methodNamed Bd.named Bd.method).1
  have X0 : Stand p l e ({ frames := 0, cells := 0, slots := 0, locals := 0 } : Room) s m #[(.int va)] below meth c s₁ [] 0 0 := Stand.of_body Bd
  have e0 : s₁.heap = h0 := by rw [← hh, Bd.state]; rfl
  have N0 := Fr.nil n0
  show own_Fin p e below s (own_Q_may Z va ot kt h0 n0) ({ frames := 0, cells := 0, slots := 0, locals := 0 } : Room).cells ({ frames := 0, cells := 0, slots := 0, locals := 0 } : Room).slots (s₁.setTop (entryFrame m #[(.int va)] 1))
  refine own_Fin.go (fun t k => castTop (own_ef_may m va) k) ?_
  refine own_Fin.go (fun t k => XS.iloadN X0.here hx rfl (hb hby own_dmay_0) rfl k) ?_
  show own_Fin _ _ _ _ _ _ _ (s₁.setTop (mkF m 1 #[.val (.int va)] [(.int va)]))
  obtain ⟨T1, X1, e1, st1⟩ := getS2 X0 hx hZ hown (host := "") (Or.inl (hw _ (List.mem_of_getElem? (i := 5) rfl))) Via.refl e0 S_ASCII_IN_IRI (g := (mkF m 1 #[.val (.int va)] [(.int va)])) rfl (hb hby own_dmay_1)
  refine own_Fin.go st1 ?_
  show own_Fin _ _ _ _ _ _ _ (T1.setTop (mkF m 4 #[.val (.int va)] [(.ref ot), (.int va)]))
  obtain ⟨cl2, Ar2, -, S2, N2l, -, -⟩ := (id V_ot)
  refine own_Fin.go (fun t k => X1.arraylength hx (by rw [e1]; exact Ar2.1) (State.isArrayOf_alike hZ.alike Ar2.2.1) (g := (mkF m 4 #[.val (.int va)] [(.ref ot), (.int va)])) rfl rfl (hb hby own_dmay_4) t k) ?_
  rw [len_of S2 N2l]
  show own_Fin _ _ _ _ _ _ _ (T1.setTop (mkF m 5 #[.val (.int va)] [(.int (128 : Int32)), (.int va)]))
  by_cases hc5 : va < (128 : Int32)
  · refine own_Fin.go (fun t k => XS.icmpNo X1.here hx rfl (hb hby own_dmay_5) rfl (Jvm.Free.XT.ii_ge_f hc5) k) ?_
    show own_Fin _ _ _ _ _ _ _ (T1.setTop (mkF m 8 #[.val (.int va)] []))
    obtain ⟨T3, X3, e3, st3⟩ := getS2 X1 hx hZ hown (host := "") (Or.inl (hw _ (List.mem_of_getElem? (i := 5) rfl))) Via.refl e1 S_ASCII_IN_IRI (g := (mkF m 8 #[.val (.int va)] [])) rfl (hb hby own_dmay_8)
    refine own_Fin.go st3 ?_
    show own_Fin _ _ _ _ _ _ _ (T3.setTop (mkF m 11 #[.val (.int va)] [(.ref ot)]))
    refine own_Fin.go (fun t k => XS.iloadN X3.here hx rfl (hb hby own_dmay_11) rfl k) ?_
    show own_Fin _ _ _ _ _ _ _ (T3.setTop (mkF m 12 #[.val (.int va)] [(.int va), (.ref ot)]))
    obtain ⟨cl4, Ar4, q4, S4, N4l, H4, G4⟩ := (id V_ot)
    have hin4 : ¬ (va < 0 ∨ cl4.slots.size ≤ (va).toNatClampNeg) := inb_of S4 ⟨hn, hc5⟩
    have hat4 : cl4.slots[(va).toNatClampNeg]? = some (.int (own_exp va)) := Has.at H4 hin4 (own_at _ hn hc5)
    refine own_Fin.go (fun t k => X3.baloadBooleans hx (j := va) (v := (.int (own_exp va))) (by rw [e3]; exact Ar4.1) (State.isArrayOf_alike hZ.alike Ar4.2.1) Ar4.2.2 hin4 hat4 (g := (mkF m 12 #[.val (.int va)] [(.int va), (.ref ot)])) rfl rfl (hb hby own_dmay_12) t k) ?_
    show own_Fin _ _ _ _ _ _ _ (T3.setTop (mkF m 13 #[.val (.int va)] [(.int (own_exp va))]))
    by_cases hc13 : (own_exp va) = (0 : Int32)
    · refine own_Fin.go (fun t k => XS.ifYes X3.here hx rfl (pc0 := 13) (pc' := 20) rfl (hb hby own_dmay_13) rfl (Jvm.Free.XT.i0_eq_t hc13) (by decide) (by decide) k) ?_
      show own_Fin _ _ _ _ _ _ _ (T3.setTop (mkF m 20 #[.val (.int va)] []))
      refine own_Fin.go (fun t k => XS.iconst X3.here hx rfl (hb hby own_dmay_20) k) ?_
      show own_Fin _ _ _ _ _ _ _ (T3.setTop (mkF m 21 #[.val (.int va)] [(.int (0 : Int32))]))
      refine own_retN X3 hx (t := .boolean) (w := (0 : Int32)) Bd.returns (by simp) (hb hby own_dmay_21) Bd.notSynchronized rfl (by decide) (by decide) ?_
      rw [e3]
      exact ⟨by rw [hc13], N0, rfl⟩
    · refine own_Fin.go (fun t k => XS.ifNo X3.here hx rfl (hb hby own_dmay_13) rfl (Jvm.Free.XT.i0_eq_f hc13) k) ?_
      show own_Fin _ _ _ _ _ _ _ (T3.setTop (mkF m 16 #[.val (.int va)] []))
      refine own_Fin.go (fun t k => XS.iconst X3.here hx rfl (hb hby own_dmay_16) k) ?_
      show own_Fin _ _ _ _ _ _ _ (T3.setTop (mkF m 17 #[.val (.int va)] [(.int (1 : Int32))]))
      refine own_Fin.go (fun t k => XS.goto X3.here hx rfl (pc0 := 17) (pc' := 21) rfl (hb hby own_dmay_17) (by decide) (by decide) k) ?_
      show own_Fin _ _ _ _ _ _ _ (T3.setTop (mkF m 21 #[.val (.int va)] [(.int (1 : Int32))]))
      refine own_retN X3 hx (t := .boolean) (w := (1 : Int32)) Bd.returns (by simp) (hb hby own_dmay_21) Bd.notSynchronized rfl (by decide) (by decide) ?_
      rw [e3]
      exact ⟨by rw [(own_01 va).resolve_left hc13], N0, rfl⟩
  · refine own_Fin.go (fun t k => XS.icmpYes X1.here hx rfl (pc0 := 5) (pc' := 16) rfl (hb hby own_dmay_5) rfl (Jvm.Free.XT.ii_ge_t hc5) (by decide) (by decide) k) ?_
    show own_Fin _ _ _ _ _ _ _ (T1.setTop (mkF m 16 #[.val (.int va)] []))
    refine own_Fin.go (fun t k => XS.iconst X1.here hx rfl (hb hby own_dmay_16) k) ?_
    show own_Fin _ _ _ _ _ _ _ (T1.setTop (mkF m 17 #[.val (.int va)] [(.int (1 : Int32))]))
    refine own_Fin.go (fun t k => XS.goto X1.here hx rfl (pc0 := 17) (pc' := 21) rfl (hb hby own_dmay_17) (by decide) (by decide) k) ?_
    show own_Fin _ _ _ _ _ _ _ (T1.setTop (mkF m 21 #[.val (.int va)] [(.int (1 : Int32))]))
    refine own_retN X1 hx (t := .boolean) (w := (1 : Int32)) Bd.returns (by simp) (hb hby own_dmay_21) Bd.notSynchronized rfl (by decide) (by decide) ?_
    rw [e1]
    exact ⟨by simp only [own_exp, if_neg hc5], N0, rfl⟩
theorem own_dex_0 : decode method_2_code 0 = .ok (.iload_n 0, 1) := by decide +kernel
theorem own_dex_1 : decode method_2_code 1 = .ok (.sipush 128, 3) := by decide +kernel
theorem own_dex_4 : decode method_2_code 4 = .ok (.if_icmp .lt 5, 3) := by decide +kernel
theorem own_dex_7 : decode method_2_code 7 = .ok (.iconst 1, 1) := by decide +kernel
theorem own_dex_8 : decode method_2_code 8 = .ok (.ireturn, 1) := by decide +kernel
theorem own_dex_9 : decode method_2_code 9 = .ok (.iload_n 0, 1) := by decide +kernel
theorem own_dex_10 : decode method_2_code 10 = .ok (.bipush 32, 2) := by decide +kernel
theorem own_dex_12 : decode method_2_code 12 = .ok (.if_icmp .gt 5, 3) := by decide +kernel
theorem own_dex_15 : decode method_2_code 15 = .ok (.iconst 0, 1) := by decide +kernel
theorem own_dex_16 : decode method_2_code 16 = .ok (.ireturn, 1) := by decide +kernel
theorem own_dex_17 : decode method_2_code 17 = .ok (.iload_n 0, 1) := by decide +kernel
theorem own_dex_18 : decode method_2_code 18 = .ok (.bipush 60, 2) := by decide +kernel
theorem own_dex_20 : decode method_2_code 20 = .ok (.if_icmp .eq 27, 3) := by decide +kernel
theorem own_dex_23 : decode method_2_code 23 = .ok (.iload_n 0, 1) := by decide +kernel
theorem own_dex_24 : decode method_2_code 24 = .ok (.bipush 62, 2) := by decide +kernel
theorem own_dex_26 : decode method_2_code 26 = .ok (.if_icmp .eq 21, 3) := by decide +kernel
theorem own_dex_29 : decode method_2_code 29 = .ok (.iload_n 0, 1) := by decide +kernel
theorem own_dex_30 : decode method_2_code 30 = .ok (.bipush 34, 2) := by decide +kernel
theorem own_dex_32 : decode method_2_code 32 = .ok (.if_icmp .eq 15, 3) := by decide +kernel
theorem own_dex_35 : decode method_2_code 35 = .ok (.iload_n 0, 1) := by decide +kernel
theorem own_dex_36 : decode method_2_code 36 = .ok (.bipush 123, 2) := by decide +kernel
theorem own_dex_38 : decode method_2_code 38 = .ok (.if_icmp .eq 9, 3) := by decide +kernel
theorem own_dex_41 : decode method_2_code 41 = .ok (.iload_n 0, 1) := by decide +kernel
theorem own_dex_42 : decode method_2_code 42 = .ok (.bipush 125, 2) := by decide +kernel
theorem own_dex_44 : decode method_2_code 44 = .ok (.if_icmp .ne 5, 3) := by decide +kernel
theorem own_dex_47 : decode method_2_code 47 = .ok (.iconst 0, 1) := by decide +kernel
theorem own_dex_48 : decode method_2_code 48 = .ok (.ireturn, 1) := by decide +kernel
theorem own_dex_49 : decode method_2_code 49 = .ok (.iload_n 0, 1) := by decide +kernel
theorem own_dex_50 : decode method_2_code 50 = .ok (.bipush 124, 2) := by decide +kernel
theorem own_dex_52 : decode method_2_code 52 = .ok (.if_icmp .eq 21, 3) := by decide +kernel
theorem own_dex_55 : decode method_2_code 55 = .ok (.iload_n 0, 1) := by decide +kernel
theorem own_dex_56 : decode method_2_code 56 = .ok (.bipush 94, 2) := by decide +kernel
theorem own_dex_58 : decode method_2_code 58 = .ok (.if_icmp .eq 15, 3) := by decide +kernel
theorem own_dex_61 : decode method_2_code 61 = .ok (.iload_n 0, 1) := by decide +kernel
theorem own_dex_62 : decode method_2_code 62 = .ok (.bipush 96, 2) := by decide +kernel
theorem own_dex_64 : decode method_2_code 64 = .ok (.if_icmp .eq 9, 3) := by decide +kernel
theorem own_dex_67 : decode method_2_code 67 = .ok (.iload_n 0, 1) := by decide +kernel
theorem own_dex_68 : decode method_2_code 68 = .ok (.bipush 92, 2) := by decide +kernel
theorem own_dex_70 : decode method_2_code 70 = .ok (.if_icmp .ne 5, 3) := by decide +kernel
theorem own_dex_73 : decode method_2_code 73 = .ok (.iconst 0, 1) := by decide +kernel
theorem own_dex_74 : decode method_2_code 74 = .ok (.ireturn, 1) := by decide +kernel
theorem own_dex_75 : decode method_2_code 75 = .ok (.iconst 1, 1) := by decide +kernel
theorem own_dex_76 : decode method_2_code 76 = .ok (.ireturn, 1) := by decide +kernel
theorem own_pn1 : plainName "com/example/starlace/starlace/io/IrisMayHoldPinLaw" = true := by first | (simp [plainName, overriddenIn]; done) | decide +kernel
theorem own_ef_ex (m : MethodId) (va : Int32) : entryFrame m #[(.int va)] 1 = mkF m 0 #[.val (.int va)] [] := by first | (simp [entryFrame, mkF, argsToLocals, Value.category]; done) | rfl
def own_Q_ex (Z : State) (va : Int32) (h0 : Heap) (n0 : Nat) (v : Option Value) (h : Heap) (L : List Loc) : Prop := v = some (.int (own_exp va)) ∧ Fr n0 L ∧ h = h0
set_option maxRecDepth 65536 in
set_option maxHeartbeats 40000000 in
theorem own_rm_ex (l : Launch) (Z : State) (a0 : Array Value) (hw : ∀ d ∈ tables_1, d.before a0 Z = true) (ws : List Jvm.Cond) (va : Int32) (h0 : Heap) (n0 : Nat) (Z0 : n0 ≤ h0.size) :
    MetFree l (⟨"com/example/starlace/starlace/io/IrisMayHoldPinLaw", "expected", "(I)Z"⟩ : MethodName) (head1 (Jvm.Cond.code (⟨"com/example/starlace/starlace/io/IrisMayHoldPinLaw", "expected", "(I)Z"⟩ : MethodName) method_2_code 1 (some .boolean) :: ws) ({ frames := 0, cells := 0, slots := 0, locals := 0 } : Room)) (fun a U => a = #[(.int va)] ∧ Z.Warmed39 U.vm ∧ U.heap = h0) (fun _ _ _ _ _ => True) (fun _ U o U' => ∃ v L, o = .returned v ∧ own_Q_ex Z va h0 n0 v U'.heap L ∧ FrameEnd U o U' L ({ frames := 0, cells := 0, slots := 0, locals := 0 } : Room).cells ({ frames := 0, cells := 0, slots := 0, locals := 0 } : Room).slots) := by
  refine MetFree.of_bodySF (plainFor_of_name own_pn1) hisR ?_
  intro p e s m args below meth c s₁ Bd hml0 hP hK
  obtain ⟨rfl, hZ, hh⟩ := hP
  have hx := Bd.exec
  have hby := Bd.bytes
  have hml : c.maxLocals = 1 := hml0
  have hown : s.vm.findClass "com/example/starlace/starlace/io/IrisMayHoldPinLaw" = some m.cls := findClass_of_methodNamed Bd.named
  have hnm := (name_of_methodNamed Bd.named Bd.method).1
  have X0 : Stand p l e ({ frames := 0, cells := 0, slots := 0, locals := 0 } : Room) s m #[(.int va)] below meth c s₁ [] 0 0 := Stand.of_body Bd
  have e0 : s₁.heap = h0 := by rw [← hh, Bd.state]; rfl
  have N0 := Fr.nil n0
  show own_Fin p e below s (own_Q_ex Z va h0 n0) ({ frames := 0, cells := 0, slots := 0, locals := 0 } : Room).cells ({ frames := 0, cells := 0, slots := 0, locals := 0 } : Room).slots (s₁.setTop (entryFrame m #[(.int va)] 1))
  refine own_Fin.go (fun t k => castTop (own_ef_ex m va) k) ?_
  refine own_Fin.go (fun t k => XS.iloadN X0.here hx rfl (hb hby own_dex_0) rfl k) ?_
  show own_Fin _ _ _ _ _ _ _ (s₁.setTop (mkF m 1 #[.val (.int va)] [(.int va)]))
  refine own_Fin.go (fun t k => XS.sipush X0.here hx rfl (hb hby own_dex_1) k) ?_
  show own_Fin _ _ _ _ _ _ _ (s₁.setTop (mkF m 4 #[.val (.int va)] [(.int (128 : Int32)), (.int va)]))
  by_cases hc4 : va < (128 : Int32)
  · refine own_Fin.go (fun t k => XS.icmpYes X0.here hx rfl (pc0 := 4) (pc' := 9) rfl (hb hby own_dex_4) rfl (Jvm.Free.XT.ii_lt_t hc4) (by decide) (by decide) k) ?_
    show own_Fin _ _ _ _ _ _ _ (s₁.setTop (mkF m 9 #[.val (.int va)] []))
    refine own_Fin.go (fun t k => XS.iloadN X0.here hx rfl (hb hby own_dex_9) rfl k) ?_
    show own_Fin _ _ _ _ _ _ _ (s₁.setTop (mkF m 10 #[.val (.int va)] [(.int va)]))
    refine own_Fin.go (fun t k => XS.bipush X0.here hx rfl (hb hby own_dex_10) k) ?_
    show own_Fin _ _ _ _ _ _ _ (s₁.setTop (mkF m 12 #[.val (.int va)] [(.int (32 : Int32)), (.int va)]))
    by_cases hc12 : (32 : Int32) < va
    · refine own_Fin.go (fun t k => XS.icmpYes X0.here hx rfl (pc0 := 12) (pc' := 17) rfl (hb hby own_dex_12) rfl (Jvm.Free.XT.ii_gt_t hc12) (by decide) (by decide) k) ?_
      show own_Fin _ _ _ _ _ _ _ (s₁.setTop (mkF m 17 #[.val (.int va)] []))
      refine own_Fin.go (fun t k => XS.iloadN X0.here hx rfl (hb hby own_dex_17) rfl k) ?_
      show own_Fin _ _ _ _ _ _ _ (s₁.setTop (mkF m 18 #[.val (.int va)] [(.int va)]))
      refine own_Fin.go (fun t k => XS.bipush X0.here hx rfl (hb hby own_dex_18) k) ?_
      show own_Fin _ _ _ _ _ _ _ (s₁.setTop (mkF m 20 #[.val (.int va)] [(.int (60 : Int32)), (.int va)]))
      by_cases hc20 : va = (60 : Int32)
      · refine own_Fin.go (fun t k => XS.icmpYes X0.here hx rfl (pc0 := 20) (pc' := 47) rfl (hb hby own_dex_20) rfl (Jvm.Free.XT.ii_eq_t hc20) (by decide) (by decide) k) ?_
        show own_Fin _ _ _ _ _ _ _ (s₁.setTop (mkF m 47 #[.val (.int va)] []))
        refine own_Fin.go (fun t k => XS.iconst X0.here hx rfl (hb hby own_dex_47) k) ?_
        show own_Fin _ _ _ _ _ _ _ (s₁.setTop (mkF m 48 #[.val (.int va)] [(.int (0 : Int32))]))
        refine own_retN X0 hx (t := .boolean) (w := (0 : Int32)) Bd.returns (by simp) (hb hby own_dex_48) Bd.notSynchronized rfl (by decide) (by decide) ?_
        rw [e0]
        exact ⟨by simp only [own_exp, if_pos hc4, if_pos hc12, if_pos hc20], N0, rfl⟩
      · refine own_Fin.go (fun t k => XS.icmpNo X0.here hx rfl (hb hby own_dex_20) rfl (Jvm.Free.XT.ii_eq_f hc20) k) ?_
        show own_Fin _ _ _ _ _ _ _ (s₁.setTop (mkF m 23 #[.val (.int va)] []))
        refine own_Fin.go (fun t k => XS.iloadN X0.here hx rfl (hb hby own_dex_23) rfl k) ?_
        show own_Fin _ _ _ _ _ _ _ (s₁.setTop (mkF m 24 #[.val (.int va)] [(.int va)]))
        refine own_Fin.go (fun t k => XS.bipush X0.here hx rfl (hb hby own_dex_24) k) ?_
        show own_Fin _ _ _ _ _ _ _ (s₁.setTop (mkF m 26 #[.val (.int va)] [(.int (62 : Int32)), (.int va)]))
        by_cases hc26 : va = (62 : Int32)
        · refine own_Fin.go (fun t k => XS.icmpYes X0.here hx rfl (pc0 := 26) (pc' := 47) rfl (hb hby own_dex_26) rfl (Jvm.Free.XT.ii_eq_t hc26) (by decide) (by decide) k) ?_
          show own_Fin _ _ _ _ _ _ _ (s₁.setTop (mkF m 47 #[.val (.int va)] []))
          refine own_Fin.go (fun t k => XS.iconst X0.here hx rfl (hb hby own_dex_47) k) ?_
          show own_Fin _ _ _ _ _ _ _ (s₁.setTop (mkF m 48 #[.val (.int va)] [(.int (0 : Int32))]))
          refine own_retN X0 hx (t := .boolean) (w := (0 : Int32)) Bd.returns (by simp) (hb hby own_dex_48) Bd.notSynchronized rfl (by decide) (by decide) ?_
          rw [e0]
          exact ⟨by simp only [own_exp, if_pos hc4, if_pos hc12, if_neg hc20, if_pos hc26], N0, rfl⟩
        · refine own_Fin.go (fun t k => XS.icmpNo X0.here hx rfl (hb hby own_dex_26) rfl (Jvm.Free.XT.ii_eq_f hc26) k) ?_
          show own_Fin _ _ _ _ _ _ _ (s₁.setTop (mkF m 29 #[.val (.int va)] []))
          refine own_Fin.go (fun t k => XS.iloadN X0.here hx rfl (hb hby own_dex_29) rfl k) ?_
          show own_Fin _ _ _ _ _ _ _ (s₁.setTop (mkF m 30 #[.val (.int va)] [(.int va)]))
          refine own_Fin.go (fun t k => XS.bipush X0.here hx rfl (hb hby own_dex_30) k) ?_
          show own_Fin _ _ _ _ _ _ _ (s₁.setTop (mkF m 32 #[.val (.int va)] [(.int (34 : Int32)), (.int va)]))
          by_cases hc32 : va = (34 : Int32)
          · refine own_Fin.go (fun t k => XS.icmpYes X0.here hx rfl (pc0 := 32) (pc' := 47) rfl (hb hby own_dex_32) rfl (Jvm.Free.XT.ii_eq_t hc32) (by decide) (by decide) k) ?_
            show own_Fin _ _ _ _ _ _ _ (s₁.setTop (mkF m 47 #[.val (.int va)] []))
            refine own_Fin.go (fun t k => XS.iconst X0.here hx rfl (hb hby own_dex_47) k) ?_
            show own_Fin _ _ _ _ _ _ _ (s₁.setTop (mkF m 48 #[.val (.int va)] [(.int (0 : Int32))]))
            refine own_retN X0 hx (t := .boolean) (w := (0 : Int32)) Bd.returns (by simp) (hb hby own_dex_48) Bd.notSynchronized rfl (by decide) (by decide) ?_
            rw [e0]
            exact ⟨by simp only [own_exp, if_pos hc4, if_pos hc12, if_neg hc20, if_neg hc26, if_pos hc32], N0, rfl⟩
          · refine own_Fin.go (fun t k => XS.icmpNo X0.here hx rfl (hb hby own_dex_32) rfl (Jvm.Free.XT.ii_eq_f hc32) k) ?_
            show own_Fin _ _ _ _ _ _ _ (s₁.setTop (mkF m 35 #[.val (.int va)] []))
            refine own_Fin.go (fun t k => XS.iloadN X0.here hx rfl (hb hby own_dex_35) rfl k) ?_
            show own_Fin _ _ _ _ _ _ _ (s₁.setTop (mkF m 36 #[.val (.int va)] [(.int va)]))
            refine own_Fin.go (fun t k => XS.bipush X0.here hx rfl (hb hby own_dex_36) k) ?_
            show own_Fin _ _ _ _ _ _ _ (s₁.setTop (mkF m 38 #[.val (.int va)] [(.int (123 : Int32)), (.int va)]))
            by_cases hc38 : va = (123 : Int32)
            · refine own_Fin.go (fun t k => XS.icmpYes X0.here hx rfl (pc0 := 38) (pc' := 47) rfl (hb hby own_dex_38) rfl (Jvm.Free.XT.ii_eq_t hc38) (by decide) (by decide) k) ?_
              show own_Fin _ _ _ _ _ _ _ (s₁.setTop (mkF m 47 #[.val (.int va)] []))
              refine own_Fin.go (fun t k => XS.iconst X0.here hx rfl (hb hby own_dex_47) k) ?_
              show own_Fin _ _ _ _ _ _ _ (s₁.setTop (mkF m 48 #[.val (.int va)] [(.int (0 : Int32))]))
              refine own_retN X0 hx (t := .boolean) (w := (0 : Int32)) Bd.returns (by simp) (hb hby own_dex_48) Bd.notSynchronized rfl (by decide) (by decide) ?_
              rw [e0]
              exact ⟨by simp only [own_exp, if_pos hc4, if_pos hc12, if_neg hc20, if_neg hc26, if_neg hc32, if_pos hc38], N0, rfl⟩
            · refine own_Fin.go (fun t k => XS.icmpNo X0.here hx rfl (hb hby own_dex_38) rfl (Jvm.Free.XT.ii_eq_f hc38) k) ?_
              show own_Fin _ _ _ _ _ _ _ (s₁.setTop (mkF m 41 #[.val (.int va)] []))
              refine own_Fin.go (fun t k => XS.iloadN X0.here hx rfl (hb hby own_dex_41) rfl k) ?_
              show own_Fin _ _ _ _ _ _ _ (s₁.setTop (mkF m 42 #[.val (.int va)] [(.int va)]))
              refine own_Fin.go (fun t k => XS.bipush X0.here hx rfl (hb hby own_dex_42) k) ?_
              show own_Fin _ _ _ _ _ _ _ (s₁.setTop (mkF m 44 #[.val (.int va)] [(.int (125 : Int32)), (.int va)]))
              by_cases hc44 : va = (125 : Int32)
              · refine own_Fin.go (fun t k => XS.icmpNo X0.here hx rfl (hb hby own_dex_44) rfl (Jvm.Free.XT.ii_ne_f hc44) k) ?_
                show own_Fin _ _ _ _ _ _ _ (s₁.setTop (mkF m 47 #[.val (.int va)] []))
                refine own_Fin.go (fun t k => XS.iconst X0.here hx rfl (hb hby own_dex_47) k) ?_
                show own_Fin _ _ _ _ _ _ _ (s₁.setTop (mkF m 48 #[.val (.int va)] [(.int (0 : Int32))]))
                refine own_retN X0 hx (t := .boolean) (w := (0 : Int32)) Bd.returns (by simp) (hb hby own_dex_48) Bd.notSynchronized rfl (by decide) (by decide) ?_
                rw [e0]
                exact ⟨by simp only [own_exp, if_pos hc4, if_pos hc12, if_neg hc20, if_neg hc26, if_neg hc32, if_neg hc38, if_pos hc44], N0, rfl⟩
              · refine own_Fin.go (fun t k => XS.icmpYes X0.here hx rfl (pc0 := 44) (pc' := 49) rfl (hb hby own_dex_44) rfl (Jvm.Free.XT.ii_ne_t hc44) (by decide) (by decide) k) ?_
                show own_Fin _ _ _ _ _ _ _ (s₁.setTop (mkF m 49 #[.val (.int va)] []))
                refine own_Fin.go (fun t k => XS.iloadN X0.here hx rfl (hb hby own_dex_49) rfl k) ?_
                show own_Fin _ _ _ _ _ _ _ (s₁.setTop (mkF m 50 #[.val (.int va)] [(.int va)]))
                refine own_Fin.go (fun t k => XS.bipush X0.here hx rfl (hb hby own_dex_50) k) ?_
                show own_Fin _ _ _ _ _ _ _ (s₁.setTop (mkF m 52 #[.val (.int va)] [(.int (124 : Int32)), (.int va)]))
                by_cases hc52 : va = (124 : Int32)
                · refine own_Fin.go (fun t k => XS.icmpYes X0.here hx rfl (pc0 := 52) (pc' := 73) rfl (hb hby own_dex_52) rfl (Jvm.Free.XT.ii_eq_t hc52) (by decide) (by decide) k) ?_
                  show own_Fin _ _ _ _ _ _ _ (s₁.setTop (mkF m 73 #[.val (.int va)] []))
                  refine own_Fin.go (fun t k => XS.iconst X0.here hx rfl (hb hby own_dex_73) k) ?_
                  show own_Fin _ _ _ _ _ _ _ (s₁.setTop (mkF m 74 #[.val (.int va)] [(.int (0 : Int32))]))
                  refine own_retN X0 hx (t := .boolean) (w := (0 : Int32)) Bd.returns (by simp) (hb hby own_dex_74) Bd.notSynchronized rfl (by decide) (by decide) ?_
                  rw [e0]
                  exact ⟨by simp only [own_exp, if_pos hc4, if_pos hc12, if_neg hc20, if_neg hc26, if_neg hc32, if_neg hc38, if_neg hc44, if_pos hc52], N0, rfl⟩
                · refine own_Fin.go (fun t k => XS.icmpNo X0.here hx rfl (hb hby own_dex_52) rfl (Jvm.Free.XT.ii_eq_f hc52) k) ?_
                  show own_Fin _ _ _ _ _ _ _ (s₁.setTop (mkF m 55 #[.val (.int va)] []))
                  refine own_Fin.go (fun t k => XS.iloadN X0.here hx rfl (hb hby own_dex_55) rfl k) ?_
                  show own_Fin _ _ _ _ _ _ _ (s₁.setTop (mkF m 56 #[.val (.int va)] [(.int va)]))
                  refine own_Fin.go (fun t k => XS.bipush X0.here hx rfl (hb hby own_dex_56) k) ?_
                  show own_Fin _ _ _ _ _ _ _ (s₁.setTop (mkF m 58 #[.val (.int va)] [(.int (94 : Int32)), (.int va)]))
                  by_cases hc58 : va = (94 : Int32)
                  · refine own_Fin.go (fun t k => XS.icmpYes X0.here hx rfl (pc0 := 58) (pc' := 73) rfl (hb hby own_dex_58) rfl (Jvm.Free.XT.ii_eq_t hc58) (by decide) (by decide) k) ?_
                    show own_Fin _ _ _ _ _ _ _ (s₁.setTop (mkF m 73 #[.val (.int va)] []))
                    refine own_Fin.go (fun t k => XS.iconst X0.here hx rfl (hb hby own_dex_73) k) ?_
                    show own_Fin _ _ _ _ _ _ _ (s₁.setTop (mkF m 74 #[.val (.int va)] [(.int (0 : Int32))]))
                    refine own_retN X0 hx (t := .boolean) (w := (0 : Int32)) Bd.returns (by simp) (hb hby own_dex_74) Bd.notSynchronized rfl (by decide) (by decide) ?_
                    rw [e0]
                    exact ⟨by simp only [own_exp, if_pos hc4, if_pos hc12, if_neg hc20, if_neg hc26, if_neg hc32, if_neg hc38, if_neg hc44, if_neg hc52, if_pos hc58], N0, rfl⟩
                  · refine own_Fin.go (fun t k => XS.icmpNo X0.here hx rfl (hb hby own_dex_58) rfl (Jvm.Free.XT.ii_eq_f hc58) k) ?_
                    show own_Fin _ _ _ _ _ _ _ (s₁.setTop (mkF m 61 #[.val (.int va)] []))
                    refine own_Fin.go (fun t k => XS.iloadN X0.here hx rfl (hb hby own_dex_61) rfl k) ?_
                    show own_Fin _ _ _ _ _ _ _ (s₁.setTop (mkF m 62 #[.val (.int va)] [(.int va)]))
                    refine own_Fin.go (fun t k => XS.bipush X0.here hx rfl (hb hby own_dex_62) k) ?_
                    show own_Fin _ _ _ _ _ _ _ (s₁.setTop (mkF m 64 #[.val (.int va)] [(.int (96 : Int32)), (.int va)]))
                    by_cases hc64 : va = (96 : Int32)
                    · refine own_Fin.go (fun t k => XS.icmpYes X0.here hx rfl (pc0 := 64) (pc' := 73) rfl (hb hby own_dex_64) rfl (Jvm.Free.XT.ii_eq_t hc64) (by decide) (by decide) k) ?_
                      show own_Fin _ _ _ _ _ _ _ (s₁.setTop (mkF m 73 #[.val (.int va)] []))
                      refine own_Fin.go (fun t k => XS.iconst X0.here hx rfl (hb hby own_dex_73) k) ?_
                      show own_Fin _ _ _ _ _ _ _ (s₁.setTop (mkF m 74 #[.val (.int va)] [(.int (0 : Int32))]))
                      refine own_retN X0 hx (t := .boolean) (w := (0 : Int32)) Bd.returns (by simp) (hb hby own_dex_74) Bd.notSynchronized rfl (by decide) (by decide) ?_
                      rw [e0]
                      exact ⟨by simp only [own_exp, if_pos hc4, if_pos hc12, if_neg hc20, if_neg hc26, if_neg hc32, if_neg hc38, if_neg hc44, if_neg hc52, if_neg hc58, if_pos hc64], N0, rfl⟩
                    · refine own_Fin.go (fun t k => XS.icmpNo X0.here hx rfl (hb hby own_dex_64) rfl (Jvm.Free.XT.ii_eq_f hc64) k) ?_
                      show own_Fin _ _ _ _ _ _ _ (s₁.setTop (mkF m 67 #[.val (.int va)] []))
                      refine own_Fin.go (fun t k => XS.iloadN X0.here hx rfl (hb hby own_dex_67) rfl k) ?_
                      show own_Fin _ _ _ _ _ _ _ (s₁.setTop (mkF m 68 #[.val (.int va)] [(.int va)]))
                      refine own_Fin.go (fun t k => XS.bipush X0.here hx rfl (hb hby own_dex_68) k) ?_
                      show own_Fin _ _ _ _ _ _ _ (s₁.setTop (mkF m 70 #[.val (.int va)] [(.int (92 : Int32)), (.int va)]))
                      by_cases hc70 : va = (92 : Int32)
                      · refine own_Fin.go (fun t k => XS.icmpNo X0.here hx rfl (hb hby own_dex_70) rfl (Jvm.Free.XT.ii_ne_f hc70) k) ?_
                        show own_Fin _ _ _ _ _ _ _ (s₁.setTop (mkF m 73 #[.val (.int va)] []))
                        refine own_Fin.go (fun t k => XS.iconst X0.here hx rfl (hb hby own_dex_73) k) ?_
                        show own_Fin _ _ _ _ _ _ _ (s₁.setTop (mkF m 74 #[.val (.int va)] [(.int (0 : Int32))]))
                        refine own_retN X0 hx (t := .boolean) (w := (0 : Int32)) Bd.returns (by simp) (hb hby own_dex_74) Bd.notSynchronized rfl (by decide) (by decide) ?_
                        rw [e0]
                        exact ⟨by simp only [own_exp, if_pos hc4, if_pos hc12, if_neg hc20, if_neg hc26, if_neg hc32, if_neg hc38, if_neg hc44, if_neg hc52, if_neg hc58, if_neg hc64, if_pos hc70], N0, rfl⟩
                      · refine own_Fin.go (fun t k => XS.icmpYes X0.here hx rfl (pc0 := 70) (pc' := 75) rfl (hb hby own_dex_70) rfl (Jvm.Free.XT.ii_ne_t hc70) (by decide) (by decide) k) ?_
                        show own_Fin _ _ _ _ _ _ _ (s₁.setTop (mkF m 75 #[.val (.int va)] []))
                        refine own_Fin.go (fun t k => XS.iconst X0.here hx rfl (hb hby own_dex_75) k) ?_
                        show own_Fin _ _ _ _ _ _ _ (s₁.setTop (mkF m 76 #[.val (.int va)] [(.int (1 : Int32))]))
                        refine own_retN X0 hx (t := .boolean) (w := (1 : Int32)) Bd.returns (by simp) (hb hby own_dex_76) Bd.notSynchronized rfl (by decide) (by decide) ?_
                        rw [e0]
                        exact ⟨by simp only [own_exp, if_pos hc4, if_pos hc12, if_neg hc20, if_neg hc26, if_neg hc32, if_neg hc38, if_neg hc44, if_neg hc52, if_neg hc58, if_neg hc64, if_neg hc70], N0, rfl⟩
    · refine own_Fin.go (fun t k => XS.icmpNo X0.here hx rfl (hb hby own_dex_12) rfl (Jvm.Free.XT.ii_gt_f hc12) k) ?_
      show own_Fin _ _ _ _ _ _ _ (s₁.setTop (mkF m 15 #[.val (.int va)] []))
      refine own_Fin.go (fun t k => XS.iconst X0.here hx rfl (hb hby own_dex_15) k) ?_
      show own_Fin _ _ _ _ _ _ _ (s₁.setTop (mkF m 16 #[.val (.int va)] [(.int (0 : Int32))]))
      refine own_retN X0 hx (t := .boolean) (w := (0 : Int32)) Bd.returns (by simp) (hb hby own_dex_16) Bd.notSynchronized rfl (by decide) (by decide) ?_
      rw [e0]
      exact ⟨by simp only [own_exp, if_pos hc4, if_neg hc12], N0, rfl⟩
  · refine own_Fin.go (fun t k => XS.icmpNo X0.here hx rfl (hb hby own_dex_4) rfl (Jvm.Free.XT.ii_lt_f hc4) k) ?_
    show own_Fin _ _ _ _ _ _ _ (s₁.setTop (mkF m 7 #[.val (.int va)] []))
    refine own_Fin.go (fun t k => XS.iconst X0.here hx rfl (hb hby own_dex_7) k) ?_
    show own_Fin _ _ _ _ _ _ _ (s₁.setTop (mkF m 8 #[.val (.int va)] [(.int (1 : Int32))]))
    refine own_retN X0 hx (t := .boolean) (w := (1 : Int32)) Bd.returns (by simp) (hb hby own_dex_8) Bd.notSynchronized rfl (by decide) (by decide) ?_
    rw [e0]
    exact ⟨by simp only [own_exp, if_neg hc4], N0, rfl⟩
theorem own_pd0 : parseMethodDescriptor "(I)Z" = some ⟨[.int], some .boolean⟩ := by decide +kernel
theorem own_ef_law (m : MethodId) (va : Int32) (vb : Int32) : entryFrame m #[(.int va), (.int vb)] maxLocals = mkF m 0 #[.val (.int va), .val (.int vb), .unset, .unset] [] := by first | (simp [entryFrame, mkF, argsToLocals, Value.category, maxLocals]; done) | rfl
def own_Q_law (Z : State) (va : Int32) (vb : Int32) (ot : Addr) (kt : ClassId) (h0 : Heap) (n0 : Nat) (v : Option Value) (h : Heap) (L : List Loc) : Prop := v = some (.int (1 : Int32)) ∧ Fr n0 L
set_option maxRecDepth 65536 in
set_option maxHeartbeats 40000000 in
theorem own_rm_law (l : Launch) (Z : State) (a0 : Array Value) (hw : ∀ d ∈ tables_1, d.before a0 Z = true) (ws : List Jvm.Cond) (va : Int32) (vb : Int32) (ot : Addr) (kt : ClassId) (h0 : Heap) (n0 : Nat) (Z0 : n0 ≤ h0.size) (S_ASCII_IN_IRI : Sta Z h0 "com/example/starlace/starlace/io/Iris" "ASCII_IN_IRI" "[Z" (.ref ot)) (V_ot : Arv Z h0 ot kt .boolean (128 : Int32) own_vs (.int (0 : Int32))) :
    MetFree l x (head1 (Jvm.Cond.code x code maxLocals ret :: ws) room_1) (fun a U => a = #[(.int va), (.int vb)] ∧ Z.Warmed39 U.vm ∧ U.heap = h0) (fun _ _ _ _ _ => True) (fun _ U o U' => ∃ v L, o = .returned v ∧ own_Q_law Z va vb ot kt h0 n0 v U'.heap L ∧ FrameEnd U o U' L room_1.cells room_1.slots) := by
  refine MetFree.of_bodySF (plainFor_of_name own_pn1) hisR ?_
  intro p e s m args below meth c s₁ Bd hml0 hP hK
  obtain ⟨rfl, hZ, hh⟩ := hP
  have hx := Bd.exec
  have hby := Bd.bytes
  have hml : c.maxLocals = 4 := hml0
  have hown : s.vm.findClass "com/example/starlace/starlace/io/IrisMayHoldPinLaw" = some m.cls := findClass_of_methodNamed Bd.named
  have hnm := (name_of_methodNamed Bd.named Bd.method).1
  have X0 : Stand p l e room_1 s m #[(.int va), (.int vb)] below meth c s₁ [] 0 0 := Stand.of_body Bd
  have e0 : s₁.heap = h0 := by rw [← hh, Bd.state]; rfl
  have N0 := Fr.nil n0
  show own_Fin p e below s (own_Q_law Z va vb ot kt h0 n0) room_1.cells room_1.slots (s₁.setTop (entryFrame m #[(.int va), (.int vb)] maxLocals))
  refine own_Fin.go (fun t k => castTop (own_ef_law m va vb) k) ?_
  refine own_Fin.go (fun t k => XS.iloadN X0.here hx rfl (hb hby at_0) rfl k) ?_
  show own_Fin _ _ _ _ _ _ _ (s₁.setTop (mkF m 1 #[.val (.int va), .val (.int vb), .unset, .unset] [(.int vb)]))
  refine own_Fin.go (fun t k => XS.iconst X0.here hx rfl (hb hby at_1) k) ?_
  show own_Fin _ _ _ _ _ _ _ (s₁.setTop (mkF m 2 #[.val (.int va), .val (.int vb), .unset, .unset] [(.int (3 : Int32)), (.int vb)]))
  refine own_Fin.go (fun t k => XS.iand X0.here hx rfl (hb hby at_2) rfl k) ?_
  show own_Fin _ _ _ _ _ _ _ (s₁.setTop (mkF m 3 #[.val (.int va), .val (.int vb), .unset, .unset] [(.int (vb &&& (3 : Int32)))]))
  refine own_Fin.go (fun t k => XS.istoreN X0.here hx rfl (hb hby at_3) rfl (l' := #[.val (.int va), .val (.int vb), .val (.int (vb &&& (3 : Int32))), .unset]) rfl k) ?_
  show own_Fin _ _ _ _ _ _ _ (s₁.setTop (mkF m 4 #[.val (.int va), .val (.int vb), .val (.int (vb &&& (3 : Int32))), .unset] []))
  have J35 : ∀ (cc : Int32) (hJ35 : ¬ cc < 0), own_Fin p e below s (own_Q_law Z va vb ot kt h0 n0) room_1.cells room_1.slots (s₁.setTop (mkF m 35 #[.val (.int va), .val (.int vb), .val (.int (vb &&& (3 : Int32))), .val (.int cc)] [])) := by
    intro cc hJ35
    refine own_Fin.go (fun t k => XS.iloadN X0.here hx rfl (hb hby at_35) rfl k) ?_
    show own_Fin _ _ _ _ _ _ _ (s₁.setTop (mkF m 36 #[.val (.int va), .val (.int vb), .val (.int (vb &&& (3 : Int32))), .val (.int cc)] [(.int cc)]))
    obtain ⟨_, _, ⟨T1, L1, k1, n1⟩, -, X1, ⟨Lc1, hQ1, l1, y1, z1⟩, st1⟩ := Jvm.LawKit.callS X0 hx (y := (⟨"com/example/starlace/starlace/io/Iris", "mayHold", "(I)Z"⟩ : MethodName)) hown (mvT hZ (hw _ (List.mem_of_getElem? (i := 1) rfl))) (mvT hZ (hw _ (List.mem_of_getElem? (i := 2) rfl))) (mvT hZ (hw _ (List.mem_of_getElem? (i := 3) rfl))) (mvT hZ (hw _ (List.mem_of_getElem? (i := 4) rfl))) (by decide) (backOf (W := 0) (own_rm_may l Z a0 hw [] cc ot kt h0 n0 Z0 S_ASCII_IN_IRI V_ot hJ35) hZ (hw _ (List.mem_of_getElem? (i := 4) rfl)) (hw _ (List.mem_of_getElem? (i := 3) rfl)) (by decide) (by decide)) (g := (mkF m 36 #[.val (.int va), .val (.int vb), .val (.int (vb &&& (3 : Int32))), .val (.int cc)] [(.int cc)])) rfl (by rw [hml]; rfl) (argsL := [(.int cc)]) (rest := []) (lenOf own_pd0 rfl) rfl (by show 2 * 0 + _ ≤ _; exact Nat.le_of_eq rfl) (hb hby at_36) (fun _ _ => ⟨rfl, e0, (by decide : 0 + 0 ≤ _), (by decide : 0 + 0 ≤ _)⟩)
    dsimp only [Pt.U, Pt.locs, Pt.cells, Pt.slots] at X1 l1 y1 z1 st1 hQ1
    subst l1 y1 z1
    obtain ⟨rfl, N1q, e1⟩ := hQ1
    refine own_Fin.go (fun t k => st1 t k) ?_
    have N1 := Fr.app N0 N1q
    show own_Fin _ _ _ _ _ _ _ (T1.setTop (mkF m 39 #[.val (.int va), .val (.int vb), .val (.int (vb &&& (3 : Int32))), .val (.int cc)] [(.int (own_exp cc))]))
    refine own_Fin.go (fun t k => XS.iloadN X1.here hx rfl (hb hby at_39) rfl k) ?_
    show own_Fin _ _ _ _ _ _ _ (T1.setTop (mkF m 40 #[.val (.int va), .val (.int vb), .val (.int (vb &&& (3 : Int32))), .val (.int cc)] [(.int cc), (.int (own_exp cc))]))
    obtain ⟨_, _, ⟨T2, L2, k2, n2⟩, -, X2, ⟨Lc2, hQ2, l2, y2, z2⟩, st2⟩ := Jvm.LawKit.callS X1 hx (y := (⟨"com/example/starlace/starlace/io/IrisMayHoldPinLaw", "expected", "(I)Z"⟩ : MethodName)) hown (mvT hZ (hw _ (List.mem_of_getElem? (i := 7) rfl))) (mvT hZ (hw _ (List.mem_of_getElem? (i := 8) rfl))) (mvT hZ (hw _ (List.mem_of_getElem? (i := 9) rfl))) (mvT hZ (hw _ (List.mem_of_getElem? (i := 10) rfl))) (by decide) (backOf (W := 1) (own_rm_ex l Z a0 hw [] cc  h0 n0 Z0 ) hZ (hw _ (List.mem_of_getElem? (i := 10) rfl)) (hw _ (List.mem_of_getElem? (i := 9) rfl)) (by decide) (by decide)) (g := (mkF m 40 #[.val (.int va), .val (.int vb), .val (.int (vb &&& (3 : Int32))), .val (.int cc)] [(.int cc), (.int (own_exp cc))])) rfl (by rw [hml]; rfl) (argsL := [(.int cc)]) (rest := [(.int (own_exp cc))]) (lenOf own_pd0 rfl) rfl (by show 2 * 0 + _ ≤ _; exact Nat.le_of_eq rfl) (hb hby at_40) (fun _ _ => ⟨rfl, e1, (by decide : 0 + 0 ≤ _), (by decide : 0 + 0 ≤ _)⟩)
    dsimp only [Pt.U, Pt.locs, Pt.cells, Pt.slots] at X2 l2 y2 z2 st2 hQ2
    subst l2 y2 z2
    obtain ⟨rfl, N2q, e2⟩ := hQ2
    refine own_Fin.go (fun t k => st2 t k) ?_
    have N2 := Fr.app N1 N2q
    show own_Fin _ _ _ _ _ _ _ (T2.setTop (mkF m 43 #[.val (.int va), .val (.int vb), .val (.int (vb &&& (3 : Int32))), .val (.int cc)] [(.int (own_exp cc)), (.int (own_exp cc))]))
    have hc43 : (own_exp cc) = (own_exp cc) := rfl
    refine own_Fin.go (fun t k => XS.icmpNo X2.here hx rfl (hb hby at_43) rfl (Jvm.Free.XT.ii_ne_f hc43) k) ?_
    show own_Fin _ _ _ _ _ _ _ (T2.setTop (mkF m 46 #[.val (.int va), .val (.int vb), .val (.int (vb &&& (3 : Int32))), .val (.int cc)] []))
    refine own_Fin.go (fun t k => XS.iconst X2.here hx rfl (hb hby at_46) k) ?_
    show own_Fin _ _ _ _ _ _ _ (T2.setTop (mkF m 47 #[.val (.int va), .val (.int vb), .val (.int (vb &&& (3 : Int32))), .val (.int cc)] [(.int (1 : Int32))]))
    refine own_Fin.go (fun t k => XS.goto X2.here hx rfl (pc0 := 47) (pc' := 51) rfl (hb hby at_47) (by decide) (by decide) k) ?_
    show own_Fin _ _ _ _ _ _ _ (T2.setTop (mkF m 51 #[.val (.int va), .val (.int vb), .val (.int (vb &&& (3 : Int32))), .val (.int cc)] [(.int (1 : Int32))]))
    refine own_retN X2 hx (t := .boolean) (w := (1 : Int32)) Bd.returns (by simp) (hb hby at_51) Bd.notSynchronized rfl (by decide) (by decide) ?_
    rw [e2]
    exact ⟨rfl, N2⟩
  refine own_Fin.go (fun t k => XS.iloadN X0.here hx rfl (hb hby at_4) rfl k) ?_
  show own_Fin _ _ _ _ _ _ _ (s₁.setTop (mkF m 5 #[.val (.int va), .val (.int vb), .val (.int (vb &&& (3 : Int32))), .unset] [(.int (vb &&& (3 : Int32)))]))
  by_cases hc5 : (vb &&& (3 : Int32)) = (0 : Int32)
  · refine own_Fin.go (fun t k => XS.ifNo X0.here hx rfl (hb hby at_5) rfl (Jvm.Free.XT.i0_ne_f hc5) k) ?_
    show own_Fin _ _ _ _ _ _ _ (s₁.setTop (mkF m 8 #[.val (.int va), .val (.int vb), .val (.int (vb &&& (3 : Int32))), .unset] []))
    refine own_Fin.go (fun t k => XS.iloadN X0.here hx rfl (hb hby at_8) rfl k) ?_
    show own_Fin _ _ _ _ _ _ _ (s₁.setTop (mkF m 9 #[.val (.int va), .val (.int vb), .val (.int (vb &&& (3 : Int32))), .unset] [(.int va)]))
    refine own_Fin.go (fun t k => XS.bipush X0.here hx rfl (hb hby at_9) k) ?_
    show own_Fin _ _ _ _ _ _ _ (s₁.setTop (mkF m 11 #[.val (.int va), .val (.int vb), .val (.int (vb &&& (3 : Int32))), .unset] [(.int (127 : Int32)), (.int va)]))
    refine own_Fin.go (fun t k => XS.iand X0.here hx rfl (hb hby at_11) rfl k) ?_
    show own_Fin _ _ _ _ _ _ _ (s₁.setTop (mkF m 12 #[.val (.int va), .val (.int vb), .val (.int (vb &&& (3 : Int32))), .unset] [(.int (va &&& (127 : Int32)))]))
    refine own_Fin.go (fun t k => XS.istoreN X0.here hx rfl (hb hby at_12) rfl (l' := #[.val (.int va), .val (.int vb), .val (.int (vb &&& (3 : Int32))), .val (.int (va &&& (127 : Int32)))]) rfl k) ?_
    show own_Fin _ _ _ _ _ _ _ (s₁.setTop (mkF m 13 #[.val (.int va), .val (.int vb), .val (.int (vb &&& (3 : Int32))), .val (.int (va &&& (127 : Int32)))] []))
    refine own_Fin.go (fun t k => XS.goto X0.here hx rfl (pc0 := 13) (pc' := 35) rfl (hb hby at_13) (by decide) (by decide) k) ?_
    show own_Fin _ _ _ _ _ _ _ (s₁.setTop (mkF m 35 #[.val (.int va), .val (.int vb), .val (.int (vb &&& (3 : Int32))), .val (.int (va &&& (127 : Int32)))] []))
    exact J35 (va &&& (127 : Int32)) (by exact own_n 7 va 127 (by decide) (by decide))
  · refine own_Fin.go (fun t k => XS.ifYes X0.here hx rfl (pc0 := 5) (pc' := 16) rfl (hb hby at_5) rfl (Jvm.Free.XT.i0_ne_t hc5) (by decide) (by decide) k) ?_
    show own_Fin _ _ _ _ _ _ _ (s₁.setTop (mkF m 16 #[.val (.int va), .val (.int vb), .val (.int (vb &&& (3 : Int32))), .unset] []))
    refine own_Fin.go (fun t k => XS.iloadN X0.here hx rfl (hb hby at_16) rfl k) ?_
    show own_Fin _ _ _ _ _ _ _ (s₁.setTop (mkF m 17 #[.val (.int va), .val (.int vb), .val (.int (vb &&& (3 : Int32))), .unset] [(.int (vb &&& (3 : Int32)))]))
    refine own_Fin.go (fun t k => XS.iconst X0.here hx rfl (hb hby at_17) k) ?_
    show own_Fin _ _ _ _ _ _ _ (s₁.setTop (mkF m 18 #[.val (.int va), .val (.int vb), .val (.int (vb &&& (3 : Int32))), .unset] [(.int (1 : Int32)), (.int (vb &&& (3 : Int32)))]))
    by_cases hc18 : (vb &&& (3 : Int32)) = (1 : Int32)
    · refine own_Fin.go (fun t k => XS.icmpNo X0.here hx rfl (hb hby at_18) rfl (Jvm.Free.XT.ii_ne_f hc18) k) ?_
      show own_Fin _ _ _ _ _ _ _ (s₁.setTop (mkF m 21 #[.val (.int va), .val (.int vb), .val (.int (vb &&& (3 : Int32))), .unset] []))
      refine own_Fin.go (fun t k => XS.iloadN X0.here hx rfl (hb hby at_21) rfl k) ?_
      show own_Fin _ _ _ _ _ _ _ (s₁.setTop (mkF m 22 #[.val (.int va), .val (.int vb), .val (.int (vb &&& (3 : Int32))), .unset] [(.int va)]))
      refine own_Fin.go (fun t k => XS.sipush X0.here hx rfl (hb hby at_22) k) ?_
      show own_Fin _ _ _ _ _ _ _ (s₁.setTop (mkF m 25 #[.val (.int va), .val (.int vb), .val (.int (vb &&& (3 : Int32))), .unset] [(.int (255 : Int32)), (.int va)]))
      refine own_Fin.go (fun t k => XS.iand X0.here hx rfl (hb hby at_25) rfl k) ?_
      show own_Fin _ _ _ _ _ _ _ (s₁.setTop (mkF m 26 #[.val (.int va), .val (.int vb), .val (.int (vb &&& (3 : Int32))), .unset] [(.int (va &&& (255 : Int32)))]))
      refine own_Fin.go (fun t k => XS.istoreN X0.here hx rfl (hb hby at_26) rfl (l' := #[.val (.int va), .val (.int vb), .val (.int (vb &&& (3 : Int32))), .val (.int (va &&& (255 : Int32)))]) rfl k) ?_
      show own_Fin _ _ _ _ _ _ _ (s₁.setTop (mkF m 27 #[.val (.int va), .val (.int vb), .val (.int (vb &&& (3 : Int32))), .val (.int (va &&& (255 : Int32)))] []))
      refine own_Fin.go (fun t k => XS.goto X0.here hx rfl (pc0 := 27) (pc' := 35) rfl (hb hby at_27) (by decide) (by decide) k) ?_
      show own_Fin _ _ _ _ _ _ _ (s₁.setTop (mkF m 35 #[.val (.int va), .val (.int vb), .val (.int (vb &&& (3 : Int32))), .val (.int (va &&& (255 : Int32)))] []))
      exact J35 (va &&& (255 : Int32)) (by exact own_n 8 va 255 (by decide) (by decide))
    · refine own_Fin.go (fun t k => XS.icmpYes X0.here hx rfl (pc0 := 18) (pc' := 30) rfl (hb hby at_18) rfl (Jvm.Free.XT.ii_ne_t hc18) (by decide) (by decide) k) ?_
      show own_Fin _ _ _ _ _ _ _ (s₁.setTop (mkF m 30 #[.val (.int va), .val (.int vb), .val (.int (vb &&& (3 : Int32))), .unset] []))
      refine own_Fin.go (fun t k => XS.iloadN X0.here hx rfl (hb hby at_30) rfl k) ?_
      show own_Fin _ _ _ _ _ _ _ (s₁.setTop (mkF m 31 #[.val (.int va), .val (.int vb), .val (.int (vb &&& (3 : Int32))), .unset] [(.int va)]))
      refine own_Fin.go (fun t k => X0.ldcInt hx hown (mvT hZ (hw _ (List.mem_of_getElem? (i := 0) rfl))) (g := (mkF m 31 #[.val (.int va), .val (.int vb), .val (.int (vb &&& (3 : Int32))), .unset] [(.int va)])) rfl (hb hby at_31) t k) ?_
      show own_Fin _ _ _ _ _ _ _ (s₁.setTop (mkF m 33 #[.val (.int va), .val (.int vb), .val (.int (vb &&& (3 : Int32))), .unset] [(.int (2147483647 : Int32)), (.int va)]))
      refine own_Fin.go (fun t k => XS.iand X0.here hx rfl (hb hby at_33) rfl k) ?_
      show own_Fin _ _ _ _ _ _ _ (s₁.setTop (mkF m 34 #[.val (.int va), .val (.int vb), .val (.int (vb &&& (3 : Int32))), .unset] [(.int (va &&& (2147483647 : Int32)))]))
      refine own_Fin.go (fun t k => XS.istoreN X0.here hx rfl (hb hby at_34) rfl (l' := #[.val (.int va), .val (.int vb), .val (.int (vb &&& (3 : Int32))), .val (.int (va &&& (2147483647 : Int32)))]) rfl k) ?_
      show own_Fin _ _ _ _ _ _ _ (s₁.setTop (mkF m 35 #[.val (.int va), .val (.int vb), .val (.int (vb &&& (3 : Int32))), .val (.int (va &&& (2147483647 : Int32)))] []))
      exact J35 (va &&& (2147483647 : Int32)) (by exact own_n 31 va 2147483647 (by decide) (by decide))
set_option maxRecDepth 65536 in
set_option maxHeartbeats 40000000 in
theorem comes_1 {Post : Tables → Env → Array Value → State → Outcome → State → Prop} (hpost : ∀ tb e args s v u, (limb_1_1.after args s (.returned v) u = true ∧ limb_1_2.after args s (.returned v) u = true ∧ True) → FrameEnd s (.returned v) u (Jvm.fieldLocs frame_1_writes args s ++ Jvm.arrayLocs frame_1_arrays args s ++ Jvm.staticLocs frame_1_statics s) 0 0 → Post tb e args s (.returned v) u) :
    ArmFor flags0 classFile x code maxLocals ret World_1 tables_1 room_1 Calls_1 rest_1 Pre_1 Post := by
  intro l hfl _ _ p e ha hc hk s m args below hf hA hF happ hP
  obtain ⟨hcalls, hrest, hpre⟩ := hP
  obtain ⟨-, -, -, hnamed, -, -, -, hat⟩ := (Spec.applies_iff hf).mp happ
  obtain ⟨hg, hn⟩ := and_e (Cond.before_iff.mp (show (Jvm.Cond.and given_1 narrow_1).before args s = true from hpre))
  obtain ⟨hg0, hr0⟩ := and_e hg
  obtain ⟨hg1, hr1⟩ := and_e hr0
  obtain ⟨w0, w1, rfl⟩ : ∃ w0 w1 : Value, args = #[w0, w1] := by
    have hs : args.size = 2 := by simpa [Cond.value, given_1] using hg0
    obtain ⟨L⟩ := args
    match L, hs with
    | [w0, w1], _ => exact ⟨w0, w1, rfl⟩
  have hw := fun d (hd : d ∈ tables_1) => atoms_spec (ws := Jvm.Cond.code x code maxLocals ret :: tables_1) hat d (List.mem_cons_of_mem _ hd)
  have hfit : Fit s := fun {y c} hc i hi => by
    obtain ⟨ha, rfl⟩ := Array.getElem?_eq_some_iff.mp hc
    have q := List.all_eq_true.mp ((Array.all_eq_true_iff_forall_mem.mp hF) _ (Array.getElem_mem ha)) i (List.mem_range.mpr hi)
    simpa [Array.getElem?_eq_getElem hi] using q
  obtain ⟨i0, ei0⟩ := is_v hg1
  obtain rfl : w0 = (.int i0) := Option.some.inj ei0
  obtain ⟨i1, ei1⟩ := is_v hr1
  obtain rfl : w1 = (.int i1) := Option.some.inj ei1
  obtain ⟨hn0, hm0⟩ := and_e hn
  obtain ⟨hn1, hm1⟩ := and_e hm0
  obtain ⟨hn2, hm2⟩ := and_e hm1
  obtain ⟨hn3, hm3⟩ := and_e hm2
  obtain ⟨hn4, hm4⟩ := and_e hm3
  obtain ⟨hn5, hm5⟩ := and_e hm4
  obtain ⟨hn6, hm6⟩ := and_e hm5
  obtain ⟨hn7, hm7⟩ := and_e hm6
  obtain ⟨hn8, hm8⟩ := and_e hm7
  obtain ⟨hn9, hm9⟩ := and_e hm8
  obtain ⟨hn10, hm10⟩ := and_e hm9
  obtain ⟨hn11, hm11⟩ := and_e hm10
  obtain ⟨hn12, hm12⟩ := and_e hm11
  obtain ⟨hn13, hm13⟩ := and_e hm12
  obtain ⟨hn14, hm14⟩ := and_e hm13
  obtain ⟨hn15, hm15⟩ := and_e hm14
  obtain ⟨hn16, hm16⟩ := and_e hm15
  obtain ⟨hn17, hm17⟩ := and_e hm16
  obtain ⟨hn18, hm18⟩ := and_e hm17
  obtain ⟨hn19, hm19⟩ := and_e hm18
  obtain ⟨ot, evt⟩ := arr_v hn0
  obtain ⟨ct, At⟩ := Arr.start evt hn0
  have S_ASCII_IN_IRI := Sta.start evt (Or.inr ⟨(hw _ (List.mem_of_getElem? (i := 3) rfl)), (hw _ (List.mem_of_getElem? (i := 6) rfl))⟩)
  have Af := At.fin (Vm.Alike.refl s.vm)
  obtain ⟨lq, lz⟩ := own_len evt Af (own_eqInt hn1)
  have Tb := Tab.start hfit At (Or.inr (Or.inl rfl)) lq lz (by decide)
  have el : ∀ j : Int32, ¬ j < 0 → j < 128 → ct.slots[j.toNatClampNeg]? = some (.int (atv ct j)) := fun j h0 h1 => Tb.2.2.2 j (inb_of Tb.2.1 ⟨h0, h1⟩)
  have inb : ∀ j : Int32, ¬ j < 0 → j < 128 → j.toNatClampNeg < ct.slots.size := fun j h0 h1 => Nat.lt_of_not_le fun y => inb_of Tb.2.1 ⟨h0, h1⟩ (Or.inr y)
  have yhn2 : ∀ j : Int32, ¬ j < 0 → j < 128 → ((33 : Int32) ≤ j ∨ atv ct j = 0) := fun j h0 h1 => or_e2 (Cond.le_ints (Term.int_eval _) (idx_at h0)) (Cond.eq_ints ((elem_f (own_any evt) (idx_at h0) Af h0).trans (el j h0 h1)) (Term.int_eval _)) (Cond.all_elim evt Af hn2 j.toNatClampNeg (inb j h0 h1))
  have x33 : atv ct (33 : Int32) = 1 := atv_of ((elem_f evt (Term.int_eval (33 : Int32)) Af (by decide)).symm.trans (own_eqInt hn3))
  have x34 : atv ct (34 : Int32) = 0 := atv_of ((elem_f evt (Term.int_eval (34 : Int32)) Af (by decide)).symm.trans (own_eqInt hn4))
  have yhn5 : ∀ j : Int32, ¬ j < 0 → j < 128 → (j < (35 : Int32) ∨ ¬ j < (60 : Int32) ∨ atv ct j = 1) := fun j h0 h1 => or3 (Cond.all_elim evt Af hn5 j.toNatClampNeg (inb j h0 h1)) (Cond.lt_ints (idx_at h0) (Term.int_eval _)) (Cond.le_ints (Term.int_eval _) (idx_at h0)) (Cond.eq_ints ((elem_f (own_any evt) (idx_at h0) Af h0).trans (el j h0 h1)) (Term.int_eval _))
  have x60 : atv ct (60 : Int32) = 0 := atv_of ((elem_f evt (Term.int_eval (60 : Int32)) Af (by decide)).symm.trans (own_eqInt hn6))
  have x61 : atv ct (61 : Int32) = 1 := atv_of ((elem_f evt (Term.int_eval (61 : Int32)) Af (by decide)).symm.trans (own_eqInt hn7))
  have x62 : atv ct (62 : Int32) = 0 := atv_of ((elem_f evt (Term.int_eval (62 : Int32)) Af (by decide)).symm.trans (own_eqInt hn8))
  have yhn9 : ∀ j : Int32, ¬ j < 0 → j < 128 → (j < (63 : Int32) ∨ ¬ j < (92 : Int32) ∨ atv ct j = 1) := fun j h0 h1 => or3 (Cond.all_elim evt Af hn9 j.toNatClampNeg (inb j h0 h1)) (Cond.lt_ints (idx_at h0) (Term.int_eval _)) (Cond.le_ints (Term.int_eval _) (idx_at h0)) (Cond.eq_ints ((elem_f (own_any evt) (idx_at h0) Af h0).trans (el j h0 h1)) (Term.int_eval _))
  have x92 : atv ct (92 : Int32) = 0 := atv_of ((elem_f evt (Term.int_eval (92 : Int32)) Af (by decide)).symm.trans (own_eqInt hn10))
  have x93 : atv ct (93 : Int32) = 1 := atv_of ((elem_f evt (Term.int_eval (93 : Int32)) Af (by decide)).symm.trans (own_eqInt hn11))
  have x94 : atv ct (94 : Int32) = 0 := atv_of ((elem_f evt (Term.int_eval (94 : Int32)) Af (by decide)).symm.trans (own_eqInt hn12))
  have x95 : atv ct (95 : Int32) = 1 := atv_of ((elem_f evt (Term.int_eval (95 : Int32)) Af (by decide)).symm.trans (own_eqInt hn13))
  have x96 : atv ct (96 : Int32) = 0 := atv_of ((elem_f evt (Term.int_eval (96 : Int32)) Af (by decide)).symm.trans (own_eqInt hn14))
  have yhn15 : ∀ j : Int32, ¬ j < 0 → j < 128 → (j < (97 : Int32) ∨ ¬ j < (123 : Int32) ∨ atv ct j = 1) := fun j h0 h1 => or3 (Cond.all_elim evt Af hn15 j.toNatClampNeg (inb j h0 h1)) (Cond.lt_ints (idx_at h0) (Term.int_eval _)) (Cond.le_ints (Term.int_eval _) (idx_at h0)) (Cond.eq_ints ((elem_f (own_any evt) (idx_at h0) Af h0).trans (el j h0 h1)) (Term.int_eval _))
  have x123 : atv ct (123 : Int32) = 0 := atv_of ((elem_f evt (Term.int_eval (123 : Int32)) Af (by decide)).symm.trans (own_eqInt hn16))
  have x124 : atv ct (124 : Int32) = 0 := atv_of ((elem_f evt (Term.int_eval (124 : Int32)) Af (by decide)).symm.trans (own_eqInt hn17))
  have x125 : atv ct (125 : Int32) = 0 := atv_of ((elem_f evt (Term.int_eval (125 : Int32)) Af (by decide)).symm.trans (own_eqInt hn18))
  have x126 : atv ct (126 : Int32) = 1 := atv_of ((elem_f evt (Term.int_eval (126 : Int32)) Af (by decide)).symm.trans (own_eqInt hn19))
  have x127 : atv ct (127 : Int32) = 1 := atv_of ((elem_f evt (Term.int_eval (127 : Int32)) Af (by decide)).symm.trans (own_eqInt hm19))
  have key : ∀ j : Int32, ¬ j < 0 → j < 128 → atv ct j = own_exp j := by
    intro j h0 h1
    have e0 : (0 : Int32).toInt = 0 := rfl
    have e32 : (32 : Int32).toInt = 32 := rfl
    have e33 : (33 : Int32).toInt = 33 := rfl
    have e34 : (34 : Int32).toInt = 34 := rfl
    have e35 : (35 : Int32).toInt = 35 := rfl
    have e60 : (60 : Int32).toInt = 60 := rfl
    have e61 : (61 : Int32).toInt = 61 := rfl
    have e62 : (62 : Int32).toInt = 62 := rfl
    have e63 : (63 : Int32).toInt = 63 := rfl
    have e92 : (92 : Int32).toInt = 92 := rfl
    have e93 : (93 : Int32).toInt = 93 := rfl
    have e94 : (94 : Int32).toInt = 94 := rfl
    have e95 : (95 : Int32).toInt = 95 := rfl
    have e96 : (96 : Int32).toInt = 96 := rfl
    have e97 : (97 : Int32).toInt = 97 := rfl
    have e123 : (123 : Int32).toInt = 123 := rfl
    have e124 : (124 : Int32).toInt = 124 := rfl
    have e125 : (125 : Int32).toInt = 125 := rfl
    have e126 : (126 : Int32).toInt = 126 := rfl
    have e127 : (127 : Int32).toInt = 127 := rfl
    have e128 : (128 : Int32).toInt = 128 := rfl
    by_cases q33 : j = 33
    · subst q33; rw [x33]; decide
    by_cases q34 : j = 34
    · subst q34; rw [x34]; decide
    by_cases q60 : j = 60
    · subst q60; rw [x60]; decide
    by_cases q61 : j = 61
    · subst q61; rw [x61]; decide
    by_cases q62 : j = 62
    · subst q62; rw [x62]; decide
    by_cases q92 : j = 92
    · subst q92; rw [x92]; decide
    by_cases q93 : j = 93
    · subst q93; rw [x93]; decide
    by_cases q94 : j = 94
    · subst q94; rw [x94]; decide
    by_cases q95 : j = 95
    · subst q95; rw [x95]; decide
    by_cases q96 : j = 96
    · subst q96; rw [x96]; decide
    by_cases q123 : j = 123
    · subst q123; rw [x123]; decide
    by_cases q124 : j = 124
    · subst q124; rw [x124]; decide
    by_cases q125 : j = 125
    · subst q125; rw [x125]; decide
    by_cases q126 : j = 126
    · subst q126; rw [x126]; decide
    by_cases q127 : j = 127
    · subst q127; rw [x127]; decide
    by_cases rhn2 : 0 ≤ j.toInt ∧ j.toInt < 33
    · rcases yhn2 j h0 h1 with w | w
      · rw [Int32.le_iff_toInt_le] at w; omega
      · rw [w]; have z1 : ¬ 32 < j := by rw [Int32.lt_iff_toInt_lt]; omega
        simp only [own_exp, if_pos h1, if_neg z1]
    by_cases rhn5 : 35 ≤ j.toInt ∧ j.toInt < 60
    · rcases yhn5 j h0 h1 with w | w | w
      · rw [Int32.lt_iff_toInt_lt] at w; omega
      · rw [Int32.lt_iff_toInt_lt] at w; omega
      · rw [w]; have z1 : 32 < j := by rw [Int32.lt_iff_toInt_lt]; omega
        simp only [own_exp, if_pos h1, if_pos z1, if_neg q60, if_neg q62, if_neg q34, if_neg q123, if_neg q125, if_neg q124, if_neg q94, if_neg q96, if_neg q92]
    by_cases rhn9 : 63 ≤ j.toInt ∧ j.toInt < 92
    · rcases yhn9 j h0 h1 with w | w | w
      · rw [Int32.lt_iff_toInt_lt] at w; omega
      · rw [Int32.lt_iff_toInt_lt] at w; omega
      · rw [w]; have z1 : 32 < j := by rw [Int32.lt_iff_toInt_lt]; omega
        simp only [own_exp, if_pos h1, if_pos z1, if_neg q60, if_neg q62, if_neg q34, if_neg q123, if_neg q125, if_neg q124, if_neg q94, if_neg q96, if_neg q92]
    by_cases rhn15 : 97 ≤ j.toInt ∧ j.toInt < 123
    · rcases yhn15 j h0 h1 with w | w | w
      · rw [Int32.lt_iff_toInt_lt] at w; omega
      · rw [Int32.lt_iff_toInt_lt] at w; omega
      · rw [w]; have z1 : 32 < j := by rw [Int32.lt_iff_toInt_lt]; omega
        simp only [own_exp, if_pos h1, if_pos z1, if_neg q60, if_neg q62, if_neg q34, if_neg q123, if_neg q125, if_neg q124, if_neg q94, if_neg q96, if_neg q92]
    exfalso
    rw [Int32.lt_iff_toInt_lt] at h0 h1
    simp only [← Int32.toInt_inj] at q33 q34 q60 q61 q62 q92 q93 q94 q95 q96 q123 q124 q125 q126 q127
    omega
  have Vt : Arv s s.heap ot ct.cls .boolean (128 : Int32) own_vs (.int (0 : Int32)) := by
    refine ⟨ct, At, rfl, Tb.2.1, by decide, fun k hk => ?_, fun k hk => ?_⟩
    · have h128 : k < 128 := by have := Tb.2.1; have e : (128 : Int32).toNatClampNeg = 128 := rfl; omega
      obtain ⟨b1, b2, b3⟩ := own_nat k h128
      rw [own_getD _ _ h128, ← key _ b1 b2, ← el _ b1 b2, b3]
    · have h128 : k < 128 := by have := Tb.2.1; have e : (128 : Int32).toNatClampNeg = 128 := rfl; omega
      rw [own_getD _ _ h128]; rcases own_01 k.toInt32 with q | q <;> rw [q] <;> rfl
  obtain ⟨n, o, h1, h2, h3, _, L, rfl, ⟨rfl, N⟩, hq⟩ := own_rm_law l s _ hw tables_1 i0 i1 ot ct.cls s.heap s.heap.size (Nat.le_refl _) S_ASCII_IN_IRI Vt p e ha hc hk s m _ below hf ((Spec.applies_iff_loose hf).mp happ).1 ⟨rfl, State.Warmed39.refl s, rfl⟩ trivial
  refine ⟨n, _, h1, h2, h3, hpost _ _ _ _ _ _ ⟨Cond.after_iff.mpr rfl, Cond.after_iff.mpr (eq_i res_at (Term.int_eval (1)) rfl), trivial⟩ ⟨hq.1, hq.2.1, (hq.2.2.sift fun y hy => Or.inr (N y hy)).mono (by decide) (by decide)⟩⟩
theorem main_1_1 : Claimed_1_1 := comes_1 fun _ _ _ _ _ _ h hF => ⟨h.1, hF⟩
theorem main_1_2 : Claimed_1_2 := comes_1 fun _ _ _ _ _ _ h hF => ⟨h.2.1, hF⟩
end Jvm.Pilot.@@N@@
namespace Jvm.Pilot.@@N@@
open Jvm Jvm.ClassFile Sem Op Lib Jvm.Free Jvm.Stand Jvm.Pilot.@@N@@.Jvm.D
/-! MADE BY PROGRAM (witnessworld.py) out of the Statement's table words and the real class files: 11 classes; the members and pool entries that the words name. The judged class is class 1, her method 2. -/
namespace start1
open Jvm.ClassFile
def u (s : String) : CpInfo := .utf8 (stringToUtf16 s)
/-- a pool by its gaps: so many unusable entries, then the entry; so many at the end -/
def gap : Nat → List CpInfo → List CpInfo
  | 0, r => r
  | n + 1, r => .unusable :: gap n r
def poolList (es : List (Nat × CpInfo)) (last : Nat) : List CpInfo := es.foldr (fun e r => gap e.1 (e.2 :: r)) (gap last [])
def pool (es : List (Nat × CpInfo)) (last : Nat) : Array CpInfo := ⟨poolList es last⟩
def fileOf (pool : Array CpInfo) (this : Nat) (attrs : Array Attribute := #[]) (ms : Array MethodInfo := #[]) (fl : Nat := 33) (sup : Nat := 0) (ifs : Array Nat := #[]) (fds : Array FieldInfo := #[]) : ClassFile where
  minorVersion := 0
  majorVersion := 65
  constantPool := pool
  accessFlags := fl
  thisClass := this
  superClass := sup
  interfaces := ifs
  fields := fds
  methods := ms
  attributes := attrs
def plain (name : String) (sup : Option ClassId) : Class where
  name := name
  kind := .ordinary
  loader := none
  accessFlags := 33
  super := sup
  interfaces := #[]
  cf := none
  fields := #[]
  methods := #[]
  instanceTypes := #[]
  staticTypes := #[]
  resolved := #[]
  callSites := []
  init := .initialized
  statics := none
  mirror := none

def pool0 : Array CpInfo := pool [(5, u "<init>"), (0, u "()V"), (1, .class_ 10), (1, u "java/lang/Object")] 113

def k0m0 : Method := { name := "<init>", desc := "()V", sig := { parameters := [], returnType := none }, accessFlags := 1, code := none }
/-- java/lang/Object -/
def k0 : Class := { plain "java/lang/Object" none with
  accessFlags := 33
  interfaces := #[]
  cf := some (fileOf pool0 8 #[] #[{ accessFlags := 1, nameIndex := 5, descriptorIndex := 6, attributes := #[] }] 33 0 #[] #[])
  fields := #[]
  methods := #[k0m0]
  instanceTypes := #[]
  staticTypes := #[]
  resolved := Array.replicate 124 none
  statics := none }

def pool1 : Array CpInfo := pool [(2, .class_ 4), (1, u "java/lang/Object"), (0, u "<init>"), (0, u "()V"), (0, .integer 2147483647), (0, .methodref 9 10), (0, .class_ 11), (0, .nameAndType 12 13), (0, u "com/example/starlace/starlace/io/Iris"), (0, u "mayHold"), (0, u "(I)Z"), (0, .methodref 15 16), (0, .class_ 17), (0, .nameAndType 18 13), (0, u "com/example/starlace/starlace/io/IrisMayHoldPinLaw"), (0, u "expected"), (3, u "law"), (0, u "(II)Z")] 2

def k1m0 : Method := { name := "<init>", desc := "()V", sig := { parameters := [], returnType := none }, accessFlags := 2, code := none }
def k1c1 : Code := { maxStack := 2, maxLocals := 1, code := method_2_code, exceptionTable := #[], attributes := #[] }
def k1m1 : Method := { name := "expected", desc := "(I)Z", sig := { parameters := [.int], returnType := some .boolean }, accessFlags := 10, code := some k1c1 }
def k1c2 : Code := { maxStack := 2, maxLocals := 4, code := code, exceptionTable := #[], attributes := #[] }
def k1m2 : Method := { name := "law", desc := "(II)Z", sig := { parameters := [.int, .int], returnType := some .boolean }, accessFlags := 9, code := some k1c2 }
/-- com/example/starlace/starlace/io/IrisMayHoldPinLaw -/
def k1 : Class := { plain "com/example/starlace/starlace/io/IrisMayHoldPinLaw" (some 0) with
  accessFlags := 49
  interfaces := #[]
  cf := some (fileOf pool1 15 #[] #[{ accessFlags := 2, nameIndex := 5, descriptorIndex := 6, attributes := #[] }, { accessFlags := 10, nameIndex := 18, descriptorIndex := 13, attributes := #[] }, { accessFlags := 9, nameIndex := 22, descriptorIndex := 23, attributes := #[] }] 49 2 #[] #[])
  fields := #[]
  methods := #[k1m0, k1m1, k1m2]
  instanceTypes := #[]
  staticTypes := #[]
  resolved := Array.replicate 26 none
  statics := none }

def pool2 : Array CpInfo := pool [(2, .class_ 4), (1, u "java/lang/Object"), (0, u "<init>"), (0, u "()V"), (0, .class_ 8), (0, u "com/example/starlace/starlace/io/Iris"), (38, .fieldref 7 48), (0, .nameAndType 49 50), (0, u "ASCII_IN_IRI"), (0, u "[Z"), (9, u "(I)Z"), (4, .class_ 67), (1, u "com/example/starlace/starlace/io/Iris$Parts"), (22, u "Ljava/lang/String;"), (87, u "NOT_IN_IRI"), (6, u "mayHold")] 36

def k2m0 : Method := { name := "<init>", desc := "()V", sig := { parameters := [], returnType := none }, accessFlags := 2, code := none }
def k2c1 : Code := { maxStack := 2, maxLocals := 1, code := prog_31_method_5_code, exceptionTable := #[], attributes := #[] }
def k2m1 : Method := { name := "mayHold", desc := "(I)Z", sig := { parameters := [.int], returnType := some .boolean }, accessFlags := 8, code := some k2c1 }
/-- com/example/starlace/starlace/io/Iris -/
def k2 : Class := { plain "com/example/starlace/starlace/io/Iris" (some 0) with
  accessFlags := 49
  interfaces := #[]
  cf := some (fileOf pool2 7 #[.nestMembers #[65]] #[{ accessFlags := 2, nameIndex := 5, descriptorIndex := 6, attributes := #[] }, { accessFlags := 8, nameIndex := 185, descriptorIndex := 60, attributes := #[] }] 49 2 #[] #[{ accessFlags := 26, nameIndex := 178, descriptorIndex := 90, attributes := #[] }, { accessFlags := 26, nameIndex := 49, descriptorIndex := 50, attributes := #[] }])
  fields := #[{ name := "NOT_IN_IRI", type := (.object "java/lang/String"), accessFlags := 26, slot := 0, constantValue := 0 }, { name := "ASCII_IN_IRI", type := (.array .boolean), accessFlags := 26, slot := 1, constantValue := 0 }]
  methods := #[k2m0, k2m1]
  instanceTypes := #[]
  staticTypes := #[(.object "java/lang/String"), (.array .boolean)]
  resolved := Array.replicate 222 none
  statics := some 0 }

def pool3 : Array CpInfo := pool [(1, u "java/lang/Cloneable"), (0, .class_ 1), (0, u "java/lang/Object"), (0, .class_ 3)] 3

/-- java/lang/Cloneable -/
def k3 : Class := { plain "java/lang/Cloneable" (some 0) with
  accessFlags := 1537
  interfaces := #[]
  cf := some (fileOf pool3 2 #[] #[] 1537 4 #[] #[])
  fields := #[]
  methods := #[]
  instanceTypes := #[]
  staticTypes := #[]
  resolved := Array.replicate 8 none
  statics := none }

def pool4 : Array CpInfo := pool [(1, u "java/io/Serializable"), (0, .class_ 1), (0, u "java/lang/Object"), (0, .class_ 3)] 3

/-- java/io/Serializable -/
def k4 : Class := { plain "java/io/Serializable" (some 0) with
  accessFlags := 1537
  interfaces := #[]
  cf := some (fileOf pool4 2 #[] #[] 1537 4 #[] #[])
  fields := #[]
  methods := #[]
  instanceTypes := #[]
  staticTypes := #[]
  resolved := Array.replicate 8 none
  statics := none }

/-- the primitive boolean -/
def k5 : Class := { plain "boolean" none with kind := .primitive 'Z', accessFlags := 0x411 }
/-- [Z -/
def k6 : Class := { plain "[Z" (some 0) with kind := .array 5 .boolean, interfaces := #[3, 4], accessFlags := 1041 }

/-- the primitive byte -/
def k7 : Class := { plain "byte" none with kind := .primitive 'B', accessFlags := 0x411 }
/-- [B -/
def k8 : Class := { plain "[B" (some 0) with kind := .array 7 .byte, interfaces := #[3, 4], accessFlags := 1041 }

/-- the primitive int -/
def k9 : Class := { plain "int" none with kind := .primitive 'I', accessFlags := 0x411 }
/-- [I -/
def k10 : Class := { plain "[I" (some 0) with kind := .array 9 .int, interfaces := #[3, 4], accessFlags := 1041 }

def heap : Heap := #[{ cls := 2, slots := #[.null, .ref 1], vm := .statics 2 },
  { cls := 6, slots := #[.int 0, .int 0, .int 0, .int 0, .int 0, .int 0, .int 0, .int 0, .int 0, .int 0, .int 0, .int 0, .int 0, .int 0, .int 0, .int 0, .int 0, .int 0, .int 0, .int 0, .int 0, .int 0, .int 0, .int 0, .int 0, .int 0, .int 0, .int 0, .int 0, .int 0, .int 0, .int 0, .int 0, .int 1, .int 0, .int 1, .int 1, .int 1, .int 1, .int 1, .int 1, .int 1, .int 1, .int 1, .int 1, .int 1, .int 1, .int 1, .int 1, .int 1, .int 1, .int 1, .int 1, .int 1, .int 1, .int 1, .int 1, .int 1, .int 1, .int 1, .int 0, .int 1, .int 0, .int 1, .int 1, .int 1, .int 1, .int 1, .int 1, .int 1, .int 1, .int 1, .int 1, .int 1, .int 1, .int 1, .int 1, .int 1, .int 1, .int 1, .int 1, .int 1, .int 1, .int 1, .int 1, .int 1, .int 1, .int 1, .int 1, .int 1, .int 1, .int 1, .int 0, .int 1, .int 0, .int 1, .int 0, .int 1, .int 1, .int 1, .int 1, .int 1, .int 1, .int 1, .int 1, .int 1, .int 1, .int 1, .int 1, .int 1, .int 1, .int 1, .int 1, .int 1, .int 1, .int 1, .int 1, .int 1, .int 1, .int 1, .int 1, .int 1, .int 1, .int 0, .int 0, .int 0, .int 1, .int 1], vm := .none }]
def classes : Array Class := #[k0, k1, k2, k3, k4, k5, k6, k7, k8, k9, k10]
def interned : List (Array UInt16 × Addr) := []
def slotsUsed : Nat := 130
def theMethod : MethodId := ⟨1, 2⟩
def args0 : Array Value := #[.int 5, .int 3]
def aboutOver (below : List Frame) : State where
  vm := { classes := classes, interned := interned.toArray }
  heap := heap
  slotsUsed := slotsUsed
  threads := #[{ frames := .invoking theMethod args0 :: below }]
def below0 : List Frame := [.native { method := ⟨0, 0⟩, args := #[] }]
def about1 : State := aboutOver below0
def p0 : Program := .bare "" "" ""
def e0 : Env := launch0.env 0 0 0
theorem w_frames : about1.frames = Frame.invoking theMethod args0 :: below0 := rfl
set_option maxRecDepth 65536 in
theorem w_args : argsFit about1.vm theMethod args0 = true := by decide +kernel
set_option maxRecDepth 65536 in
theorem w_heap : heapFits about1 = true := by decide +kernel
set_option maxRecDepth 65536 in
theorem w_runnable : about1.curStatus? = some .runnable := by decide +kernel
set_option maxRecDepth 65536 in
theorem w_alone : about1.alone = true := by decide +kernel
set_option maxRecDepth 65536 in
theorem w_named : about1.methodNamed? x = some theMethod := by decide +kernel
set_option maxRecDepth 65536 in
theorem w_hears : about1.hears theMethod below0 = true := by decide +kernel
set_option maxRecDepth 65536 in
theorem w_ripe : about1.ripe theMethod args0 below0 = true := by decide +kernel
theorem w_running : about1.status = .running := rfl
set_option maxRecDepth 65536 in
theorem w_room : about1.hasRoom e0.platform room_1 = true :=
  launch0.hasRoom_least _ room_1 (by decide +kernel) (by decide +kernel) (by decide +kernel) (by decide +kernel) (by decide +kernel) (by decide +kernel)
theorem allAtoms_all (ts : List Jvm.Cond) (a : Array Jvm.Value) (st : Jvm.State) : (allAtoms ts).before a st = ts.all (fun c => c.before a st) := by
  induction ts with
  | nil => rfl
  | cons c t ih =>
    show (Jvm.Cond.and c (allAtoms t)).before a st = _
    rw [Jvm.Cond.before_and, ih, List.all_cons]
def words1 : List Jvm.Cond := Jvm.Cond.code x code maxLocals ret :: tables_1
/-- a 'code' word, met by the world's own term for the bytes: nothing is compared byte by byte -/
theorem code_word {y : MethodName} {bytes : ByteArray} {mx : Nat} {rt : Option FieldType} {a : Array Value} {s : State} {m : MethodId} {meth : Method} {c : Code} (h1 : s.methodNamed? y = some m) (h2 : s.vm.method? m = some meth) (h3 : meth.code = some c) (h4 : c.code = bytes)
    (h5 : (c.maxLocals == mx && c.exceptionTable.isEmpty && decide (c.maxStack ≤ mostOperands) && decide (meth.sig.returnType = rt) && !meth.locks && decide (parseMethodDescriptor y.desc = some meth.sig)) = true) : (Jvm.Cond.code y bytes mx rt).before a s = true := by
  simp only [Bool.and_eq_true, beq_iff_eq, Bool.not_eq_true', decide_eq_true_eq] at h5
  obtain ⟨⟨⟨⟨⟨g1, g2⟩, g3⟩, g4⟩, g5⟩, g6⟩ := h5
  simp [Cond.before, Cond.holds, Cond.value, h1, h2, h3, h4, g1, g2, g3, g4, g5, g6]
def isCode : Jvm.Cond → Bool
  | .code _ _ _ _ => true
  | _ => false
theorem all_split {L : List Jvm.Cond} {P : Jvm.Cond → Bool} (h1 : L.all (fun c => isCode c || P c) = true) (h2 : ∀ c ∈ L.filter isCode, P c = true) : L.all P = true := by
  refine List.all_eq_true.mpr fun c hc => ?_
  have h := List.all_eq_true.mp h1 c hc
  rcases Bool.eq_false_or_eq_true (isCode c) with hi | hi
  · exact h2 c (List.mem_filter.mpr ⟨hc, hi⟩)
  · simpa [hi] using h
set_option maxRecDepth 65536 in
theorem w_c0 : (Jvm.Cond.code x code maxLocals ret).before args0 about1 = true := code_word (m := ⟨1, 2⟩) (meth := k1m2) (c := k1c2) (by decide +kernel) rfl rfl rfl (by decide +kernel)
set_option maxRecDepth 65536 in
theorem w_c1 : (Jvm.Cond.code ({ cls := "com/example/starlace/starlace/io/Iris", name := "mayHold", desc := "(I)Z" } : Jvm.MethodName) prog_31_method_5_code (1 : Nat) (Option.some Jvm.ClassFile.FieldType.boolean)).before args0 about1 = true := code_word (m := ⟨2, 1⟩) (meth := k2m1) (c := k2c1) (by decide +kernel) rfl rfl rfl (by decide +kernel)
set_option maxRecDepth 65536 in
theorem w_c2 : (Jvm.Cond.code ({ cls := "com/example/starlace/starlace/io/IrisMayHoldPinLaw", name := "expected", desc := "(I)Z" } : Jvm.MethodName) method_2_code (1 : Nat) (Option.some Jvm.ClassFile.FieldType.boolean)).before args0 about1 = true := code_word (m := ⟨1, 1⟩) (meth := k1m1) (c := k1c1) (by decide +kernel) rfl rfl rfl (by decide +kernel)
def codes1 : List Jvm.Cond := [Jvm.Cond.code x code maxLocals ret, Jvm.Cond.code ({ cls := "com/example/starlace/starlace/io/Iris", name := "mayHold", desc := "(I)Z" } : Jvm.MethodName) prog_31_method_5_code (1 : Nat) (Option.some Jvm.ClassFile.FieldType.boolean), Jvm.Cond.code ({ cls := "com/example/starlace/starlace/io/IrisMayHoldPinLaw", name := "expected", desc := "(I)Z" } : Jvm.MethodName) method_2_code (1 : Nat) (Option.some Jvm.ClassFile.FieldType.boolean)]
set_option maxRecDepth 65536 in
theorem codes_eq : words1.filter isCode = codes1 := rfl
theorem w_codes : ∀ c ∈ words1.filter isCode, c.before args0 about1 = true := by
  rw [codes_eq]
  intro c hc
  simp only [codes1, List.mem_cons, List.not_mem_nil, or_false] at hc
  rcases hc with rfl | rfl | rfl
  · exact w_c0
  · exact w_c1
  · exact w_c2
set_option maxRecDepth 65536 in
theorem w_t1 : words1.all (fun c => isCode c || c.before args0 about1) = true := by decide +kernel
theorem w_tables : (allAtoms (Jvm.Cond.code x code maxLocals ret :: tables_1)).before args0 about1 = true := by
  rw [allAtoms_all]
  show words1.all (fun c => c.before args0 about1) = true
  refine all_split ?_ w_codes
  rw [w_t1]
set_option maxRecDepth 65536 in
theorem w_case : (Jvm.Cond.and given_1 narrow_1).before args0 about1 = true := by decide +kernel
theorem w_applies : (headSpec (Jvm.Cond.code x code maxLocals ret :: tables_1) room_1).applies x e0.platform about1 = true :=
  (Spec.applies_iff w_frames).mpr ⟨w_running, w_runnable, w_alone, w_named, w_hears, w_ripe, w_room, w_tables⟩
theorem atStart : AtStart classFile x code maxLocals ret World_1 tables_1 room_1 Calls_1 rest_1 Pre_1 launch0 p0 e0 about1 theMethod args0 below0 :=
  ⟨lists_1, trivial, launch0.admits_env _ _ _, launch0.least_env, fairChoices_fair.cas, fairChoices_fair.clock, w_frames, w_args, w_heap, w_applies, trivial, trivial, w_case⟩
end start1
theorem witness_1 : WitnessClaimed_1 := ⟨start1.p0, start1.e0, start1.about1, start1.theMethod, start1.args0, start1.below0, start1.atStart⟩
end Jvm.Pilot.@@N@@
