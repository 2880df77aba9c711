import JvmDerived
import JvmDerived.Pilot.@@N@@Statement
import JvmDerived.Pilot.@@N@@Code
set_option linter.unusedVariables false
set_option linter.unusedSimpArgs false
namespace Jvm.RoadKit
open Sem ClassFile Op Lib Jvm.Stand Jvm.Free Jvm.LawKit
section New
variable {p : Program} {l : Launch} {e : Env} {R : Room} {s : State} {m : MethodId} {args : Array Value} {below : List Frame} {meth : Method} {c : Code} {T : State} {locs : List Loc} {cells slots : Nat}
theorem retI (X : Stand p l e R s m args below meth c T locs cells slots) (hx : p.tables.exec = Jvm.exec) {pc : Nat} {Ls : Array Slot} {z : Int32} {rest : List Value} (hret : meth.sig.returnType = some .int) (hd : decode c.code pc = .ok (.ireturn, 1)) {fs : List Frame}
    (hl : ∀ (f : JFrame) (acts : List Action), f.method = m → f.locked = none → f.entered = [] → (doReturn e (T.setTop f) acts (some (.int z))).1 = T.setFrames fs) : Steps p.tables e below (T.setTop (mkF m pc Ls (.int z :: rest))) (T.setFrames fs) := by
  have hm' : T.vm.method? m = some meth := X.method'
  have hn : narrow .int (.int z) = .int z := rfl
  show Steps p.tables e below (T.setTop { method := m, pc := pc, locals := Ls, stack := _ :: rest, locked := none }) _
  jvm_step X.here [X.here.top, hx, hd, hm', hret, hn]
  first | (intro acts; rw [hl _ acts rfl rfl rfl]) | rw [hl _ _ rfl rfl rfl]
  exact Steps.refl _
end New
end Jvm.RoadKit
namespace Jvm.Pilot.@@N@@
open Jvm Jvm.ClassFile Sem Op Lib Jvm.Free Jvm.Stand Jvm.LawKit Jvm.RoadKit Bundle Jvm.Pilot.@@N@@.Jvm.D
/-! The walk in a goal-driven form: own_Fin says that the run from A comes to an end at which Q holds, within the frame. -/
def own_Fin (p : Program) (e : Env) (below : List Frame) (s : State) (Q : Option Value → Heap → List Loc → Prop) (kc ks : Nat) (A : State) : Prop :=
  ∃ s₂ o, Steps p.tables e below A s₂ ∧ s₂.status = .running ∧ Ended s₂ below o ∧ ∃ v L, o = .returned v ∧ Q v s₂.heap L ∧ FrameEnd s o s₂ L kc ks
theorem own_Fin.go {p : Program} {e : Env} {below : List Frame} {s : State} {Q : Option Value → Heap → List Loc → Prop} {kc ks : Nat} {A B : State} (st : ∀ t, Steps p.tables e below B t → Steps p.tables e below A t) (h : own_Fin p e below s Q kc ks B) : own_Fin p e below s Q kc ks A := by
  obtain ⟨s₂, o, h1, h2⟩ := h
  exact ⟨s₂, o, st _ h1, h2⟩
section OwnRet
variable {p : Program} {l : Launch} {e : Env} {R : Room} {s : State} {m : MethodId} {args : Array Value} {below : List Frame} {meth : Method} {c : Code} {T : State} {locs : List Loc} {cells slots : Nat} {Q : Option Value → Heap → List Loc → Prop} {kc ks : Nat}
theorem own_end (X : Stand p l e R s m args below meth c T locs cells slots) {v : Option Value} (hv : meth.sig.returnType = none → v = none) (hlocks : meth.locks = false) (hc : cells ≤ kc) (hs : slots ≤ ks) {A : State}
    (h : ∀ fs : List Frame, (∀ (f : JFrame) (acts : List Action), f.method = m → f.locked = none → f.entered = [] → (doReturn e (T.setTop f) acts v).1 = T.setFrames fs) → Steps p.tables e below A (T.setFrames fs)) (hQ : Q v T.heap locs) : own_Fin p e below s Q kc ks A := by
  obtain ⟨fs, hr, hrun, hended, hW, hsame⟩ := X.leave (v := v) hv hlocks
  exact ⟨_, _, h fs hr, hrun, hended, _, _, rfl, hQ, ⟨_, rfl⟩, hW, hsame.mono hc hs⟩
theorem own_retN (X : Stand p l e R s m args below meth c T locs cells slots) (hx : p.tables.exec = Jvm.exec) {pc : Nat} {Ls : Array Slot} {z w : Int32} {t : FieldType} {rest : List Value} (hret : meth.sig.returnType = some t) (ht : t = .boolean ∨ t = .byte ∨ t = .char ∨ t = .short)
    (hd : decode c.code pc = .ok (.ireturn, 1)) (hlocks : meth.locks = false) (hw : nar t z = w) (hc : cells ≤ kc) (hs : slots ≤ ks) (hQ : Q (some (.int w)) T.heap locs) : own_Fin p e below s Q kc ks (T.setTop (mkF m pc Ls (.int z :: rest))) :=
  own_end X (v := some (.int w)) (fun h => by rw [hret] at h; cases h) hlocks hc hs (fun fs hr => retN X hx hret ht hd (by rw [hw]; exact hr)) hQ
theorem own_retI (X : Stand p l e R s m args below meth c T locs cells slots) (hx : p.tables.exec = Jvm.exec) {pc : Nat} {Ls : Array Slot} {z : Int32} {rest : List Value} (hret : meth.sig.returnType = some .int)
    (hd : decode c.code pc = .ok (.ireturn, 1)) (hlocks : meth.locks = false) (hc : cells ≤ kc) (hs : slots ≤ ks) (hQ : Q (some (.int z)) T.heap locs) : own_Fin p e below s Q kc ks (T.setTop (mkF m pc Ls (.int z :: rest))) :=
  own_end X (v := some (.int z)) (fun h => by rw [hret] at h; cases h) hlocks hc hs (fun fs hr => retI X hx hret hd hr) hQ
theorem own_retJ (X : Stand p l e R s m args below meth c T locs cells slots) (hx : p.tables.exec = Jvm.exec) {pc : Nat} {Ls : Array Slot} {z : Int64} (hret : meth.sig.returnType = some .long)
    (hd : decode c.code pc = .ok (.lreturn, 1)) (hlocks : meth.locks = false) (hc : cells ≤ kc) (hs : slots ≤ ks) (hQ : Q (some (.long z)) T.heap locs) : own_Fin p e below s Q kc ks (T.setTop (mkF m pc Ls [.long z])) :=
  own_end X (v := some (.long z)) (fun h => by rw [hret] at h; cases h) hlocks hc hs (fun fs hr => X.lreturnOut hx hret hd hr) hQ
theorem own_retA (X : Stand p l e R s m args below meth c T locs cells slots) (hx : p.tables.exec = Jvm.exec) {pc : Nat} {Ls : Array Slot} {a : Addr} {t : FieldType} {rest : List Value} (hret : meth.sig.returnType = some t) (ht : t.isReference = true)
    (hd : decode c.code pc = .ok (.areturn, 1)) (hlocks : meth.locks = false) (hc : cells ≤ kc) (hs : slots ≤ ks) (hQ : Q (some (.ref a)) T.heap locs) : own_Fin p e below s Q kc ks (T.setTop (mkF m pc Ls (.ref a :: rest))) :=
  own_end X (v := some (.ref a)) (fun h => by rw [hret] at h; cases h) hlocks hc hs (fun fs hr => retOut X hx hret (by cases t <;> first | rfl | (simp [FieldType.isReference] at ht)) (Or.inr (Or.inr (Or.inr (Or.inr ⟨rfl, ht, rfl⟩)))) hd hr) hQ
theorem own_ret0 (X : Stand p l e R s m args below meth c T locs cells slots) (hx : p.tables.exec = Jvm.exec) {pc : Nat} {Ls : Array Slot} (hret : meth.sig.returnType = none)
    (hd : decode c.code pc = .ok (.return_, 1)) (hlocks : meth.locks = false) (hc : cells ≤ kc) (hs : slots ≤ ks) (hQ : Q none T.heap locs) : own_Fin p e below s Q kc ks (T.setTop (mkF m pc Ls [])) :=
  own_end X (v := none) (fun _ => rfl) hlocks hc hs (fun fs hr => X.returnOut hx hret hd hr) hQ
end OwnRet
theorem own_selp {s : State} {args args' : Array Value} {C : String} {y w : MethodName} (hw : (Jvm.Cond.selects C w w).before args s = true) (hcls : w.cls = y.cls) (hpriv : s.PrivateAt y) (hinst : (Jvm.Cond.instanceMethod y).before args s = true) (hy : y.cls ≠ "java/lang/invoke/MethodHandle" ∧ y.cls ≠ "java/lang/invoke/VarHandle") : (Jvm.Cond.selects y.cls y y).before args' s = true := by
  obtain ⟨c2, r2, m2, -, -, q3, -, kP, hkP, hkPi⟩ := Cond.selects_spec hw
  exact selects_self_of_private (by rw [← hcls]; exact findClass_of_methodNamed q3) hkP hkPi hpriv hinst hy
def own_isLet (c : Int32) : Int32 := if c < 97 then (if c < 65 then 0 else if 90 < c then 0 else 1) else if 122 < c then (if c < 65 then 0 else if 90 < c then 0 else 1) else 1
def own_ref (c : Int32) : Int32 := if (c ||| 32) < 97 then 0 else if 122 < (c ||| 32) then 0 else 1
theorem own_small : ∀ n : Fin 128, own_isLet (Int32.ofInt (n.1 : Int)) = own_ref (Int32.ofInt (n.1 : Int)) := by decide +kernel
theorem own_plain (c : Int32) : own_isLet c = own_ref c := by
  have e0 : (0 : Int32).toInt = 0 := rfl
  have e32 : (32 : Int32).toInt = 32 := rfl
  have e65 : (65 : Int32).toInt = 65 := rfl
  have e90 : (90 : Int32).toInt = 90 := rfl
  have e97 : (97 : Int32).toInt = 97 := rfl
  have e122 : (122 : Int32).toInt = 122 := rfl
  by_cases h0 : c.toInt < 0
  · have h1 := (c_orS c 32).2.1 h0
    have a1 : c < 97 := by rw [Int32.lt_iff_toInt_lt]; omega
    have a2 : c < 65 := by rw [Int32.lt_iff_toInt_lt]; omega
    have a3 : (c ||| 32) < 97 := by rw [Int32.lt_iff_toInt_lt]; omega
    simp only [own_isLet, own_ref, a1, a2, a3, if_true]
  · by_cases h1 : c.toInt < 128
    · have h2 := own_small ⟨c.toInt.toNat, by omega⟩
      have h3 : ((c.toInt.toNat : Nat) : Int) = c.toInt := by omega
      simp only [h3, Int32.ofInt_toInt] at h2
      exact h2
    · have h2 := (c_or0 c 32 (by omega) (by omega)).1
      have a1 : ¬ c < 97 := by rw [Int32.lt_iff_toInt_lt]; omega
      have a2 : ¬ c < 65 := by rw [Int32.lt_iff_toInt_lt]; omega
      have a3 : ¬ (c ||| 32) < 97 := by rw [Int32.lt_iff_toInt_lt]; omega
      have a4 : 122 < c := by rw [Int32.lt_iff_toInt_lt]; omega
      have a5 : 90 < c := by rw [Int32.lt_iff_toInt_lt]; omega
      have a6 : 122 < (c ||| 32) := by rw [Int32.lt_iff_toInt_lt]; omega
      simp only [own_isLet, own_ref, a1, a2, a3, a4, a5, a6, if_true, if_false]
theorem own_disl_0 : decode prog_39_method_47_code 0 = .ok (.iload_n 0, 1) := by decide +kernel
theorem own_disl_1 : decode prog_39_method_47_code 1 = .ok (.bipush 97, 2) := by decide +kernel
theorem own_disl_3 : decode prog_39_method_47_code 3 = .ok (.if_icmp .lt 9, 3) := by decide +kernel
theorem own_disl_6 : decode prog_39_method_47_code 6 = .ok (.iload_n 0, 1) := by decide +kernel
theorem own_disl_7 : decode prog_39_method_47_code 7 = .ok (.bipush 122, 2) := by decide +kernel
theorem own_disl_9 : decode prog_39_method_47_code 9 = .ok (.if_icmp .le 15, 3) := by decide +kernel
theorem own_disl_12 : decode prog_39_method_47_code 12 = .ok (.iload_n 0, 1) := by decide +kernel
theorem own_disl_13 : decode prog_39_method_47_code 13 = .ok (.bipush 65, 2) := by decide +kernel
theorem own_disl_15 : decode prog_39_method_47_code 15 = .ok (.if_icmp .lt 13, 3) := by decide +kernel
theorem own_disl_18 : decode prog_39_method_47_code 18 = .ok (.iload_n 0, 1) := by decide +kernel
theorem own_disl_19 : decode prog_39_method_47_code 19 = .ok (.bipush 90, 2) := by decide +kernel
theorem own_disl_21 : decode prog_39_method_47_code 21 = .ok (.if_icmp .gt 7, 3) := by decide +kernel
theorem own_disl_24 : decode prog_39_method_47_code 24 = .ok (.iconst 1, 1) := by decide +kernel
theorem own_disl_25 : decode prog_39_method_47_code 25 = .ok (.goto 4, 3) := by decide +kernel
theorem own_disl_28 : decode prog_39_method_47_code 28 = .ok (.iconst 0, 1) := by decide +kernel
theorem own_disl_29 : decode prog_39_method_47_code 29 = .ok (.ireturn, 1) := by decide +kernel
theorem own_pn0 : plainName "com/example/starlace/starlace/io/TextCursor" = true := by first | (simp [plainName, overriddenIn]; done) | decide +kernel
theorem own_ef_isl (m : MethodId) (va : Int32) : entryFrame m #[(.int va)] 1 = mkF m 0 #[.val (.int va)] [] := by first | (simp [entryFrame, mkF, argsToLocals, Value.category]; done) | rfl
def own_Q_isl (Z : State) (va : Int32) (h0 : Heap) (n0 : Nat) (v : Option Value) (h : Heap) (L : List Loc) : Prop := v = some (.int (own_isLet va)) ∧ Fr n0 L ∧ h = h0
set_option maxRecDepth 65536 in
set_option maxHeartbeats 40000000 in
theorem own_rm_isl (l : Launch) (Z : State) (a0 : Array Value) (hw : ∀ d ∈ tables_1, d.before a0 Z = true) (ws : List Jvm.Cond) (va : Int32) (h0 : Heap) (n0 : Nat) (Z0 : n0 ≤ h0.size) :
    MetFree l (⟨"com/example/starlace/starlace/io/TextCursor", "isAsciiLetter", "(I)Z"⟩ : MethodName) (head1 (Jvm.Cond.code (⟨"com/example/starlace/starlace/io/TextCursor", "isAsciiLetter", "(I)Z"⟩ : MethodName) prog_39_method_47_code 1 (some .boolean) :: ws) ({ frames := 0, cells := 0, slots := 0, locals := 0 } : Room)) (fun a U => a = #[(.int va)] ∧ Z.Warmed39 U.vm ∧ U.heap = h0) (fun _ _ _ _ _ => True) (fun _ U o U' => ∃ v L, o = .returned v ∧ own_Q_isl Z va h0 n0 v U'.heap L ∧ FrameEnd U o U' L ({ frames := 0, cells := 0, slots := 0, locals := 0 } : Room).cells ({ frames := 0, cells := 0, slots := 0, locals := 0 } : Room).slots) := by
  refine MetFree.of_bodySF (plainFor_of_name own_pn0) hisR ?_
  intro p e s m args below meth c s₁ Bd hml0 hP hK
  obtain ⟨rfl, hZ, hh⟩ := hP
  have hx := Bd.exec
  have hby := Bd.bytes
  have hml : c.maxLocals = 1 := hml0
  have hown : s.vm.findClass "com/example/starlace/starlace/io/TextCursor" = some m.cls := findClass_of_methodNamed Bd.named
  have hnm := (name_of_methodNamed Bd.named Bd.method).1
  have X0 : Stand p l e ({ frames := 0, cells := 0, slots := 0, locals := 0 } : Room) s m #[(.int va)] below meth c s₁ [] 0 0 := Stand.of_body Bd
  have e0 : s₁.heap = h0 := by rw [← hh, Bd.state]; rfl
  have N0 := Fr.nil n0
  show own_Fin p e below s (own_Q_isl Z va h0 n0) ({ frames := 0, cells := 0, slots := 0, locals := 0 } : Room).cells ({ frames := 0, cells := 0, slots := 0, locals := 0 } : Room).slots (s₁.setTop (entryFrame m #[(.int va)] 1))
  refine own_Fin.go (fun t k => castTop (own_ef_isl m va) k) ?_
  refine own_Fin.go (fun t k => XS.iloadN X0.here hx rfl (hb hby own_disl_0) rfl k) ?_
  show own_Fin _ _ _ _ _ _ _ (s₁.setTop (mkF m 1 #[.val (.int va)] [(.int va)]))
  refine own_Fin.go (fun t k => XS.bipush X0.here hx rfl (hb hby own_disl_1) k) ?_
  show own_Fin _ _ _ _ _ _ _ (s₁.setTop (mkF m 3 #[.val (.int va)] [(.int (97 : Int32)), (.int va)]))
  by_cases hc3 : va < (97 : Int32)
  · refine own_Fin.go (fun t k => XS.icmpYes X0.here hx rfl (pc0 := 3) (pc' := 12) rfl (hb hby own_disl_3) rfl (Jvm.Free.XT.ii_lt_t hc3) (by decide) (by decide) k) ?_
    show own_Fin _ _ _ _ _ _ _ (s₁.setTop (mkF m 12 #[.val (.int va)] []))
    refine own_Fin.go (fun t k => XS.iloadN X0.here hx rfl (hb hby own_disl_12) rfl k) ?_
    show own_Fin _ _ _ _ _ _ _ (s₁.setTop (mkF m 13 #[.val (.int va)] [(.int va)]))
    refine own_Fin.go (fun t k => XS.bipush X0.here hx rfl (hb hby own_disl_13) k) ?_
    show own_Fin _ _ _ _ _ _ _ (s₁.setTop (mkF m 15 #[.val (.int va)] [(.int (65 : Int32)), (.int va)]))
    by_cases hc15 : va < (65 : Int32)
    · refine own_Fin.go (fun t k => XS.icmpYes X0.here hx rfl (pc0 := 15) (pc' := 28) rfl (hb hby own_disl_15) rfl (Jvm.Free.XT.ii_lt_t hc15) (by decide) (by decide) k) ?_
      show own_Fin _ _ _ _ _ _ _ (s₁.setTop (mkF m 28 #[.val (.int va)] []))
      refine own_Fin.go (fun t k => XS.iconst X0.here hx rfl (hb hby own_disl_28) k) ?_
      show own_Fin _ _ _ _ _ _ _ (s₁.setTop (mkF m 29 #[.val (.int va)] [(.int (0 : Int32))]))
      refine own_retN X0 hx (t := .boolean) (w := (0 : Int32)) Bd.returns (by simp) (hb hby own_disl_29) Bd.notSynchronized rfl (by decide) (by decide) ?_
      rw [e0]
      exact ⟨by simp only [own_isLet, if_pos hc3, if_pos hc15], N0, rfl⟩
    · refine own_Fin.go (fun t k => XS.icmpNo X0.here hx rfl (hb hby own_disl_15) rfl (Jvm.Free.XT.ii_lt_f hc15) k) ?_
      show own_Fin _ _ _ _ _ _ _ (s₁.setTop (mkF m 18 #[.val (.int va)] []))
      refine own_Fin.go (fun t k => XS.iloadN X0.here hx rfl (hb hby own_disl_18) rfl k) ?_
      show own_Fin _ _ _ _ _ _ _ (s₁.setTop (mkF m 19 #[.val (.int va)] [(.int va)]))
      refine own_Fin.go (fun t k => XS.bipush X0.here hx rfl (hb hby own_disl_19) k) ?_
      show own_Fin _ _ _ _ _ _ _ (s₁.setTop (mkF m 21 #[.val (.int va)] [(.int (90 : Int32)), (.int va)]))
      by_cases hc21 : (90 : Int32) < va
      · refine own_Fin.go (fun t k => XS.icmpYes X0.here hx rfl (pc0 := 21) (pc' := 28) rfl (hb hby own_disl_21) rfl (Jvm.Free.XT.ii_gt_t hc21) (by decide) (by decide) k) ?_
        show own_Fin _ _ _ _ _ _ _ (s₁.setTop (mkF m 28 #[.val (.int va)] []))
        refine own_Fin.go (fun t k => XS.iconst X0.here hx rfl (hb hby own_disl_28) k) ?_
        show own_Fin _ _ _ _ _ _ _ (s₁.setTop (mkF m 29 #[.val (.int va)] [(.int (0 : Int32))]))
        refine own_retN X0 hx (t := .boolean) (w := (0 : Int32)) Bd.returns (by simp) (hb hby own_disl_29) Bd.notSynchronized rfl (by decide) (by decide) ?_
        rw [e0]
        exact ⟨by simp only [own_isLet, if_pos hc3, if_neg hc15, if_pos hc21], N0, rfl⟩
      · refine own_Fin.go (fun t k => XS.icmpNo X0.here hx rfl (hb hby own_disl_21) rfl (Jvm.Free.XT.ii_gt_f hc21) k) ?_
        show own_Fin _ _ _ _ _ _ _ (s₁.setTop (mkF m 24 #[.val (.int va)] []))
        refine own_Fin.go (fun t k => XS.iconst X0.here hx rfl (hb hby own_disl_24) k) ?_
        show own_Fin _ _ _ _ _ _ _ (s₁.setTop (mkF m 25 #[.val (.int va)] [(.int (1 : Int32))]))
        refine own_Fin.go (fun t k => XS.goto X0.here hx rfl (pc0 := 25) (pc' := 29) rfl (hb hby own_disl_25) (by decide) (by decide) k) ?_
        show own_Fin _ _ _ _ _ _ _ (s₁.setTop (mkF m 29 #[.val (.int va)] [(.int (1 : Int32))]))
        refine own_retN X0 hx (t := .boolean) (w := (1 : Int32)) Bd.returns (by simp) (hb hby own_disl_29) Bd.notSynchronized rfl (by decide) (by decide) ?_
        rw [e0]
        exact ⟨by simp only [own_isLet, if_pos hc3, if_neg hc15, if_neg hc21], N0, rfl⟩
  · refine own_Fin.go (fun t k => XS.icmpNo X0.here hx rfl (hb hby own_disl_3) rfl (Jvm.Free.XT.ii_lt_f hc3) k) ?_
    show own_Fin _ _ _ _ _ _ _ (s₁.setTop (mkF m 6 #[.val (.int va)] []))
    refine own_Fin.go (fun t k => XS.iloadN X0.here hx rfl (hb hby own_disl_6) rfl k) ?_
    show own_Fin _ _ _ _ _ _ _ (s₁.setTop (mkF m 7 #[.val (.int va)] [(.int va)]))
    refine own_Fin.go (fun t k => XS.bipush X0.here hx rfl (hb hby own_disl_7) k) ?_
    show own_Fin _ _ _ _ _ _ _ (s₁.setTop (mkF m 9 #[.val (.int va)] [(.int (122 : Int32)), (.int va)]))
    by_cases hc9 : (122 : Int32) < va
    · refine own_Fin.go (fun t k => XS.icmpNo X0.here hx rfl (hb hby own_disl_9) rfl (Jvm.Free.XT.ii_le_f hc9) k) ?_
      show own_Fin _ _ _ _ _ _ _ (s₁.setTop (mkF m 12 #[.val (.int va)] []))
      refine own_Fin.go (fun t k => XS.iloadN X0.here hx rfl (hb hby own_disl_12) rfl k) ?_
      show own_Fin _ _ _ _ _ _ _ (s₁.setTop (mkF m 13 #[.val (.int va)] [(.int va)]))
      refine own_Fin.go (fun t k => XS.bipush X0.here hx rfl (hb hby own_disl_13) k) ?_
      show own_Fin _ _ _ _ _ _ _ (s₁.setTop (mkF m 15 #[.val (.int va)] [(.int (65 : Int32)), (.int va)]))
      by_cases hc15 : va < (65 : Int32)
      · refine own_Fin.go (fun t k => XS.icmpYes X0.here hx rfl (pc0 := 15) (pc' := 28) rfl (hb hby own_disl_15) rfl (Jvm.Free.XT.ii_lt_t hc15) (by decide) (by decide) k) ?_
        show own_Fin _ _ _ _ _ _ _ (s₁.setTop (mkF m 28 #[.val (.int va)] []))
        refine own_Fin.go (fun t k => XS.iconst X0.here hx rfl (hb hby own_disl_28) k) ?_
        show own_Fin _ _ _ _ _ _ _ (s₁.setTop (mkF m 29 #[.val (.int va)] [(.int (0 : Int32))]))
        refine own_retN X0 hx (t := .boolean) (w := (0 : Int32)) Bd.returns (by simp) (hb hby own_disl_29) Bd.notSynchronized rfl (by decide) (by decide) ?_
        rw [e0]
        exact ⟨by simp only [own_isLet, if_neg hc3, if_pos hc9, if_pos hc15], N0, rfl⟩
      · refine own_Fin.go (fun t k => XS.icmpNo X0.here hx rfl (hb hby own_disl_15) rfl (Jvm.Free.XT.ii_lt_f hc15) k) ?_
        show own_Fin _ _ _ _ _ _ _ (s₁.setTop (mkF m 18 #[.val (.int va)] []))
        refine own_Fin.go (fun t k => XS.iloadN X0.here hx rfl (hb hby own_disl_18) rfl k) ?_
        show own_Fin _ _ _ _ _ _ _ (s₁.setTop (mkF m 19 #[.val (.int va)] [(.int va)]))
        refine own_Fin.go (fun t k => XS.bipush X0.here hx rfl (hb hby own_disl_19) k) ?_
        show own_Fin _ _ _ _ _ _ _ (s₁.setTop (mkF m 21 #[.val (.int va)] [(.int (90 : Int32)), (.int va)]))
        by_cases hc21 : (90 : Int32) < va
        · refine own_Fin.go (fun t k => XS.icmpYes X0.here hx rfl (pc0 := 21) (pc' := 28) rfl (hb hby own_disl_21) rfl (Jvm.Free.XT.ii_gt_t hc21) (by decide) (by decide) k) ?_
          show own_Fin _ _ _ _ _ _ _ (s₁.setTop (mkF m 28 #[.val (.int va)] []))
          refine own_Fin.go (fun t k => XS.iconst X0.here hx rfl (hb hby own_disl_28) k) ?_
          show own_Fin _ _ _ _ _ _ _ (s₁.setTop (mkF m 29 #[.val (.int va)] [(.int (0 : Int32))]))
          refine own_retN X0 hx (t := .boolean) (w := (0 : Int32)) Bd.returns (by simp) (hb hby own_disl_29) Bd.notSynchronized rfl (by decide) (by decide) ?_
          rw [e0]
          exact ⟨by simp only [own_isLet, if_neg hc3, if_pos hc9, if_neg hc15, if_pos hc21], N0, rfl⟩
        · refine own_Fin.go (fun t k => XS.icmpNo X0.here hx rfl (hb hby own_disl_21) rfl (Jvm.Free.XT.ii_gt_f hc21) k) ?_
          show own_Fin _ _ _ _ _ _ _ (s₁.setTop (mkF m 24 #[.val (.int va)] []))
          refine own_Fin.go (fun t k => XS.iconst X0.here hx rfl (hb hby own_disl_24) k) ?_
          show own_Fin _ _ _ _ _ _ _ (s₁.setTop (mkF m 25 #[.val (.int va)] [(.int (1 : Int32))]))
          refine own_Fin.go (fun t k => XS.goto X0.here hx rfl (pc0 := 25) (pc' := 29) rfl (hb hby own_disl_25) (by decide) (by decide) k) ?_
          show own_Fin _ _ _ _ _ _ _ (s₁.setTop (mkF m 29 #[.val (.int va)] [(.int (1 : Int32))]))
          refine own_retN X0 hx (t := .boolean) (w := (1 : Int32)) Bd.returns (by simp) (hb hby own_disl_29) Bd.notSynchronized rfl (by decide) (by decide) ?_
          rw [e0]
          exact ⟨by simp only [own_isLet, if_neg hc3, if_pos hc9, if_neg hc15, if_neg hc21], N0, rfl⟩
    · refine own_Fin.go (fun t k => XS.icmpYes X0.here hx rfl (pc0 := 9) (pc' := 24) rfl (hb hby own_disl_9) rfl (Jvm.Free.XT.ii_le_t hc9) (by decide) (by decide) k) ?_
      show own_Fin _ _ _ _ _ _ _ (s₁.setTop (mkF m 24 #[.val (.int va)] []))
      refine own_Fin.go (fun t k => XS.iconst X0.here hx rfl (hb hby own_disl_24) k) ?_
      show own_Fin _ _ _ _ _ _ _ (s₁.setTop (mkF m 25 #[.val (.int va)] [(.int (1 : Int32))]))
      refine own_Fin.go (fun t k => XS.goto X0.here hx rfl (pc0 := 25) (pc' := 29) rfl (hb hby own_disl_25) (by decide) (by decide) k) ?_
      show own_Fin _ _ _ _ _ _ _ (s₁.setTop (mkF m 29 #[.val (.int va)] [(.int (1 : Int32))]))
      refine own_retN X0 hx (t := .boolean) (w := (1 : Int32)) Bd.returns (by simp) (hb hby own_disl_29) Bd.notSynchronized rfl (by decide) (by decide) ?_
      rw [e0]
      exact ⟨by simp only [own_isLet, if_neg hc3, if_neg hc9], N0, rfl⟩
theorem own_dref_0 : decode method_2_code 0 = .ok (.iload_n 0, 1) := by decide +kernel
theorem own_dref_1 : decode method_2_code 1 = .ok (.bipush 32, 2) := by decide +kernel
theorem own_dref_3 : decode method_2_code 3 = .ok (.ior, 1) := by decide +kernel
theorem own_dref_4 : decode method_2_code 4 = .ok (.istore_n 1, 1) := by decide +kernel
theorem own_dref_5 : decode method_2_code 5 = .ok (.iload_n 1, 1) := by decide +kernel
theorem own_dref_6 : decode method_2_code 6 = .ok (.bipush 97, 2) := by decide +kernel
theorem own_dref_8 : decode method_2_code 8 = .ok (.if_icmp .lt 13, 3) := by decide +kernel
theorem own_dref_11 : decode method_2_code 11 = .ok (.iload_n 1, 1) := by decide +kernel
theorem own_dref_12 : decode method_2_code 12 = .ok (.bipush 122, 2) := by decide +kernel
theorem own_dref_14 : decode method_2_code 14 = .ok (.if_icmp .gt 7, 3) := by decide +kernel
theorem own_dref_17 : decode method_2_code 17 = .ok (.iconst 1, 1) := by decide +kernel
theorem own_dref_18 : decode method_2_code 18 = .ok (.goto 4, 3) := by decide +kernel
theorem own_dref_21 : decode method_2_code 21 = .ok (.iconst 0, 1) := by decide +kernel
theorem own_dref_22 : decode method_2_code 22 = .ok (.ireturn, 1) := by decide +kernel
theorem own_pn1 : plainName "com/example/starlace/starlace/io/TextCursorIsAsciiLetterPinLaw" = true := by first | (simp [plainName, overriddenIn]; done) | decide +kernel
theorem own_ef_ref (m : MethodId) (va : Int32) : entryFrame m #[(.int va)] 2 = mkF m 0 #[.val (.int va), .unset] [] := by first | (simp [entryFrame, mkF, argsToLocals, Value.category]; done) | rfl
def own_Q_ref (Z : State) (va : Int32) (h0 : Heap) (n0 : Nat) (v : Option Value) (h : Heap) (L : List Loc) : Prop := v = some (.int (own_ref va)) ∧ Fr n0 L ∧ h = h0
set_option maxRecDepth 65536 in
set_option maxHeartbeats 40000000 in
theorem own_rm_ref (l : Launch) (Z : State) (a0 : Array Value) (hw : ∀ d ∈ tables_1, d.before a0 Z = true) (ws : List Jvm.Cond) (va : Int32) (h0 : Heap) (n0 : Nat) (Z0 : n0 ≤ h0.size) :
    MetFree l (⟨"com/example/starlace/starlace/io/TextCursorIsAsciiLetterPinLaw", "reference", "(I)Z"⟩ : MethodName) (head1 (Jvm.Cond.code (⟨"com/example/starlace/starlace/io/TextCursorIsAsciiLetterPinLaw", "reference", "(I)Z"⟩ : MethodName) method_2_code 2 (some .boolean) :: ws) ({ frames := 0, cells := 0, slots := 0, locals := 0 } : Room)) (fun a U => a = #[(.int va)] ∧ Z.Warmed39 U.vm ∧ U.heap = h0) (fun _ _ _ _ _ => True) (fun _ U o U' => ∃ v L, o = .returned v ∧ own_Q_ref Z va h0 n0 v U'.heap L ∧ FrameEnd U o U' L ({ frames := 0, cells := 0, slots := 0, locals := 0 } : Room).cells ({ frames := 0, cells := 0, slots := 0, locals := 0 } : Room).slots) := by
  refine MetFree.of_bodySF (plainFor_of_name own_pn1) hisR ?_
  intro p e s m args below meth c s₁ Bd hml0 hP hK
  obtain ⟨rfl, hZ, hh⟩ := hP
  have hx := Bd.exec
  have hby := Bd.bytes
  have hml : c.maxLocals = 2 := hml0
  have hown : s.vm.findClass "com/example/starlace/starlace/io/TextCursorIsAsciiLetterPinLaw" = some m.cls := findClass_of_methodNamed Bd.named
  have hnm := (name_of_methodNamed Bd.named Bd.method).1
  have X0 : Stand p l e ({ frames := 0, cells := 0, slots := 0, locals := 0 } : Room) s m #[(.int va)] below meth c s₁ [] 0 0 := Stand.of_body Bd
  have e0 : s₁.heap = h0 := by rw [← hh, Bd.state]; rfl
  have N0 := Fr.nil n0
  show own_Fin p e below s (own_Q_ref Z va h0 n0) ({ frames := 0, cells := 0, slots := 0, locals := 0 } : Room).cells ({ frames := 0, cells := 0, slots := 0, locals := 0 } : Room).slots (s₁.setTop (entryFrame m #[(.int va)] 2))
  refine own_Fin.go (fun t k => castTop (own_ef_ref m va) k) ?_
  refine own_Fin.go (fun t k => XS.iloadN X0.here hx rfl (hb hby own_dref_0) rfl k) ?_
  show own_Fin _ _ _ _ _ _ _ (s₁.setTop (mkF m 1 #[.val (.int va), .unset] [(.int va)]))
  refine own_Fin.go (fun t k => XS.bipush X0.here hx rfl (hb hby own_dref_1) k) ?_
  show own_Fin _ _ _ _ _ _ _ (s₁.setTop (mkF m 3 #[.val (.int va), .unset] [(.int (32 : Int32)), (.int va)]))
  refine own_Fin.go (fun t k => XS.ior X0.here hx rfl (hb hby own_dref_3) rfl k) ?_
  show own_Fin _ _ _ _ _ _ _ (s₁.setTop (mkF m 4 #[.val (.int va), .unset] [(.int (va ||| (32 : Int32)))]))
  refine own_Fin.go (fun t k => XS.istoreN X0.here hx rfl (hb hby own_dref_4) rfl (l' := #[.val (.int va), .val (.int (va ||| (32 : Int32)))]) rfl k) ?_
  show own_Fin _ _ _ _ _ _ _ (s₁.setTop (mkF m 5 #[.val (.int va), .val (.int (va ||| (32 : Int32)))] []))
  refine own_Fin.go (fun t k => XS.iloadN X0.here hx rfl (hb hby own_dref_5) rfl k) ?_
  show own_Fin _ _ _ _ _ _ _ (s₁.setTop (mkF m 6 #[.val (.int va), .val (.int (va ||| (32 : Int32)))] [(.int (va ||| (32 : Int32)))]))
  refine own_Fin.go (fun t k => XS.bipush X0.here hx rfl (hb hby own_dref_6) k) ?_
  show own_Fin _ _ _ _ _ _ _ (s₁.setTop (mkF m 8 #[.val (.int va), .val (.int (va ||| (32 : Int32)))] [(.int (97 : Int32)), (.int (va ||| (32 : Int32)))]))
  by_cases hc8 : (va ||| (32 : Int32)) < (97 : Int32)
  · refine own_Fin.go (fun t k => XS.icmpYes X0.here hx rfl (pc0 := 8) (pc' := 21) rfl (hb hby own_dref_8) rfl (Jvm.Free.XT.ii_lt_t hc8) (by decide) (by decide) k) ?_
    show own_Fin _ _ _ _ _ _ _ (s₁.setTop (mkF m 21 #[.val (.int va), .val (.int (va ||| (32 : Int32)))] []))
    refine own_Fin.go (fun t k => XS.iconst X0.here hx rfl (hb hby own_dref_21) k) ?_
    show own_Fin _ _ _ _ _ _ _ (s₁.setTop (mkF m 22 #[.val (.int va), .val (.int (va ||| (32 : Int32)))] [(.int (0 : Int32))]))
    refine own_retN X0 hx (t := .boolean) (w := (0 : Int32)) Bd.returns (by simp) (hb hby own_dref_22) Bd.notSynchronized rfl (by decide) (by decide) ?_
    rw [e0]
    exact ⟨by simp only [own_ref, if_pos hc8], N0, rfl⟩
  · refine own_Fin.go (fun t k => XS.icmpNo X0.here hx rfl (hb hby own_dref_8) rfl (Jvm.Free.XT.ii_lt_f hc8) k) ?_
    show own_Fin _ _ _ _ _ _ _ (s₁.setTop (mkF m 11 #[.val (.int va), .val (.int (va ||| (32 : Int32)))] []))
    refine own_Fin.go (fun t k => XS.iloadN X0.here hx rfl (hb hby own_dref_11) rfl k) ?_
    show own_Fin _ _ _ _ _ _ _ (s₁.setTop (mkF m 12 #[.val (.int va), .val (.int (va ||| (32 : Int32)))] [(.int (va ||| (32 : Int32)))]))
    refine own_Fin.go (fun t k => XS.bipush X0.here hx rfl (hb hby own_dref_12) k) ?_
    show own_Fin _ _ _ _ _ _ _ (s₁.setTop (mkF m 14 #[.val (.int va), .val (.int (va ||| (32 : Int32)))] [(.int (122 : Int32)), (.int (va ||| (32 : Int32)))]))
    by_cases hc14 : (122 : Int32) < (va ||| (32 : Int32))
    · refine own_Fin.go (fun t k => XS.icmpYes X0.here hx rfl (pc0 := 14) (pc' := 21) rfl (hb hby own_dref_14) rfl (Jvm.Free.XT.ii_gt_t hc14) (by decide) (by decide) k) ?_
      show own_Fin _ _ _ _ _ _ _ (s₁.setTop (mkF m 21 #[.val (.int va), .val (.int (va ||| (32 : Int32)))] []))
      refine own_Fin.go (fun t k => XS.iconst X0.here hx rfl (hb hby own_dref_21) k) ?_
      show own_Fin _ _ _ _ _ _ _ (s₁.setTop (mkF m 22 #[.val (.int va), .val (.int (va ||| (32 : Int32)))] [(.int (0 : Int32))]))
      refine own_retN X0 hx (t := .boolean) (w := (0 : Int32)) Bd.returns (by simp) (hb hby own_dref_22) Bd.notSynchronized rfl (by decide) (by decide) ?_
      rw [e0]
      exact ⟨by simp only [own_ref, if_neg hc8, if_pos hc14], N0, rfl⟩
    · refine own_Fin.go (fun t k => XS.icmpNo X0.here hx rfl (hb hby own_dref_14) rfl (Jvm.Free.XT.ii_gt_f hc14) k) ?_
      show own_Fin _ _ _ _ _ _ _ (s₁.setTop (mkF m 17 #[.val (.int va), .val (.int (va ||| (32 : Int32)))] []))
      refine own_Fin.go (fun t k => XS.iconst X0.here hx rfl (hb hby own_dref_17) k) ?_
      show own_Fin _ _ _ _ _ _ _ (s₁.setTop (mkF m 18 #[.val (.int va), .val (.int (va ||| (32 : Int32)))] [(.int (1 : Int32))]))
      refine own_Fin.go (fun t k => XS.goto X0.here hx rfl (pc0 := 18) (pc' := 22) rfl (hb hby own_dref_18) (by decide) (by decide) k) ?_
      show own_Fin _ _ _ _ _ _ _ (s₁.setTop (mkF m 22 #[.val (.int va), .val (.int (va ||| (32 : Int32)))] [(.int (1 : Int32))]))
      refine own_retN X0 hx (t := .boolean) (w := (1 : Int32)) Bd.returns (by simp) (hb hby own_dref_22) Bd.notSynchronized rfl (by decide) (by decide) ?_
      rw [e0]
      exact ⟨by simp only [own_ref, if_neg hc8, if_neg hc14], N0, rfl⟩
theorem own_pd0 : parseMethodDescriptor "(I)Z" = some ⟨[.int], some .boolean⟩ := by decide +kernel
theorem own_ef_law (m : MethodId) (va : Int32) (vb : Int32) : entryFrame m #[(.int va), (.int vb)] maxLocals = mkF m 0 #[.val (.int va), .val (.int vb), .unset, .unset, .unset] [] := by first | (simp [entryFrame, mkF, argsToLocals, Value.category, maxLocals]; done) | rfl
def own_Q_law (Z : State) (va : Int32) (vb : Int32) (h0 : Heap) (n0 : Nat) (v : Option Value) (h : Heap) (L : List Loc) : Prop := v = some (.int (1 : Int32)) ∧ Fr n0 L
set_option maxRecDepth 65536 in
set_option maxHeartbeats 40000000 in
theorem own_rm_law (l : Launch) (Z : State) (a0 : Array Value) (hw : ∀ d ∈ tables_1, d.before a0 Z = true) (ws : List Jvm.Cond) (va : Int32) (vb : Int32) (h0 : Heap) (n0 : Nat) (Z0 : n0 ≤ h0.size) :
    MetFree l x (head1 (Jvm.Cond.code x code maxLocals ret :: ws) room_1) (fun a U => a = #[(.int va), (.int vb)] ∧ Z.Warmed39 U.vm ∧ U.heap = h0) (fun _ _ _ _ _ => True) (fun _ U o U' => ∃ v L, o = .returned v ∧ own_Q_law Z va vb h0 n0 v U'.heap L ∧ FrameEnd U o U' L room_1.cells room_1.slots) := by
  refine MetFree.of_bodySF (plainFor_of_name own_pn1) hisR ?_
  intro p e s m args below meth c s₁ Bd hml0 hP hK
  obtain ⟨rfl, hZ, hh⟩ := hP
  have hx := Bd.exec
  have hby := Bd.bytes
  have hml : c.maxLocals = 5 := hml0
  have hown : s.vm.findClass "com/example/starlace/starlace/io/TextCursorIsAsciiLetterPinLaw" = some m.cls := findClass_of_methodNamed Bd.named
  have hnm := (name_of_methodNamed Bd.named Bd.method).1
  have X0 : Stand p l e room_1 s m #[(.int va), (.int vb)] below meth c s₁ [] 0 0 := Stand.of_body Bd
  have e0 : s₁.heap = h0 := by rw [← hh, Bd.state]; rfl
  have N0 := Fr.nil n0
  show own_Fin p e below s (own_Q_law Z va vb h0 n0) room_1.cells room_1.slots (s₁.setTop (entryFrame m #[(.int va), (.int vb)] maxLocals))
  refine own_Fin.go (fun t k => castTop (own_ef_law m va vb) k) ?_
  refine own_Fin.go (fun t k => XS.iloadN X0.here hx rfl (hb hby at_0) rfl k) ?_
  show own_Fin _ _ _ _ _ _ _ (s₁.setTop (mkF m 1 #[.val (.int va), .val (.int vb), .unset, .unset, .unset] [(.int vb)]))
  refine own_Fin.go (fun t k => XS.sipush X0.here hx rfl (hb hby at_1) k) ?_
  show own_Fin _ _ _ _ _ _ _ (s₁.setTop (mkF m 4 #[.val (.int va), .val (.int vb), .unset, .unset, .unset] [(.int (255 : Int32)), (.int vb)]))
  refine own_Fin.go (fun t k => XS.iand X0.here hx rfl (hb hby at_4) rfl k) ?_
  show own_Fin _ _ _ _ _ _ _ (s₁.setTop (mkF m 5 #[.val (.int va), .val (.int vb), .unset, .unset, .unset] [(.int (vb &&& (255 : Int32)))]))
  refine own_Fin.go (fun t k => XS.istoreN X0.here hx rfl (hb hby at_5) rfl (l' := #[.val (.int va), .val (.int vb), .val (.int (vb &&& (255 : Int32))), .unset, .unset]) rfl k) ?_
  show own_Fin _ _ _ _ _ _ _ (s₁.setTop (mkF m 6 #[.val (.int va), .val (.int vb), .val (.int (vb &&& (255 : Int32))), .unset, .unset] []))
  refine own_Fin.go (fun t k => XS.iloadN X0.here hx rfl (hb hby at_6) rfl k) ?_
  show own_Fin _ _ _ _ _ _ _ (s₁.setTop (mkF m 7 #[.val (.int va), .val (.int vb), .val (.int (vb &&& (255 : Int32))), .unset, .unset] [(.int va)]))
  obtain ⟨_, _, ⟨T1, L1, k1, n1⟩, -, X1, ⟨Lc1, hQ1, l1, y1, z1⟩, st1⟩ := Jvm.LawKit.callS X0 hx (y := (⟨"com/example/starlace/starlace/io/TextCursor", "isAsciiLetter", "(I)Z"⟩ : MethodName)) hown (mvT hZ (hw _ (List.mem_of_getElem? (i := 0) rfl))) (mvT hZ (hw _ (List.mem_of_getElem? (i := 1) rfl))) (mvT hZ (hw _ (List.mem_of_getElem? (i := 2) rfl))) (mvT hZ (hw _ (List.mem_of_getElem? (i := 3) rfl))) (by decide) (backOf (W := 0) (own_rm_isl l Z a0 hw [] va  h0 n0 Z0 ) hZ (hw _ (List.mem_of_getElem? (i := 3) rfl)) (hw _ (List.mem_of_getElem? (i := 2) rfl)) (by decide) (by decide)) (g := (mkF m 7 #[.val (.int va), .val (.int vb), .val (.int (vb &&& (255 : Int32))), .unset, .unset] [(.int va)])) rfl (by rw [hml]; rfl) (argsL := [(.int va)]) (rest := []) (lenOf own_pd0 rfl) rfl (by show 2 * 0 + _ ≤ _; exact Nat.le_of_eq rfl) (hb hby at_7) (fun _ _ => ⟨rfl, e0, (by decide : 0 + 0 ≤ _), (by decide : 0 + 0 ≤ _)⟩)
  dsimp only [Pt.U, Pt.locs, Pt.cells, Pt.slots] at X1 l1 y1 z1 st1 hQ1
  subst l1 y1 z1
  obtain ⟨rfl, N1q, e1⟩ := hQ1
  refine own_Fin.go (fun t k => st1 t k) ?_
  have N1 := Fr.app N0 N1q
  show own_Fin _ _ _ _ _ _ _ (T1.setTop (mkF m 10 #[.val (.int va), .val (.int vb), .val (.int (vb &&& (255 : Int32))), .unset, .unset] [(.int (own_isLet va))]))
  refine own_Fin.go (fun t k => XS.iloadN X1.here hx rfl (hb hby at_10) rfl k) ?_
  show own_Fin _ _ _ _ _ _ _ (T1.setTop (mkF m 11 #[.val (.int va), .val (.int vb), .val (.int (vb &&& (255 : Int32))), .unset, .unset] [(.int va), (.int (own_isLet va))]))
  obtain ⟨_, _, ⟨T2, L2, k2, n2⟩, -, X2, ⟨Lc2, hQ2, l2, y2, z2⟩, st2⟩ := Jvm.LawKit.callS X1 hx (y := (⟨"com/example/starlace/starlace/io/TextCursorIsAsciiLetterPinLaw", "reference", "(I)Z"⟩ : MethodName)) hown (mvT hZ (hw _ (List.mem_of_getElem? (i := 4) rfl))) (mvT hZ (hw _ (List.mem_of_getElem? (i := 5) rfl))) (mvT hZ (hw _ (List.mem_of_getElem? (i := 6) rfl))) (mvT hZ (hw _ (List.mem_of_getElem? (i := 7) rfl))) (by decide) (backOf (W := 1) (own_rm_ref l Z a0 hw [] va  h0 n0 Z0 ) hZ (hw _ (List.mem_of_getElem? (i := 7) rfl)) (hw _ (List.mem_of_getElem? (i := 6) rfl)) (by decide) (by decide)) (g := (mkF m 11 #[.val (.int va), .val (.int vb), .val (.int (vb &&& (255 : Int32))), .unset, .unset] [(.int va), (.int (own_isLet va))])) rfl (by rw [hml]; rfl) (argsL := [(.int va)]) (rest := [(.int (own_isLet va))]) (lenOf own_pd0 rfl) rfl (by show 2 * 0 + _ ≤ _; exact Nat.le_of_eq rfl) (hb hby at_11) (fun _ _ => ⟨rfl, e1, (by decide : 0 + 0 ≤ _), (by decide : 0 + 0 ≤ _)⟩)
  dsimp only [Pt.U, Pt.locs, Pt.cells, Pt.slots] at X2 l2 y2 z2 st2 hQ2
  subst l2 y2 z2
  obtain ⟨rfl, N2q, e2⟩ := hQ2
  refine own_Fin.go (fun t k => st2 t k) ?_
  have N2 := Fr.app N1 N2q
  show own_Fin _ _ _ _ _ _ _ (T2.setTop (mkF m 14 #[.val (.int va), .val (.int vb), .val (.int (vb &&& (255 : Int32))), .unset, .unset] [(.int (own_ref va)), (.int (own_isLet va))]))
  have hc14 : (own_isLet va) = (own_ref va) := own_plain _
  refine own_Fin.go (fun t k => XS.icmpNo X2.here hx rfl (hb hby at_14) rfl (Jvm.Free.XT.ii_ne_f hc14) k) ?_
  show own_Fin _ _ _ _ _ _ _ (T2.setTop (mkF m 17 #[.val (.int va), .val (.int vb), .val (.int (vb &&& (255 : Int32))), .unset, .unset] []))
  refine own_Fin.go (fun t k => XS.iconst X2.here hx rfl (hb hby at_17) k) ?_
  show own_Fin _ _ _ _ _ _ _ (T2.setTop (mkF m 18 #[.val (.int va), .val (.int vb), .val (.int (vb &&& (255 : Int32))), .unset, .unset] [(.int (1 : Int32))]))
  refine own_Fin.go (fun t k => XS.goto X2.here hx rfl (pc0 := 18) (pc' := 22) rfl (hb hby at_18) (by decide) (by decide) k) ?_
  show own_Fin _ _ _ _ _ _ _ (T2.setTop (mkF m 22 #[.val (.int va), .val (.int vb), .val (.int (vb &&& (255 : Int32))), .unset, .unset] [(.int (1 : Int32))]))
  refine own_Fin.go (fun t k => XS.istoreN X2.here hx rfl (hb hby at_22) rfl (l' := #[.val (.int va), .val (.int vb), .val (.int (vb &&& (255 : Int32))), .val (.int (1 : Int32)), .unset]) rfl k) ?_
  show own_Fin _ _ _ _ _ _ _ (T2.setTop (mkF m 23 #[.val (.int va), .val (.int vb), .val (.int (vb &&& (255 : Int32))), .val (.int (1 : Int32)), .unset] []))
  refine own_Fin.go (fun t k => XS.iloadN X2.here hx rfl (hb hby at_23) rfl k) ?_
  show own_Fin _ _ _ _ _ _ _ (T2.setTop (mkF m 24 #[.val (.int va), .val (.int vb), .val (.int (vb &&& (255 : Int32))), .val (.int (1 : Int32)), .unset] [(.int (vb &&& (255 : Int32)))]))
  obtain ⟨_, _, ⟨T3, L3, k3, n3⟩, -, X3, ⟨Lc3, hQ3, l3, y3, z3⟩, st3⟩ := Jvm.LawKit.callS X2 hx (y := (⟨"com/example/starlace/starlace/io/TextCursor", "isAsciiLetter", "(I)Z"⟩ : MethodName)) hown (mvT hZ (hw _ (List.mem_of_getElem? (i := 0) rfl))) (mvT hZ (hw _ (List.mem_of_getElem? (i := 1) rfl))) (mvT hZ (hw _ (List.mem_of_getElem? (i := 2) rfl))) (mvT hZ (hw _ (List.mem_of_getElem? (i := 3) rfl))) (by decide) (backOf (W := 0) (own_rm_isl l Z a0 hw [] (vb &&& (255 : Int32))  h0 n0 Z0 ) hZ (hw _ (List.mem_of_getElem? (i := 3) rfl)) (hw _ (List.mem_of_getElem? (i := 2) rfl)) (by decide) (by decide)) (g := (mkF m 24 #[.val (.int va), .val (.int vb), .val (.int (vb &&& (255 : Int32))), .val (.int (1 : Int32)), .unset] [(.int (vb &&& (255 : Int32)))])) rfl (by rw [hml]; rfl) (argsL := [(.int (vb &&& (255 : Int32)))]) (rest := []) (lenOf own_pd0 rfl) rfl (by show 2 * 0 + _ ≤ _; exact Nat.le_of_eq rfl) (hb hby at_24) (fun _ _ => ⟨rfl, e2, (by decide : 0 + 0 ≤ _), (by decide : 0 + 0 ≤ _)⟩)
  dsimp only [Pt.U, Pt.locs, Pt.cells, Pt.slots] at X3 l3 y3 z3 st3 hQ3
  subst l3 y3 z3
  obtain ⟨rfl, N3q, e3⟩ := hQ3
  refine own_Fin.go (fun t k => st3 t k) ?_
  have N3 := Fr.app N2 N3q
  show own_Fin _ _ _ _ _ _ _ (T3.setTop (mkF m 27 #[.val (.int va), .val (.int vb), .val (.int (vb &&& (255 : Int32))), .val (.int (1 : Int32)), .unset] [(.int (own_isLet (vb &&& (255 : Int32))))]))
  refine own_Fin.go (fun t k => XS.iloadN X3.here hx rfl (hb hby at_27) rfl k) ?_
  show own_Fin _ _ _ _ _ _ _ (T3.setTop (mkF m 28 #[.val (.int va), .val (.int vb), .val (.int (vb &&& (255 : Int32))), .val (.int (1 : Int32)), .unset] [(.int (vb &&& (255 : Int32))), (.int (own_isLet (vb &&& (255 : Int32))))]))
  obtain ⟨_, _, ⟨T4, L4, k4, n4⟩, -, X4, ⟨Lc4, hQ4, l4, y4, z4⟩, st4⟩ := Jvm.LawKit.callS X3 hx (y := (⟨"com/example/starlace/starlace/io/TextCursorIsAsciiLetterPinLaw", "reference", "(I)Z"⟩ : MethodName)) hown (mvT hZ (hw _ (List.mem_of_getElem? (i := 4) rfl))) (mvT hZ (hw _ (List.mem_of_getElem? (i := 5) rfl))) (mvT hZ (hw _ (List.mem_of_getElem? (i := 6) rfl))) (mvT hZ (hw _ (List.mem_of_getElem? (i := 7) rfl))) (by decide) (backOf (W := 1) (own_rm_ref l Z a0 hw [] (vb &&& (255 : Int32))  h0 n0 Z0 ) hZ (hw _ (List.mem_of_getElem? (i := 7) rfl)) (hw _ (List.mem_of_getElem? (i := 6) rfl)) (by decide) (by decide)) (g := (mkF m 28 #[.val (.int va), .val (.int vb), .val (.int (vb &&& (255 : Int32))), .val (.int (1 : Int32)), .unset] [(.int (vb &&& (255 : Int32))), (.int (own_isLet (vb &&& (255 : Int32))))])) rfl (by rw [hml]; rfl) (argsL := [(.int (vb &&& (255 : Int32)))]) (rest := [(.int (own_isLet (vb &&& (255 : Int32))))]) (lenOf own_pd0 rfl) rfl (by show 2 * 0 + _ ≤ _; exact Nat.le_of_eq rfl) (hb hby at_28) (fun _ _ => ⟨rfl, e3, (by decide : 0 + 0 ≤ _), (by decide : 0 + 0 ≤ _)⟩)
  dsimp only [Pt.U, Pt.locs, Pt.cells, Pt.slots] at X4 l4 y4 z4 st4 hQ4
  subst l4 y4 z4
  obtain ⟨rfl, N4q, e4⟩ := hQ4
  refine own_Fin.go (fun t k => st4 t k) ?_
  have N4 := Fr.app N3 N4q
  show own_Fin _ _ _ _ _ _ _ (T4.setTop (mkF m 31 #[.val (.int va), .val (.int vb), .val (.int (vb &&& (255 : Int32))), .val (.int (1 : Int32)), .unset] [(.int (own_ref (vb &&& (255 : Int32)))), (.int (own_isLet (vb &&& (255 : Int32))))]))
  have hc31 : (own_isLet (vb &&& (255 : Int32))) = (own_ref (vb &&& (255 : Int32))) := own_plain _
  refine own_Fin.go (fun t k => XS.icmpNo X4.here hx rfl (hb hby at_31) rfl (Jvm.Free.XT.ii_ne_f hc31) k) ?_
  show own_Fin _ _ _ _ _ _ _ (T4.setTop (mkF m 34 #[.val (.int va), .val (.int vb), .val (.int (vb &&& (255 : Int32))), .val (.int (1 : Int32)), .unset] []))
  refine own_Fin.go (fun t k => XS.iconst X4.here hx rfl (hb hby at_34) k) ?_
  show own_Fin _ _ _ _ _ _ _ (T4.setTop (mkF m 35 #[.val (.int va), .val (.int vb), .val (.int (vb &&& (255 : Int32))), .val (.int (1 : Int32)), .unset] [(.int (1 : Int32))]))
  refine own_Fin.go (fun t k => XS.goto X4.here hx rfl (pc0 := 35) (pc' := 39) rfl (hb hby at_35) (by decide) (by decide) k) ?_
  show own_Fin _ _ _ _ _ _ _ (T4.setTop (mkF m 39 #[.val (.int va), .val (.int vb), .val (.int (vb &&& (255 : Int32))), .val (.int (1 : Int32)), .unset] [(.int (1 : Int32))]))
  refine own_Fin.go (fun t k => XS.istore X4.here hx rfl (hb hby at_39) rfl (l' := #[.val (.int va), .val (.int vb), .val (.int (vb &&& (255 : Int32))), .val (.int (1 : Int32)), .val (.int (1 : Int32))]) rfl k) ?_
  show own_Fin _ _ _ _ _ _ _ (T4.setTop (mkF m 41 #[.val (.int va), .val (.int vb), .val (.int (vb &&& (255 : Int32))), .val (.int (1 : Int32)), .val (.int (1 : Int32))] []))
  refine own_Fin.go (fun t k => XS.iloadN X4.here hx rfl (hb hby at_41) rfl k) ?_
  show own_Fin _ _ _ _ _ _ _ (T4.setTop (mkF m 42 #[.val (.int va), .val (.int vb), .val (.int (vb &&& (255 : Int32))), .val (.int (1 : Int32)), .val (.int (1 : Int32))] [(.int (1 : Int32))]))
  refine own_Fin.go (fun t k => XS.ifNo X4.here hx rfl (hb hby at_42) rfl (by decide) k) ?_
  show own_Fin _ _ _ _ _ _ _ (T4.setTop (mkF m 45 #[.val (.int va), .val (.int vb), .val (.int (vb &&& (255 : Int32))), .val (.int (1 : Int32)), .val (.int (1 : Int32))] []))
  refine own_Fin.go (fun t k => XS.iload X4.here hx rfl (hb hby at_45) rfl k) ?_
  show own_Fin _ _ _ _ _ _ _ (T4.setTop (mkF m 47 #[.val (.int va), .val (.int vb), .val (.int (vb &&& (255 : Int32))), .val (.int (1 : Int32)), .val (.int (1 : Int32))] [(.int (1 : Int32))]))
  refine own_Fin.go (fun t k => XS.ifNo X4.here hx rfl (hb hby at_47) rfl (by decide) k) ?_
  show own_Fin _ _ _ _ _ _ _ (T4.setTop (mkF m 50 #[.val (.int va), .val (.int vb), .val (.int (vb &&& (255 : Int32))), .val (.int (1 : Int32)), .val (.int (1 : Int32))] []))
  refine own_Fin.go (fun t k => XS.iconst X4.here hx rfl (hb hby at_50) k) ?_
  show own_Fin _ _ _ _ _ _ _ (T4.setTop (mkF m 51 #[.val (.int va), .val (.int vb), .val (.int (vb &&& (255 : Int32))), .val (.int (1 : Int32)), .val (.int (1 : Int32))] [(.int (1 : Int32))]))
  refine own_Fin.go (fun t k => XS.goto X4.here hx rfl (pc0 := 51) (pc' := 55) rfl (hb hby at_51) (by decide) (by decide) k) ?_
  show own_Fin _ _ _ _ _ _ _ (T4.setTop (mkF m 55 #[.val (.int va), .val (.int vb), .val (.int (vb &&& (255 : Int32))), .val (.int (1 : Int32)), .val (.int (1 : Int32))] [(.int (1 : Int32))]))
  refine own_retN X4 hx (t := .boolean) (w := (1 : Int32)) Bd.returns (by simp) (hb hby at_55) Bd.notSynchronized rfl (by decide) (by decide) ?_
  rw [e4]
  exact ⟨rfl, N4⟩
set_option maxRecDepth 65536 in
set_option maxHeartbeats 40000000 in
theorem comes_1 {Post : Tables → Env → Array Value → State → Outcome → State → Prop} (hpost : ∀ tb e args s v u, (limb_1_1.after args s (.returned v) u = true ∧ limb_1_2.after args s (.returned v) u = true ∧ True) → FrameEnd s (.returned v) u (Jvm.fieldLocs frame_1_writes args s ++ Jvm.arrayLocs frame_1_arrays args s ++ Jvm.staticLocs frame_1_statics s) 0 0 → Post tb e args s (.returned v) u) :
    ArmFor flags0 classFile x code maxLocals ret World_1 tables_1 room_1 Calls_1 rest_1 Pre_1 Post := by
  intro l hfl _ _ p e ha hc hk s m args below hf hA hF happ hP
  obtain ⟨hcalls, hrest, hpre⟩ := hP
  obtain ⟨-, -, -, hnamed, -, -, -, hat⟩ := (Spec.applies_iff hf).mp happ
  obtain ⟨hg, hn⟩ := and_e (Cond.before_iff.mp (show (Jvm.Cond.and given_1 narrow_1).before args s = true from hpre))
  obtain ⟨hg0, hr0⟩ := and_e hg
  obtain ⟨hg1, hr1⟩ := and_e hr0
  obtain ⟨w0, w1, rfl⟩ : ∃ w0 w1 : Value, args = #[w0, w1] := by
    have hs : args.size = 2 := by simpa [Cond.value, given_1] using hg0
    obtain ⟨L⟩ := args
    match L, hs with
    | [w0, w1], _ => exact ⟨w0, w1, rfl⟩
  have hw := fun d (hd : d ∈ tables_1) => atoms_spec (ws := Jvm.Cond.code x code maxLocals ret :: tables_1) hat d (List.mem_cons_of_mem _ hd)
  have hfit : Fit s := fun {y c} hc i hi => by
    obtain ⟨ha, rfl⟩ := Array.getElem?_eq_some_iff.mp hc
    have q := List.all_eq_true.mp ((Array.all_eq_true_iff_forall_mem.mp hF) _ (Array.getElem_mem ha)) i (List.mem_range.mpr hi)
    simpa [Array.getElem?_eq_getElem hi] using q
  obtain ⟨i0, ei0⟩ := is_v hg1
  obtain rfl : w0 = (.int i0) := Option.some.inj ei0
  obtain ⟨i1, ei1⟩ := is_v hr1
  obtain rfl : w1 = (.int i1) := Option.some.inj ei1
  obtain ⟨n, o, h1, h2, h3, _, L, rfl, ⟨rfl, N⟩, hq⟩ := own_rm_law l s _ hw tables_1 i0 i1  s.heap s.heap.size (Nat.le_refl _)  p e ha hc hk s m _ below hf ((Spec.applies_iff_loose hf).mp happ).1 ⟨rfl, State.Warmed39.refl s, rfl⟩ trivial
  refine ⟨n, _, h1, h2, h3, hpost _ _ _ _ _ _ ⟨Cond.after_iff.mpr rfl, Cond.after_iff.mpr (eq_i res_at (Term.int_eval (1)) rfl), trivial⟩ ⟨hq.1, hq.2.1, (hq.2.2.sift fun y hy => Or.inr (N y hy)).mono (by decide) (by decide)⟩⟩
theorem main_1_1 : Claimed_1_1 := comes_1 fun _ _ _ _ _ _ h hF => ⟨h.1, hF⟩
theorem main_1_2 : Claimed_1_2 := comes_1 fun _ _ _ _ _ _ h hF => ⟨h.2.1, hF⟩
end Jvm.Pilot.@@N@@
namespace Jvm.Pilot.@@N@@
open Jvm Jvm.ClassFile Sem Op Lib Jvm.Free Jvm.Stand Jvm.Pilot.@@N@@.Jvm.D
/-! MADE BY PROGRAM (witnessworld.py) out of the Statement's table words and the real class files: 9 classes; the members and pool entries that the words name. The judged class is class 1, her method 2. -/
namespace start1
open Jvm.ClassFile
def u (s : String) : CpInfo := .utf8 (stringToUtf16 s)
/-- a pool by its gaps: so many unusable entries, then the entry; so many at the end -/
def gap : Nat → List CpInfo → List CpInfo
  | 0, r => r
  | n + 1, r => .unusable :: gap n r
def poolList (es : List (Nat × CpInfo)) (last : Nat) : List CpInfo := es.foldr (fun e r => gap e.1 (e.2 :: r)) (gap last [])
def pool (es : List (Nat × CpInfo)) (last : Nat) : Array CpInfo := ⟨poolList es last⟩
def fileOf (pool : Array CpInfo) (this : Nat) (attrs : Array Attribute := #[]) (ms : Array MethodInfo := #[]) (fl : Nat := 33) (sup : Nat := 0) (ifs : Array Nat := #[]) (fds : Array FieldInfo := #[]) : ClassFile where
  minorVersion := 0
  majorVersion := 65
  constantPool := pool
  accessFlags := fl
  thisClass := this
  superClass := sup
  interfaces := ifs
  fields := fds
  methods := ms
  attributes := attrs
def plain (name : String) (sup : Option ClassId) : Class where
  name := name
  kind := .ordinary
  loader := none
  accessFlags := 33
  super := sup
  interfaces := #[]
  cf := none
  fields := #[]
  methods := #[]
  instanceTypes := #[]
  staticTypes := #[]
  resolved := #[]
  callSites := []
  init := .initialized
  statics := none
  mirror := none

def pool0 : Array CpInfo := pool [(5, u "<init>"), (0, u "()V"), (1, .class_ 10), (1, u "java/lang/Object")] 113

def k0m0 : Method := { name := "<init>", desc := "()V", sig := { parameters := [], returnType := none }, accessFlags := 1, code := none }
/-- java/lang/Object -/
def k0 : Class := { plain "java/lang/Object" none with
  accessFlags := 33
  interfaces := #[]
  cf := some (fileOf pool0 8 #[] #[{ accessFlags := 1, nameIndex := 5, descriptorIndex := 6, attributes := #[] }] 33 0 #[] #[])
  fields := #[]
  methods := #[k0m0]
  instanceTypes := #[]
  staticTypes := #[]
  resolved := Array.replicate 124 none
  statics := none }

def pool1 : Array CpInfo := pool [(2, .class_ 4), (1, u "java/lang/Object"), (0, u "<init>"), (0, u "()V"), (0, .methodref 8 9), (0, .class_ 10), (0, .nameAndType 11 12), (0, u "com/example/starlace/starlace/io/TextCursor"), (0, u "isAsciiLetter"), (0, u "(I)Z"), (0, .methodref 14 15), (0, .class_ 16), (0, .nameAndType 17 12), (0, u "com/example/starlace/starlace/io/TextCursorIsAsciiLetterPinLaw"), (0, u "reference"), (3, u "law"), (0, u "(II)Z")] 2

def k1m0 : Method := { name := "<init>", desc := "()V", sig := { parameters := [], returnType := none }, accessFlags := 2, code := none }
def k1c1 : Code := { maxStack := 2, maxLocals := 2, code := method_2_code, exceptionTable := #[], attributes := #[] }
def k1m1 : Method := { name := "reference", desc := "(I)Z", sig := { parameters := [.int], returnType := some .boolean }, accessFlags := 10, code := some k1c1 }
def k1c2 : Code := { maxStack := 2, maxLocals := 5, code := code, exceptionTable := #[], attributes := #[] }
def k1m2 : Method := { name := "law", desc := "(II)Z", sig := { parameters := [.int, .int], returnType := some .boolean }, accessFlags := 9, code := some k1c2 }
/-- com/example/starlace/starlace/io/TextCursorIsAsciiLetterPinLaw -/
def k1 : Class := { plain "com/example/starlace/starlace/io/TextCursorIsAsciiLetterPinLaw" (some 0) with
  accessFlags := 49
  interfaces := #[]
  cf := some (fileOf pool1 14 #[] #[{ accessFlags := 2, nameIndex := 5, descriptorIndex := 6, attributes := #[] }, { accessFlags := 10, nameIndex := 17, descriptorIndex := 12, attributes := #[] }, { accessFlags := 9, nameIndex := 21, descriptorIndex := 22, attributes := #[] }] 49 2 #[] #[])
  fields := #[]
  methods := #[k1m0, k1m1, k1m2]
  instanceTypes := #[]
  staticTypes := #[]
  resolved := Array.replicate 25 none
  statics := none }

def pool2 : Array CpInfo := pool [(2, .class_ 4), (1, u "com/example/starlace/starlace/io/TextCursor"), (5, .class_ 12), (1, u "java/lang/Object"), (5, u "text"), (0, u "Ljava/lang/String;"), (2, u "firstLine"), (0, u "J"), (2, u "file"), (2, u "endOfText"), (2, u "lines"), (0, u "Lcom/example/starlace/starlace/io/LineReader;"), (2, u "position"), (0, u "I"), (2, u "spent"), (0, u "Z"), (49, u "(I)Z"), (169, .class_ 263), (1, u "com/example/starlace/starlace/io/TextCursor$SpaceSkipper"), (12, .class_ 278), (1, u "com/example/starlace/starlace/io/TextCursor$IriReader"), (48, u "isAsciiLetter"), (41, u "THREE_DOUBLE_QUOTES"), (1, u "THREE_SINGLE_QUOTES"), (0, u "LOCAL_ESCAPABLE")] 50

def k2c0 : Code := { maxStack := 2, maxLocals := 1, code := prog_39_method_47_code, exceptionTable := #[], attributes := #[] }
def k2m0 : Method := { name := "isAsciiLetter", desc := "(I)Z", sig := { parameters := [.int], returnType := some .boolean }, accessFlags := 8, code := some k2c0 }
/-- com/example/starlace/starlace/io/TextCursor -/
def k2 : Class := { plain "com/example/starlace/starlace/io/TextCursor" (some 0) with
  accessFlags := 48
  interfaces := #[]
  cf := some (fileOf pool2 2 #[.nestMembers #[261, 276]] #[{ accessFlags := 8, nameIndex := 327, descriptorIndex := 91, attributes := #[] }] 48 10 #[] #[{ accessFlags := 26, nameIndex := 369, descriptorIndex := 19, attributes := #[] }, { accessFlags := 26, nameIndex := 371, descriptorIndex := 19, attributes := #[] }, { accessFlags := 26, nameIndex := 372, descriptorIndex := 19, attributes := #[] }, { accessFlags := 18, nameIndex := 26, descriptorIndex := 19, attributes := #[] }, { accessFlags := 18, nameIndex := 29, descriptorIndex := 19, attributes := #[] }, { accessFlags := 18, nameIndex := 32, descriptorIndex := 33, attributes := #[] }, { accessFlags := 2, nameIndex := 40, descriptorIndex := 41, attributes := #[] }, { accessFlags := 2, nameIndex := 18, descriptorIndex := 19, attributes := #[] }, { accessFlags := 2, nameIndex := 36, descriptorIndex := 37, attributes := #[] }, { accessFlags := 2, nameIndex := 22, descriptorIndex := 23, attributes := #[] }])
  fields := #[{ name := "THREE_DOUBLE_QUOTES", type := (.object "java/lang/String"), accessFlags := 26, slot := 0, constantValue := 0 }, { name := "THREE_SINGLE_QUOTES", type := (.object "java/lang/String"), accessFlags := 26, slot := 1, constantValue := 0 }, { name := "LOCAL_ESCAPABLE", type := (.object "java/lang/String"), accessFlags := 26, slot := 2, constantValue := 0 }, { name := "file", type := (.object "java/lang/String"), accessFlags := 18, slot := 0, constantValue := 0 }, { name := "endOfText", type := (.object "java/lang/String"), accessFlags := 18, slot := 1, constantValue := 0 }, { name := "lines", type := (.object "com/example/starlace/starlace/io/LineReader"), accessFlags := 18, slot := 2, constantValue := 0 }, { name := "spent", type := .boolean, accessFlags := 2, slot := 3, constantValue := 0 }, { name := "text", type := (.object "java/lang/String"), accessFlags := 2, slot := 4, constantValue := 0 }, { name := "position", type := .int, accessFlags := 2, slot := 5, constantValue := 0 }, { name := "firstLine", type := .long, accessFlags := 2, slot := 6, constantValue := 0 }]
  methods := #[k2m0]
  instanceTypes := #[(.object "java/lang/String"), (.object "java/lang/String"), (.object "com/example/starlace/starlace/io/LineReader"), .boolean, (.object "java/lang/String"), .int, .long]
  staticTypes := #[(.object "java/lang/String"), (.object "java/lang/String"), (.object "java/lang/String")]
  resolved := Array.replicate 423 none
  statics := none }

def pool3 : Array CpInfo := pool [(1, u "java/lang/Cloneable"), (0, .class_ 1), (0, u "java/lang/Object"), (0, .class_ 3)] 3

/-- java/lang/Cloneable -/
def k3 : Class := { plain "java/lang/Cloneable" (some 0) with
  accessFlags := 1537
  interfaces := #[]
  cf := some (fileOf pool3 2 #[] #[] 1537 4 #[] #[])
  fields := #[]
  methods := #[]
  instanceTypes := #[]
  staticTypes := #[]
  resolved := Array.replicate 8 none
  statics := none }

def pool4 : Array CpInfo := pool [(1, u "java/io/Serializable"), (0, .class_ 1), (0, u "java/lang/Object"), (0, .class_ 3)] 3

/-- java/io/Serializable -/
def k4 : Class := { plain "java/io/Serializable" (some 0) with
  accessFlags := 1537
  interfaces := #[]
  cf := some (fileOf pool4 2 #[] #[] 1537 4 #[] #[])
  fields := #[]
  methods := #[]
  instanceTypes := #[]
  staticTypes := #[]
  resolved := Array.replicate 8 none
  statics := none }

/-- the primitive byte -/
def k5 : Class := { plain "byte" none with kind := .primitive 'B', accessFlags := 0x411 }
/-- [B -/
def k6 : Class := { plain "[B" (some 0) with kind := .array 5 .byte, interfaces := #[3, 4], accessFlags := 1041 }

/-- the primitive int -/
def k7 : Class := { plain "int" none with kind := .primitive 'I', accessFlags := 0x411 }
/-- [I -/
def k8 : Class := { plain "[I" (some 0) with kind := .array 7 .int, interfaces := #[3, 4], accessFlags := 1041 }

def heap : Heap := #[]
def classes : Array Class := #[k0, k1, k2, k3, k4, k5, k6, k7, k8]
def interned : List (Array UInt16 × Addr) := []
def slotsUsed : Nat := 0
def theMethod : MethodId := ⟨1, 2⟩
def args0 : Array Value := #[.int 5, .int 300]
def aboutOver (below : List Frame) : State where
  vm := { classes := classes, interned := interned.toArray }
  heap := heap
  slotsUsed := slotsUsed
  threads := #[{ frames := .invoking theMethod args0 :: below }]
def below0 : List Frame := [.native { method := ⟨0, 0⟩, args := #[] }]
def about1 : State := aboutOver below0
def p0 : Program := .bare "" "" ""
def e0 : Env := launch0.env 0 0 0
theorem w_frames : about1.frames = Frame.invoking theMethod args0 :: below0 := rfl
set_option maxRecDepth 65536 in
theorem w_args : argsFit about1.vm theMethod args0 = true := by decide +kernel
set_option maxRecDepth 65536 in
theorem w_heap : heapFits about1 = true := by decide +kernel
set_option maxRecDepth 65536 in
theorem w_runnable : about1.curStatus? = some .runnable := by decide +kernel
set_option maxRecDepth 65536 in
theorem w_alone : about1.alone = true := by decide +kernel
set_option maxRecDepth 65536 in
theorem w_named : about1.methodNamed? x = some theMethod := by decide +kernel
set_option maxRecDepth 65536 in
theorem w_hears : about1.hears theMethod below0 = true := by decide +kernel
set_option maxRecDepth 65536 in
theorem w_ripe : about1.ripe theMethod args0 below0 = true := by decide +kernel
theorem w_running : about1.status = .running := rfl
set_option maxRecDepth 65536 in
theorem w_room : about1.hasRoom e0.platform room_1 = true :=
  launch0.hasRoom_least _ room_1 (by decide +kernel) (by decide +kernel) (by decide +kernel) (by decide +kernel) (by decide +kernel) (by decide +kernel)
theorem allAtoms_all (ts : List Jvm.Cond) (a : Array Jvm.Value) (st : Jvm.State) : (allAtoms ts).before a st = ts.all (fun c => c.before a st) := by
  induction ts with
  | nil => rfl
  | cons c t ih =>
    show (Jvm.Cond.and c (allAtoms t)).before a st = _
    rw [Jvm.Cond.before_and, ih, List.all_cons]
def words1 : List Jvm.Cond := Jvm.Cond.code x code maxLocals ret :: tables_1
/-- a 'code' word, met by the world's own term for the bytes: nothing is compared byte by byte -/
theorem code_word {y : MethodName} {bytes : ByteArray} {mx : Nat} {rt : Option FieldType} {a : Array Value} {s : State} {m : MethodId} {meth : Method} {c : Code} (h1 : s.methodNamed? y = some m) (h2 : s.vm.method? m = some meth) (h3 : meth.code = some c) (h4 : c.code = bytes)
    (h5 : (c.maxLocals == mx && c.exceptionTable.isEmpty && decide (c.maxStack ≤ mostOperands) && decide (meth.sig.returnType = rt) && !meth.locks && decide (parseMethodDescriptor y.desc = some meth.sig)) = true) : (Jvm.Cond.code y bytes mx rt).before a s = true := by
  simp only [Bool.and_eq_true, beq_iff_eq, Bool.not_eq_true', decide_eq_true_eq] at h5
  obtain ⟨⟨⟨⟨⟨g1, g2⟩, g3⟩, g4⟩, g5⟩, g6⟩ := h5
  simp [Cond.before, Cond.holds, Cond.value, h1, h2, h3, h4, g1, g2, g3, g4, g5, g6]
def isCode : Jvm.Cond → Bool
  | .code _ _ _ _ => true
  | _ => false
theorem all_split {L : List Jvm.Cond} {P : Jvm.Cond → Bool} (h1 : L.all (fun c => isCode c || P c) = true) (h2 : ∀ c ∈ L.filter isCode, P c = true) : L.all P = true := by
  refine List.all_eq_true.mpr fun c hc => ?_
  have h := List.all_eq_true.mp h1 c hc
  rcases Bool.eq_false_or_eq_true (isCode c) with hi | hi
  · exact h2 c (List.mem_filter.mpr ⟨hc, hi⟩)
  · simpa [hi] using h
set_option maxRecDepth 65536 in
theorem w_c0 : (Jvm.Cond.code x code maxLocals ret).before args0 about1 = true := code_word (m := ⟨1, 2⟩) (meth := k1m2) (c := k1c2) (by decide +kernel) rfl rfl rfl (by decide +kernel)
set_option maxRecDepth 65536 in
theorem w_c1 : (Jvm.Cond.code ({ cls := "com/example/starlace/starlace/io/TextCursor", name := "isAsciiLetter", desc := "(I)Z" } : Jvm.MethodName) prog_39_method_47_code (1 : Nat) (Option.some Jvm.ClassFile.FieldType.boolean)).before args0 about1 = true := code_word (m := ⟨2, 0⟩) (meth := k2m0) (c := k2c0) (by decide +kernel) rfl rfl rfl (by decide +kernel)
set_option maxRecDepth 65536 in
theorem w_c2 : (Jvm.Cond.code ({ cls := "com/example/starlace/starlace/io/TextCursorIsAsciiLetterPinLaw", name := "reference", desc := "(I)Z" } : Jvm.MethodName) method_2_code (2 : Nat) (Option.some Jvm.ClassFile.FieldType.boolean)).before args0 about1 = true := code_word (m := ⟨1, 1⟩) (meth := k1m1) (c := k1c1) (by decide +kernel) rfl rfl rfl (by decide +kernel)
def codes1 : List Jvm.Cond := [Jvm.Cond.code x code maxLocals ret, Jvm.Cond.code ({ cls := "com/example/starlace/starlace/io/TextCursor", name := "isAsciiLetter", desc := "(I)Z" } : Jvm.MethodName) prog_39_method_47_code (1 : Nat) (Option.some Jvm.ClassFile.FieldType.boolean), Jvm.Cond.code ({ cls := "com/example/starlace/starlace/io/TextCursorIsAsciiLetterPinLaw", name := "reference", desc := "(I)Z" } : Jvm.MethodName) method_2_code (2 : Nat) (Option.some Jvm.ClassFile.FieldType.boolean)]
set_option maxRecDepth 65536 in
theorem codes_eq : words1.filter isCode = codes1 := rfl
theorem w_codes : ∀ c ∈ words1.filter isCode, c.before args0 about1 = true := by
  rw [codes_eq]
  intro c hc
  simp only [codes1, List.mem_cons, List.not_mem_nil, or_false] at hc
  rcases hc with rfl | rfl | rfl
  · exact w_c0
  · exact w_c1
  · exact w_c2
set_option maxRecDepth 65536 in
theorem w_t1 : words1.all (fun c => isCode c || c.before args0 about1) = true := by decide +kernel
theorem w_tables : (allAtoms (Jvm.Cond.code x code maxLocals ret :: tables_1)).before args0 about1 = true := by
  rw [allAtoms_all]
  show words1.all (fun c => c.before args0 about1) = true
  refine all_split ?_ w_codes
  rw [w_t1]
set_option maxRecDepth 65536 in
theorem w_case : (Jvm.Cond.and given_1 narrow_1).before args0 about1 = true := by decide +kernel
theorem w_applies : (headSpec (Jvm.Cond.code x code maxLocals ret :: tables_1) room_1).applies x e0.platform about1 = true :=
  (Spec.applies_iff w_frames).mpr ⟨w_running, w_runnable, w_alone, w_named, w_hears, w_ripe, w_room, w_tables⟩
theorem atStart : AtStart classFile x code maxLocals ret World_1 tables_1 room_1 Calls_1 rest_1 Pre_1 launch0 p0 e0 about1 theMethod args0 below0 :=
  ⟨lists_1, trivial, launch0.admits_env _ _ _, launch0.least_env, fairChoices_fair.cas, fairChoices_fair.clock, w_frames, w_args, w_heap, w_applies, trivial, trivial, w_case⟩
end start1
theorem witness_1 : WitnessClaimed_1 := ⟨start1.p0, start1.e0, start1.about1, start1.theMethod, start1.args0, start1.below0, start1.atStart⟩
end Jvm.Pilot.@@N@@
