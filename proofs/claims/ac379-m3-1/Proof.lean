import JvmDerived
import JvmDerived.Pilot.@@N@@Statement
import JvmDerived.Pilot.@@N@@Code
set_option linter.unusedVariables false
set_option linter.unusedSimpArgs false
namespace Jvm.RoadKit
open Sem ClassFile Op Lib Jvm.Stand Jvm.Free Jvm.LawKit
section New
variable {p : Program} {l : Launch} {e : Env} {R : Room} {s : State} {m : MethodId} {args : Array Value} {below : List Frame} {meth : Method} {c : Code} {T : State} {locs : List Loc} {cells slots : Nat}
theorem retI (X : Stand p l e R s m args below meth c T locs cells slots) (hx : p.tables.exec = Jvm.exec) {pc : Nat} {Ls : Array Slot} {z : Int32} {rest : List Value} (hret : meth.sig.returnType = some .int) (hd : decode c.code pc = .ok (.ireturn, 1)) {fs : List Frame}
    (hl : ∀ (f : JFrame) (acts : List Action), f.method = m → f.locked = none → f.entered = [] → (doReturn e (T.setTop f) acts (some (.int z))).1 = T.setFrames fs) : Steps p.tables e below (T.setTop (mkF m pc Ls (.int z :: rest))) (T.setFrames fs) := by
  have hm' : T.vm.method? m = some meth := X.method'
  have hn : narrow .int (.int z) = .int z := rfl
  show Steps p.tables e below (T.setTop { method := m, pc := pc, locals := Ls, stack := _ :: rest, locked := none }) _
  jvm_step X.here [X.here.top, hx, hd, hm', hret, hn]
  first | (intro acts; rw [hl _ acts rfl rfl rfl]) | rw [hl _ _ rfl rfl rfl]
  exact Steps.refl _
end New
end Jvm.RoadKit
namespace Jvm.Pilot.@@N@@
open Jvm Jvm.ClassFile Sem Op Lib Jvm.Free Jvm.Stand Jvm.LawKit Jvm.RoadKit Bundle Jvm.Pilot.@@N@@.Jvm.D
/-! The walk in a goal-driven form: own_Fin says that the run from A comes to an end at which Q holds, within the frame. -/
def own_Fin (p : Program) (e : Env) (below : List Frame) (s : State) (Q : Option Value → Heap → List Loc → Prop) (kc ks : Nat) (A : State) : Prop :=
  ∃ s₂ o, Steps p.tables e below A s₂ ∧ s₂.status = .running ∧ Ended s₂ below o ∧ ∃ v L, o = .returned v ∧ Q v s₂.heap L ∧ FrameEnd s o s₂ L kc ks
theorem own_Fin.go {p : Program} {e : Env} {below : List Frame} {s : State} {Q : Option Value → Heap → List Loc → Prop} {kc ks : Nat} {A B : State} (st : ∀ t, Steps p.tables e below B t → Steps p.tables e below A t) (h : own_Fin p e below s Q kc ks B) : own_Fin p e below s Q kc ks A := by
  obtain ⟨s₂, o, h1, h2⟩ := h
  exact ⟨s₂, o, st _ h1, h2⟩
section OwnRet
variable {p : Program} {l : Launch} {e : Env} {R : Room} {s : State} {m : MethodId} {args : Array Value} {below : List Frame} {meth : Method} {c : Code} {T : State} {locs : List Loc} {cells slots : Nat} {Q : Option Value → Heap → List Loc → Prop} {kc ks : Nat}
theorem own_end (X : Stand p l e R s m args below meth c T locs cells slots) {v : Option Value} (hv : meth.sig.returnType = none → v = none) (hlocks : meth.locks = false) (hc : cells ≤ kc) (hs : slots ≤ ks) {A : State}
    (h : ∀ fs : List Frame, (∀ (f : JFrame) (acts : List Action), f.method = m → f.locked = none → f.entered = [] → (doReturn e (T.setTop f) acts v).1 = T.setFrames fs) → Steps p.tables e below A (T.setFrames fs)) (hQ : Q v T.heap locs) : own_Fin p e below s Q kc ks A := by
  obtain ⟨fs, hr, hrun, hended, hW, hsame⟩ := X.leave (v := v) hv hlocks
  exact ⟨_, _, h fs hr, hrun, hended, _, _, rfl, hQ, ⟨_, rfl⟩, hW, hsame.mono hc hs⟩
theorem own_retN (X : Stand p l e R s m args below meth c T locs cells slots) (hx : p.tables.exec = Jvm.exec) {pc : Nat} {Ls : Array Slot} {z w : Int32} {t : FieldType} {rest : List Value} (hret : meth.sig.returnType = some t) (ht : t = .boolean ∨ t = .byte ∨ t = .char ∨ t = .short)
    (hd : decode c.code pc = .ok (.ireturn, 1)) (hlocks : meth.locks = false) (hw : nar t z = w) (hc : cells ≤ kc) (hs : slots ≤ ks) (hQ : Q (some (.int w)) T.heap locs) : own_Fin p e below s Q kc ks (T.setTop (mkF m pc Ls (.int z :: rest))) :=
  own_end X (v := some (.int w)) (fun h => by rw [hret] at h; cases h) hlocks hc hs (fun fs hr => retN X hx hret ht hd (by rw [hw]; exact hr)) hQ
theorem own_retI (X : Stand p l e R s m args below meth c T locs cells slots) (hx : p.tables.exec = Jvm.exec) {pc : Nat} {Ls : Array Slot} {z : Int32} {rest : List Value} (hret : meth.sig.returnType = some .int)
    (hd : decode c.code pc = .ok (.ireturn, 1)) (hlocks : meth.locks = false) (hc : cells ≤ kc) (hs : slots ≤ ks) (hQ : Q (some (.int z)) T.heap locs) : own_Fin p e below s Q kc ks (T.setTop (mkF m pc Ls (.int z :: rest))) :=
  own_end X (v := some (.int z)) (fun h => by rw [hret] at h; cases h) hlocks hc hs (fun fs hr => retI X hx hret hd hr) hQ
theorem own_retJ (X : Stand p l e R s m args below meth c T locs cells slots) (hx : p.tables.exec = Jvm.exec) {pc : Nat} {Ls : Array Slot} {z : Int64} (hret : meth.sig.returnType = some .long)
    (hd : decode c.code pc = .ok (.lreturn, 1)) (hlocks : meth.locks = false) (hc : cells ≤ kc) (hs : slots ≤ ks) (hQ : Q (some (.long z)) T.heap locs) : own_Fin p e below s Q kc ks (T.setTop (mkF m pc Ls [.long z])) :=
  own_end X (v := some (.long z)) (fun h => by rw [hret] at h; cases h) hlocks hc hs (fun fs hr => X.lreturnOut hx hret hd hr) hQ
theorem own_retA (X : Stand p l e R s m args below meth c T locs cells slots) (hx : p.tables.exec = Jvm.exec) {pc : Nat} {Ls : Array Slot} {a : Addr} {t : FieldType} {rest : List Value} (hret : meth.sig.returnType = some t) (ht : t.isReference = true)
    (hd : decode c.code pc = .ok (.areturn, 1)) (hlocks : meth.locks = false) (hc : cells ≤ kc) (hs : slots ≤ ks) (hQ : Q (some (.ref a)) T.heap locs) : own_Fin p e below s Q kc ks (T.setTop (mkF m pc Ls (.ref a :: rest))) :=
  own_end X (v := some (.ref a)) (fun h => by rw [hret] at h; cases h) hlocks hc hs (fun fs hr => retOut X hx hret (by cases t <;> first | rfl | (simp [FieldType.isReference] at ht)) (Or.inr (Or.inr (Or.inr (Or.inr ⟨rfl, ht, rfl⟩)))) hd hr) hQ
theorem own_ret0 (X : Stand p l e R s m args below meth c T locs cells slots) (hx : p.tables.exec = Jvm.exec) {pc : Nat} {Ls : Array Slot} (hret : meth.sig.returnType = none)
    (hd : decode c.code pc = .ok (.return_, 1)) (hlocks : meth.locks = false) (hc : cells ≤ kc) (hs : slots ≤ ks) (hQ : Q none T.heap locs) : own_Fin p e below s Q kc ks (T.setTop (mkF m pc Ls [])) :=
  own_end X (v := none) (fun _ => rfl) hlocks hc hs (fun fs hr => X.returnOut hx hret hd hr) hQ
end OwnRet
theorem own_selp {s : State} {args args' : Array Value} {C : String} {y w : MethodName} (hw : (Jvm.Cond.selects C w w).before args s = true) (hcls : w.cls = y.cls) (hpriv : s.PrivateAt y) (hinst : (Jvm.Cond.instanceMethod y).before args s = true) (hy : y.cls ≠ "java/lang/invoke/MethodHandle" ∧ y.cls ≠ "java/lang/invoke/VarHandle") : (Jvm.Cond.selects y.cls y y).before args' s = true := by
  obtain ⟨c2, r2, m2, -, -, q3, -, kP, hkP, hkPi⟩ := Cond.selects_spec hw
  exact selects_self_of_private (by rw [← hcls]; exact findClass_of_methodNamed q3) hkP hkPi hpriv hinst hy
abbrev own_y0 : MethodName := ⟨"com/example/inrush/inrush/engine/Counter", "headerLength", "(I)I"⟩
abbrev own_y1 : MethodName := ⟨"com/example/inrush/inrush/engine/Counter", "periods", "()I"⟩
abbrev own_y2 : MethodName := ⟨"com/example/inrush/inrush/engine/Counter", "headerLength", "()I"⟩
abbrev own_y3 : MethodName := ⟨"com/example/inrush/inrush/engine/Counter", "length", "(I)I"⟩
abbrev own_y4 : MethodName := ⟨"com/example/inrush/inrush/engine/Counter", "start", "(I)I"⟩
abbrev own_y5 : MethodName := ⟨"com/example/inrush/inrush/engine/Counter", "used", "()I"⟩
abbrev own_y6 : MethodName := ⟨"com/example/inrush/inrush/engine/Counter", "lowerBound", "(IIJ)I"⟩
abbrev own_y7 : MethodName := ⟨"com/example/inrush/inrush/engine/Counter", "indexOf", "(IJ)I"⟩
abbrev own_y8 : MethodName := ⟨"com/example/inrush/inrush/engine/Counter", "setLength", "(II)V"⟩
abbrev own_y9 : MethodName := ⟨"com/example/inrush/inrush/engine/Counter", "saturatedSum", "(JJ)J"⟩
abbrev own_y10 : MethodName := ⟨"com/example/inrush/inrush/engine/CounterSumPinLaw", "capped", "(JJ)J"⟩
abbrev own_y11 : MethodName := ⟨"com/example/inrush/inrush/engine/CounterSumPinLaw", "positive", "(J)J"⟩
abbrev own_y12 : MethodName := ⟨"java/lang/Math", "min", "(II)I"⟩
abbrev own_y13 : MethodName := ⟨"com/example/inrush/inrush/engine/Tally", "<init>", "()V"⟩
abbrev own_y14 : MethodName := ⟨"java/util/Arrays", "copyOf", "([JI)[J"⟩
abbrev own_y15 : MethodName := ⟨"com/example/inrush/inrush/engine/Counter", "<init>", "(Ljava/lang/String;Lcom/example/inrush/inrush/engine/CounterKind;I)V"⟩
abbrev own_y16 : MethodName := ⟨"com/example/inrush/inrush/engine/Counter", "slotOf", "(IJLcom/example/inrush/inrush/engine/Tally;)I"⟩
abbrev own_y17 : MethodName := ⟨"com/example/inrush/inrush/engine/Counter", "add", "(IJJLcom/example/inrush/inrush/engine/Tally;)V"⟩
abbrev own_y18 : MethodName := ⟨"com/example/inrush/inrush/engine/Counter", "sum", "(IJJ)J"⟩
abbrev own_k0 : String := "com/example/inrush/inrush/engine/Counter"
abbrev own_k1 : String := "com/example/inrush/inrush/engine/CounterSumPinLaw"
abbrev own_k2 : String := "com/example/inrush/inrush/engine/Tally"
abbrev own_k3 : String := "com/example/inrush/inrush/engine/CounterKind"
abbrev own_k4 : String := "Lcom/example/inrush/inrush/engine/CounterKind;"
theorem own_W {a0 : Array Value} {Z : State} (hw : ∀ d ∈ tables_1, d.before a0 Z = true) (i : Nat) {c : Jvm.Cond} (h : tables_1[i]? = some c) : c.before a0 Z = true := hw c (List.mem_of_getElem? h)
abbrev uS : Slot := .unset
abbrev sS : Slot := .second
abbrev jv (x : Int64) : Slot := .val (.long x)
section OwnPriv
variable {p : Program} {l : Launch} {e : Env} {R : Room} {s : State} {m : MethodId} {args : Array Value} {below : List Frame} {meth : Method} {c : Code} {T : State} {locs : List Loc} {cells slots : Nat} {Z : State} {a0 : Array Value}
theorem own_pB (X : Stand p l e R s m args below meth c T locs cells slots) (hx : p.tables.exec = Jvm.exec) (hZ : Z.Warmed39 s.vm) {own C : String} {index : Nat} {y w : MethodName} {bytes : ByteArray} {maxL : Nat} {ret : Option FieldType}
    (hown : s.vm.findClass own = some m.cls) (wl : (Jvm.Cond.methodLink own index y).before a0 Z = true) (wi : (Jvm.Cond.instanceMethod y).before a0 Z = true) (wsl : (Jvm.Cond.selects C w w).before a0 Z = true) (hcls : w.cls = y.cls) (wp : (Jvm.Cond.privateMethod y).before a0 Z = true) (wc : (Jvm.Cond.code y bytes maxL ret).before a0 Z = true)
    (hy : y.cls ≠ "java/lang/invoke/MethodHandle" ∧ y.cls ≠ "java/lang/invoke/VarHandle") {W : Nat} {Pre : Pt → Array Value → Prop} {Post : Pt → Array Value → Option Value → Pt → Prop} (hK : Back l R p e below s args y 3 W Pre Post)
    {g : JFrame} (hg : g.method = m) (hsize : g.locals.size = c.maxLocals) {a : Addr} {K : String} {h : Heap} (eT : T.heap = h) (E : Exa Z h a K)
    {argsL rest : List Value} (hlen : ∀ sig, parseMethodDescriptor y.desc = some sig → argsL.length = sig.parameters.length)
    (hstack : g.stack = argsL.reverse ++ .ref a :: rest) (hW : 2 * g.monitorRoom + (rest.map fun v => v.category).sum ≤ W) (hdg : decode c.code g.pc = .ok (.invokevirtual index, 3))
    (hpre : ∀ vm₁, s.WarmedH vm₁ → Pre ⟨T.setVm vm₁, locs, cells, slots⟩ (.ref a :: argsL).toArray) :
    ∃ (v : Option Value) (vm₁ : Vm) (B : Pt), s.WarmedH vm₁ ∧ Stand p l e R s m args below meth c B.U B.locs B.cells B.slots ∧ Post ⟨T.setVm vm₁, locs, cells, slots⟩ (.ref a :: argsL).toArray v B ∧
      Steps p.tables e below (T.setTop g) (B.U.setTop { g with pc := g.pc + 3, stack := v.toList ++ rest }) := by
  obtain ⟨cq, q, q'⟩ := E.cell
  have pv := Cond.privateMethod_at (mvP hZ wp (args := #[]))
  exact X.privateBack hx hown (mvT hZ wl) (mvT hZ wi) (own_selp (y := y) (mvT hZ wsl (args := #[])) hcls pv (mvT hZ wi (args := #[])) hy) pv (mvT hZ wc) hy hK hg hsize (Steps.refl _) (a := a) (by rw [eT]; exact q) q' hlen hstack hW hdg hpre
section OwnCps
variable {h : Heap} {Q : Option Value → Heap → List Loc → Prop} {kc ks : Nat}
theorem own_gF (X : Stand p l e R s m args below meth c T locs cells slots) (hx : p.tables.exec = Jvm.exec) (hZ : Z.Warmed39 s.vm) {own O n d : String} {index : Nat} (hown : s.vm.findClass own = some m.cls) (w : (Jvm.Cond.fieldLink own index O n d).before a0 Z = true) (eT : T.heap = h) {a : Addr} {v : Value} (F : Fld Z h a O n d v) {g : JFrame} (hg : g.method = m) {rest : List Value} (hs : g.stack = .ref a :: rest) (hd : decode c.code g.pc = .ok (.getfield index, 3))
    (k : ∀ T', Stand p l e R s m args below meth c T' locs cells slots → T'.heap = h → own_Fin p e below s Q kc ks (T'.setTop { g with pc := g.pc + 3, stack := v :: rest })) : own_Fin p e below s Q kc ks (T.setTop g) := by
  obtain ⟨T', X', e', st⟩ := getF X hx hZ hown (host := "") (Or.inl w) Via.refl eT F hg hs hd
  exact own_Fin.go st (k T' X' e')
theorem own_lal (X : Stand p l e R s m args below meth c T locs cells slots) (hx : p.tables.exec = Jvm.exec) (hZ : Z.Warmed39 s.vm) (eT : T.heap = h) {a : Addr} {ka : ClassId} {z : Int32} {vs : List Value} {dv : Value} (F : Arv Z h a ka .long z vs dv) {j : Int32} (q : ¬ j < 0 ∧ j < z) {v : Int64} (hv : vs.getD j.toNatClampNeg dv = .long v) {g : JFrame} (hg : g.method = m) {rest : List Value} (hs : g.stack = .int j :: .ref a :: rest) (hd : decode c.code g.pc = .ok (.laload, 1))
    (k : own_Fin p e below s Q kc ks (T.setTop { g with pc := g.pc + 1, stack := .long v :: rest })) : own_Fin p e below s Q kc ks (T.setTop g) := by
  obtain ⟨cl, Ar, q1, S, Nl, H, G⟩ := F
  have hin := inb_of S q
  exact own_Fin.go (fun t r => X.laload hx (j := j) (v := .long v) (by rw [eT]; exact Ar.1) (State.isArrayOf_alike hZ.alike Ar.2.1) Ar.2.2 hin (Has.at H hin hv) (g := g) hg hs hd t r) k
theorem own_pC (X : Stand p l e R s m args below meth c T locs cells slots) (hx : p.tables.exec = Jvm.exec) (hZ : Z.Warmed39 s.vm) {own C : String} {index : Nat} {y w : MethodName} {bytes : ByteArray} {maxL : Nat} {ret : Option FieldType}
    (hown : s.vm.findClass own = some m.cls) (wl : (Jvm.Cond.methodLink own index y).before a0 Z = true) (wi : (Jvm.Cond.instanceMethod y).before a0 Z = true) (wsl : (Jvm.Cond.selects C w w).before a0 Z = true) (hcls : w.cls = y.cls) (wp : (Jvm.Cond.privateMethod y).before a0 Z = true) (wc : (Jvm.Cond.code y bytes maxL ret).before a0 Z = true) (wz : (Jvm.Cond.initialized y.cls).before a0 Z = true)
    (hy : y.cls ≠ "java/lang/invoke/MethodHandle" ∧ y.cls ≠ "java/lang/invoke/VarHandle") {rm : Room} {as' : Array Value} {Q' : Option Value → Heap → List Loc → Prop}
    (hM : MetFree l y (head1 [Jvm.Cond.code y bytes maxL ret] rm) (fun a U => a = as' ∧ Z.Warmed39 U.vm ∧ U.heap = h) (fun _ _ _ _ _ => True) (fun _ U o U' => ∃ v L, o = .returned v ∧ Q' v U'.heap L ∧ FrameEnd U o U' L rm.cells rm.slots)) (W : Nat) (hf : rm.frames + 1 ≤ R.frames) (hl : W + (maxL + 11) + rm.locals ≤ R.locals)
    (eT : T.heap = h) {a : Addr} {K : String} (E : Exa Z h a K) {g : JFrame} (hg : g.method = m) (hsize : g.locals.size = c.maxLocals) (argsL : List Value) {rest : List Value} (hlen : ∀ sig, parseMethodDescriptor y.desc = some sig → argsL.length = sig.parameters.length)
    (hstack : g.stack = argsL.reverse ++ .ref a :: rest) (hW : 2 * g.monitorRoom + (rest.map fun v => v.category).sum ≤ W) (hdg : decode c.code g.pc = .ok (.invokevirtual index, 3)) (has : (.ref a :: argsL).toArray = as') (hc : cells + rm.cells ≤ R.cells) (hsl : slots + rm.slots ≤ R.slots)
    (k : ∀ (T' : State) (L' : List Loc) (v : Option Value), Stand p l e R s m args below meth c T' (locs ++ L') (cells + rm.cells) (slots + rm.slots) → Q' v T'.heap L' → own_Fin p e below s Q kc ks (T'.setTop { g with pc := g.pc + 3, stack := v.toList ++ rest })) : own_Fin p e below s Q kc ks (T.setTop g) := by
  obtain ⟨v, vm1, ⟨T', L', k', n'⟩, -, X', ⟨Lc, hQ, l1, y1, z1⟩, st⟩ := own_pB X hx hZ hown wl wi wsl hcls wp wc hy (backOf (W := W) hM hZ wc wz hf hl) hg hsize eT E hlen hstack hW hdg (fun _ _ => ⟨has, eT, hc, hsl⟩)
  dsimp only [Pt.U, Pt.locs, Pt.cells, Pt.slots] at X' l1 y1 z1 st hQ
  subst l1 y1 z1
  exact own_Fin.go (fun t q => st.trans q) (k T' Lc v X' hQ)
theorem own_sC (X : Stand p l e R s m args below meth c T locs cells slots) (hx : p.tables.exec = Jvm.exec) (hZ : Z.Warmed39 s.vm) {own : String} {index : Nat} {y : MethodName} {bytes : ByteArray} {maxL : Nat} {ret : Option FieldType}
    (hown : s.vm.findClass own = some m.cls) (wl : (Jvm.Cond.methodLink own index y).before a0 Z = true) (wt : (Jvm.Cond.static y).before a0 Z = true) (wz : (Jvm.Cond.initialized y.cls).before a0 Z = true) (wc : (Jvm.Cond.code y bytes maxL ret).before a0 Z = true)
    (hy : y.cls ≠ "java/lang/invoke/MethodHandle" ∧ y.cls ≠ "java/lang/invoke/VarHandle") {rm : Room} {as' : Array Value} {Q' : Option Value → Heap → List Loc → Prop}
    (hM : MetFree l y (head1 [Jvm.Cond.code y bytes maxL ret] rm) (fun a U => a = as' ∧ Z.Warmed39 U.vm ∧ U.heap = h) (fun _ _ _ _ _ => True) (fun _ U o U' => ∃ v L, o = .returned v ∧ Q' v U'.heap L ∧ FrameEnd U o U' L rm.cells rm.slots)) (W : Nat) (hf : rm.frames + 1 ≤ R.frames) (hl : W + (maxL + 11) + rm.locals ≤ R.locals)
    (eT : T.heap = h) {g : JFrame} (hg : g.method = m) (hsize : g.locals.size = c.maxLocals) (argsL : List Value) (rest : List Value) (hlen : ∀ sig, parseMethodDescriptor y.desc = some sig → argsL.length = sig.parameters.length)
    (hstack : g.stack = argsL.reverse ++ rest) (hW : 2 * g.monitorRoom + (rest.map fun v => v.category).sum ≤ W) (hdg : decode c.code g.pc = .ok (.invokestatic index, 3)) (has : argsL.toArray = as') (hc : cells + rm.cells ≤ R.cells) (hsl : slots + rm.slots ≤ R.slots)
    (k : ∀ (T' : State) (L' : List Loc) (v : Option Value), Stand p l e R s m args below meth c T' (locs ++ L') (cells + rm.cells) (slots + rm.slots) → Q' v T'.heap L' → own_Fin p e below s Q kc ks (T'.setTop { g with pc := g.pc + 3, stack := v.toList ++ rest })) : own_Fin p e below s Q kc ks (T.setTop g) := by
  obtain ⟨v, vm1, ⟨T', L', k', n'⟩, -, X', ⟨Lc, hQ, l1, y1, z1⟩, st⟩ := Jvm.LawKit.callS X hx hown (mvT hZ wl) (mvT hZ wt) (mvT hZ wz) (mvT hZ wc) hy (backOf (W := W) hM hZ wc wz hf hl) hg hsize hlen hstack hW hdg (fun _ _ => ⟨has, eT, hc, hsl⟩)
  dsimp only [Pt.U, Pt.locs, Pt.cells, Pt.slots] at X' l1 y1 z1 st hQ
  subst l1 y1 z1
  exact own_Fin.go st (k T' Lc v X' hQ)
end OwnCps
end OwnPriv
def own_FinW (p : Program) (e : Env) (below : List Frame) (s : State) (Q : Option Value → Heap → List Loc → Prop) (kc ks : Nat) (A : State) : Prop :=
  ∃ s₂ o, Steps p.tables e below A s₂ ∧ s₂.status = .running ∧ Ended s₂ below o ∧ ∃ v L, o = .returned v ∧ Q v s₂.heap L ∧ FramedW s o s₂ L kc ks
theorem own_FinW.go {p : Program} {e : Env} {below : List Frame} {s : State} {Q : Option Value → Heap → List Loc → Prop} {kc ks : Nat} {A B : State} (st : ∀ t, Steps p.tables e below B t → Steps p.tables e below A t) (h : own_FinW p e below s Q kc ks B) : own_FinW p e below s Q kc ks A := by
  obtain ⟨s₂, o, h1, h2⟩ := h
  exact ⟨s₂, o, st _ h1, h2⟩
section OwnRetW
variable {p : Program} {l : Launch} {e : Env} {R : Room} {s : State} {vm₁ : Vm} {m : MethodId} {args : Array Value} {below : List Frame} {meth : Method} {c : Code} {T : State} {locs : List Loc} {cells slots : Nat} {Q : Option Value → Heap → List Loc → Prop} {kc ks : Nat}
theorem own_retNW (X : Stand p l e R (s.setVm vm₁) m args below meth c T locs cells slots) (hx : p.tables.exec = Jvm.exec) {n : Nat} (hS : s.Since vm₁ n) (hn : n ≤ T.heap.size) {pc : Nat} {Ls : Array Slot} {z w : Int32} {t : FieldType} {rest : List Value} (hret : meth.sig.returnType = some t) (ht : t = .boolean ∨ t = .byte ∨ t = .char ∨ t = .short)
    (hd : decode c.code pc = .ok (.ireturn, 1)) (hlocks : meth.locks = false) (hw : nar t z = w) (hc : cells ≤ kc) (hs : slots ≤ ks) (hQ : Q (some (.int w)) T.heap locs) : own_FinW p e below s Q kc ks (T.setTop (mkF m pc Ls (.int z :: rest))) := by
  obtain ⟨fs, hr, hrun, hended, h1, h2, h3, h4⟩ := X.leaveW hS hn (v := some (.int w)) (fun h => by rw [hret] at h; cases h) hlocks
  exact ⟨_, _, retN X hx hret ht hd (by rw [hw]; exact hr), hrun, hended, _, _, rfl, hQ, h1, h2, h3, h4.mono hc hs⟩
end OwnRetW
theorem own_eqInt {args : Array Value} {first s : State} {o : Option Outcome} {idx : List Nat} {t : Term} {n : Int32} (h : (Jvm.Cond.eq t (.int n)).value args first o s idx = some true) : t.eval args first o idx s = some (.int n) := by
  cases ht : t.eval args first o idx s with
  | none => simp [Jvm.Cond.value, ht] at h
  | some x => cases x <;> simp [Jvm.Cond.value, ht, Term.eval] at h ⊢; exact h
theorem own_fld {args : Array Value} {first s : State} {o : Option Outcome} {idx : List Nat} {t : Term} {C n d : String} {a : Addr} {v : Value} (ht : t.eval args first o idx s = some (.ref a)) (h : (Term.field t C n d).eval args first o idx s = some v) : s.fieldOf? a C n d = some v := by
  rw [← fld_at ht]; exact h
def own_per (h : Int64) : Int32 := (((h.toUInt64 >>> ((60 : Int32) &&& 0x3f).toInt64.toUInt64).toInt64).toInt32)
def own_hl (v : Int32) : Int32 := ((v + (1 : Int32)) / (2 : Int32))
def own_lena (h : Int64) : Int32 := ((((h.toUInt64 >>> ((0 : Int32) &&& 0x3f).toInt64.toUInt64).toInt64) &&& (1073741823 : Int64)).toInt32)
def own_lenb (h : Int64) : Int32 := ((((h.toUInt64 >>> ((30 : Int32) &&& 0x3f).toInt64.toUInt64).toInt64) &&& (1073741823 : Int64)).toInt32)
def own_sta (h : Int64) : Int32 := (own_hl (own_per h))
def own_stb (h : Int64) : Int32 := (own_sta h + ((2 : Int32) * (own_lena h)))
def own_stc (h : Int64) : Int32 := (own_stb h + ((2 : Int32) * (own_lenb h)))
def own_std (h g : Int64) : Int32 := (own_stc h + ((2 : Int32) * (own_lena g)))
def own_mn (a b : Int32) : Int32 := if b < a then b else a
def own_adz (v : Int32) : Int32 := (v + (0 : Int32))
def own_ixa (h : Int64) : Int32 := own_adz (own_sta h)
def own_ixb (h : Int64) : Int32 := own_adz (own_stb h)
def own_ixc (h : Int64) : Int32 := own_adz (own_stc h)
def own_sla (h : Int64) (n : Int32) : Int64 := ((h &&& (((1073741823 : Int64) <<< ((0 : Int32) &&& 0x3f).toInt64) ^^^ (-1 : Int64))) ||| ((n.toInt64) <<< ((0 : Int32) &&& 0x3f).toInt64))
def own_slb (h : Int64) (n : Int32) : Int64 := ((h &&& (((1073741823 : Int64) <<< ((30 : Int32) &&& 0x3f).toInt64) ^^^ (-1 : Int64))) ||| ((n.toInt64) <<< ((30 : Int32) &&& 0x3f).toInt64))
def own_sat (a b : Int64) : Int64 := if (a + b) < 0 then 9223372036854775807 else a + b
def own_cap (a b : Int64) : Int64 := if ((9223372036854775807 : Int64) - b) < a then 9223372036854775807 else a + b
def own_pos (x : Int64) : Int64 := if (x &&& (9223372036854775807 : Int64)) = 0 then 1 else (x &&& (9223372036854775807 : Int64))
def own_w (w f l b a : Int64) : Int64 := if b < f then w else if l < b then w else own_cap w a
def own_run (s l : Int64) : List (Int64 × Int64) → Int64
  | [] => s
  | (y, c) :: r => if l < y then s else own_run (own_sat s c) l r
def own_suma (ya wa f l : Int64) : Int64 := if ya < f then own_run 0 l [] else own_run 0 l [(ya, wa)]
def own_sumb (ya wa yb wb f l : Int64) : Int64 := if yb < f then own_run 0 l [] else if ya < f then own_run 0 l [(yb, wb)] else own_run 0 l [(ya, wa), (yb, wb)]
def own_sumc (ya wa yb wb yc wc f l : Int64) : Int64 := if yb < f then (if yc < f then own_run 0 l [] else own_run 0 l [(yc, wc)]) else if ya < f then own_run 0 l [(yb, wb), (yc, wc)] else own_run 0 l [(ya, wa), (yb, wb), (yc, wc)]
theorem d3_0 : decode prog_4_method_17_code 0 = .ok (.iload_n 0, 1) := by decide +kernel
theorem d3_1 : decode prog_4_method_17_code 1 = .ok (.iconst 1, 1) := by decide +kernel
theorem d3_2 : decode prog_4_method_17_code 2 = .ok (.iadd, 1) := by decide +kernel
theorem d3_3 : decode prog_4_method_17_code 3 = .ok (.iconst 2, 1) := by decide +kernel
theorem d3_4 : decode prog_4_method_17_code 4 = .ok (.idiv, 1) := by decide +kernel
theorem d3_5 : decode prog_4_method_17_code 5 = .ok (.ireturn, 1) := by decide +kernel
theorem own_pn0 : plainName "com/example/inrush/inrush/engine/Counter" = true := by first | (simp [plainName, overriddenIn]; done) | decide +kernel
theorem own_ef_hli (m : MethodId) (va : Int32) : entryFrame m #[(.int va)] 1 = mkF m 0 #[iv va] [] := by first | (simp [entryFrame, mkF, argsToLocals, Value.category]; done) | rfl
def own_Q_hli (Z : State) (va : Int32) (h0 : Heap) (n0 : Nat) (v : Option Value) (h : Heap) (L : List Loc) : Prop := v = some (.int (own_hl va)) ∧ Fr n0 L ∧ h = h0
set_option maxRecDepth 65536 in
set_option maxHeartbeats 40000000 in
theorem own_rm_hli (l : Launch) (Z : State) (a0 : Array Value) (hw : ∀ d ∈ tables_1, d.before a0 Z = true) (ws : List Jvm.Cond) (va : Int32) (h0 : Heap) (n0 : Nat) (Z0 : n0 ≤ h0.size) :
    MetFree l own_y0 (head1 (Jvm.Cond.code own_y0 prog_4_method_17_code 1 (some .int) :: ws) ({ frames := 0, cells := 0, slots := 0, locals := 0 } : Room)) (fun a U => a = #[(.int va)] ∧ Z.Warmed39 U.vm ∧ U.heap = h0) (fun _ _ _ _ _ => True) (fun _ U o U' => ∃ v L, o = .returned v ∧ own_Q_hli Z va h0 n0 v U'.heap L ∧ FrameEnd U o U' L ({ frames := 0, cells := 0, slots := 0, locals := 0 } : Room).cells ({ frames := 0, cells := 0, slots := 0, locals := 0 } : Room).slots) := by
  refine MetFree.of_bodySF (plainFor_of_name own_pn0) hisR ?_
  intro p e s m args below meth c s₁ Bd hml0 hP hK
  obtain ⟨rfl, hZ, hh⟩ := hP
  have hx := Bd.exec
  have hby := Bd.bytes
  have hml : c.maxLocals = 1 := hml0
  have hown : s.vm.findClass own_k0 = some m.cls := findClass_of_methodNamed Bd.named
  have hnm := (name_of_methodNamed Bd.named Bd.method).1
  have X0 : Stand p l e ({ frames := 0, cells := 0, slots := 0, locals := 0 } : Room) s m #[(.int va)] below meth c s₁ [] 0 0 := Stand.of_body Bd
  have e0 : s₁.heap = h0 := by rw [← hh, Bd.state]; rfl
  have N0 := Fr.nil n0
  show own_Fin p e below s (own_Q_hli Z va h0 n0) ({ frames := 0, cells := 0, slots := 0, locals := 0 } : Room).cells ({ frames := 0, cells := 0, slots := 0, locals := 0 } : Room).slots (s₁.setTop (entryFrame m #[(.int va)] 1))
  refine own_Fin.go (fun t k => castTop (own_ef_hli m va) k) ?_
  refine own_Fin.go (fun t k => XS.iloadN X0.here hx rfl (hb hby d3_0) rfl (XS.iconst X0.here hx rfl (hb hby d3_1) (XS.iadd X0.here hx rfl (hb hby d3_2) rfl (XS.iconst X0.here hx rfl (hb hby d3_3) k)))) ?_
  show own_Fin _ _ _ _ _ _ _ (s₁.setTop (mkF m 4 #[iv va] [(.int 2), (.int (va + (1 : Int32)))]))
  refine own_Fin.go (fun t k => XS.idiv X0.here hx rfl (hb hby d3_4) rfl (by decide) k) ?_
  show own_Fin _ _ _ _ _ _ _ (s₁.setTop (mkF m 5 #[iv va] [(.int ((va + (1 : Int32)) / (2 : Int32)))]))
  refine own_retI X0 hx Bd.returns (hb hby d3_5) Bd.notSynchronized (by decide) (by decide) ?_
  rw [e0]
  exact ⟨rfl, N0, rfl⟩
theorem d7_0 : decode prog_4_method_15_code 0 = .ok (.aload_n 0, 1) := by decide +kernel
theorem d7_1 : decode prog_4_method_15_code 1 = .ok (.getfield 21, 3) := by decide +kernel
theorem d7_4 : decode prog_4_method_15_code 4 = .ok (.iconst 0, 1) := by decide +kernel
theorem d7_5 : decode prog_4_method_15_code 5 = .ok (.laload, 1) := by decide +kernel
theorem d7_6 : decode prog_4_method_15_code 6 = .ok (.bipush 60, 2) := by decide +kernel
theorem d7_8 : decode prog_4_method_15_code 8 = .ok (.lushr, 1) := by decide +kernel
theorem d7_9 : decode prog_4_method_15_code 9 = .ok (.l2i, 1) := by decide +kernel
theorem d7_10 : decode prog_4_method_15_code 10 = .ok (.ireturn, 1) := by decide +kernel
theorem own_ef_per (m : MethodId) (oa : Addr) : entryFrame m #[(.ref oa)] 1 = mkF m 0 #[rv oa] [] := by first | (simp [entryFrame, mkF, argsToLocals, Value.category]; done) | rfl
def own_Q_per (Z : State) (oa : Addr) (oz : Addr) (kz : ClassId) (NN : Int32) (HA : Int64) (HB : Int64) (RR : List Value) (h0 : Heap) (n0 : Nat) (v : Option Value) (h : Heap) (L : List Loc) : Prop := v = some (.int (own_per HA)) ∧ Fr n0 L ∧ h = h0
set_option maxRecDepth 65536 in
set_option maxHeartbeats 40000000 in
theorem own_rm_per (l : Launch) (Z : State) (a0 : Array Value) (hw : ∀ d ∈ tables_1, d.before a0 Z = true) (ws : List Jvm.Cond) (oa : Addr) (oz : Addr) (kz : ClassId) (NN : Int32) (HA : Int64) (HB : Int64) (RR : List Value) (h0 : Heap) (n0 : Nat) (Z0 : n0 ≤ h0.size) (F_oa_cells : Fld Z h0 oa own_k0 "cells" "[J" (.ref oz)) (V_oz : Arv Z h0 oz kz .long NN ((.long HA) :: (.long HB) :: RR) (.long 0)) (hN : (1 : Int32) < NN) :
    MetFree l own_y1 (head1 (Jvm.Cond.code own_y1 prog_4_method_15_code 1 (some .int) :: ws) ({ frames := 0, cells := 0, slots := 0, locals := 0 } : Room)) (fun a U => a = #[(.ref oa)] ∧ Z.Warmed39 U.vm ∧ U.heap = h0) (fun _ _ _ _ _ => True) (fun _ U o U' => ∃ v L, o = .returned v ∧ own_Q_per Z oa oz kz NN HA HB RR h0 n0 v U'.heap L ∧ FrameEnd U o U' L ({ frames := 0, cells := 0, slots := 0, locals := 0 } : Room).cells ({ frames := 0, cells := 0, slots := 0, locals := 0 } : Room).slots) := by
  refine MetFree.of_bodySF (plainFor_of_name own_pn0) hisR ?_
  intro p e s m args below meth c s₁ Bd hml0 hP hK
  obtain ⟨rfl, hZ, hh⟩ := hP
  have hx := Bd.exec
  have hby := Bd.bytes
  have hml : c.maxLocals = 1 := hml0
  have hown : s.vm.findClass own_k0 = some m.cls := findClass_of_methodNamed Bd.named
  have hnm := (name_of_methodNamed Bd.named Bd.method).1
  have X0 : Stand p l e ({ frames := 0, cells := 0, slots := 0, locals := 0 } : Room) s m #[(.ref oa)] below meth c s₁ [] 0 0 := Stand.of_body Bd
  have e0 : s₁.heap = h0 := by rw [← hh, Bd.state]; rfl
  have N0 := Fr.nil n0
  show own_Fin p e below s (own_Q_per Z oa oz kz NN HA HB RR h0 n0) ({ frames := 0, cells := 0, slots := 0, locals := 0 } : Room).cells ({ frames := 0, cells := 0, slots := 0, locals := 0 } : Room).slots (s₁.setTop (entryFrame m #[(.ref oa)] 1))
  refine own_Fin.go (fun t k => castTop (own_ef_per m oa) k) ?_
  refine own_Fin.go (fun t k => XS.aloadN X0.here hx rfl (hb hby d7_0) rfl rfl k) ?_
  refine own_gF X0 hx hZ hown (own_W hw 39 rfl) e0 F_oa_cells rfl rfl (hb hby d7_1) ?_
  intro T1 X1 e1
  refine own_Fin.go (fun t k => XS.iconst X1.here hx rfl (hb hby d7_4) k) ?_
  refine own_lal X1 hx hZ e1 V_oz ⟨by decide, Int32.lt_of_le_of_lt (by decide) hN⟩ (v := HA) rfl rfl rfl (hb hby d7_5) ?_
  show own_Fin _ _ _ _ _ _ _ (T1.setTop (mkF m 6 #[rv oa] [(.long HA)]))
  refine own_Fin.go (fun t k => XS.bipush X1.here hx rfl (hb hby d7_6) (XS.lushr X1.here hx rfl (hb hby d7_8) rfl (XS.l2i X1.here hx rfl (hb hby d7_9) rfl k))) ?_
  show own_Fin _ _ _ _ _ _ _ (T1.setTop (mkF m 10 #[rv oa] [(.int (((HA.toUInt64 >>> ((60 : Int32) &&& 0x3f).toInt64.toUInt64).toInt64).toInt32))]))
  refine own_retI X1 hx Bd.returns (hb hby d7_10) Bd.notSynchronized (by decide) (by decide) ?_
  rw [e1]
  exact ⟨rfl, N0, rfl⟩
theorem own_pd0 : parseMethodDescriptor "()I" = some ⟨[], some .int⟩ := by decide +kernel
theorem own_pd1 : parseMethodDescriptor "(I)I" = some ⟨[.int], some .int⟩ := by decide +kernel
theorem d2_0 : decode prog_4_method_16_code 0 = .ok (.aload_n 0, 1) := by decide +kernel
theorem d2_1 : decode prog_4_method_16_code 1 = .ok (.invokevirtual 131, 3) := by decide +kernel
theorem d2_4 : decode prog_4_method_16_code 4 = .ok (.invokestatic 17, 3) := by decide +kernel
theorem d2_7 : decode prog_4_method_16_code 7 = .ok (.ireturn, 1) := by decide +kernel
theorem own_ef_hlo (m : MethodId) (oa : Addr) : entryFrame m #[(.ref oa)] 1 = mkF m 0 #[rv oa] [] := by first | (simp [entryFrame, mkF, argsToLocals, Value.category]; done) | rfl
def own_Q_hlo (Z : State) (oa : Addr) (oz : Addr) (kz : ClassId) (NN : Int32) (HA : Int64) (HB : Int64) (RR : List Value) (h0 : Heap) (n0 : Nat) (v : Option Value) (h : Heap) (L : List Loc) : Prop := v = some (.int (own_hl (own_per HA))) ∧ Fr n0 L ∧ h = h0
set_option maxRecDepth 65536 in
set_option maxHeartbeats 40000000 in
theorem own_rm_hlo (l : Launch) (Z : State) (a0 : Array Value) (hw : ∀ d ∈ tables_1, d.before a0 Z = true) (ws : List Jvm.Cond) (oa : Addr) (oz : Addr) (kz : ClassId) (NN : Int32) (HA : Int64) (HB : Int64) (RR : List Value) (h0 : Heap) (n0 : Nat) (Z0 : n0 ≤ h0.size) (E_oa : Exa Z h0 oa own_k0) (F_oa_cells : Fld Z h0 oa own_k0 "cells" "[J" (.ref oz)) (V_oz : Arv Z h0 oz kz .long NN ((.long HA) :: (.long HB) :: RR) (.long 0)) (hN : (1 : Int32) < NN) :
    MetFree l own_y2 (head1 (Jvm.Cond.code own_y2 prog_4_method_16_code 1 (some .int) :: ws) ({ frames := 1, cells := 0, slots := 0, locals := 12 } : Room)) (fun a U => a = #[(.ref oa)] ∧ Z.Warmed39 U.vm ∧ U.heap = h0) (fun _ _ _ _ _ => True) (fun _ U o U' => ∃ v L, o = .returned v ∧ own_Q_hlo Z oa oz kz NN HA HB RR h0 n0 v U'.heap L ∧ FrameEnd U o U' L ({ frames := 1, cells := 0, slots := 0, locals := 12 } : Room).cells ({ frames := 1, cells := 0, slots := 0, locals := 12 } : Room).slots) := by
  refine MetFree.of_bodySF (plainFor_of_name own_pn0) hisR ?_
  intro p e s m args below meth c s₁ Bd hml0 hP hK
  obtain ⟨rfl, hZ, hh⟩ := hP
  have hx := Bd.exec
  have hby := Bd.bytes
  have hml : c.maxLocals = 1 := hml0
  have hown : s.vm.findClass own_k0 = some m.cls := findClass_of_methodNamed Bd.named
  have hnm := (name_of_methodNamed Bd.named Bd.method).1
  have X0 : Stand p l e ({ frames := 1, cells := 0, slots := 0, locals := 12 } : Room) s m #[(.ref oa)] below meth c s₁ [] 0 0 := Stand.of_body Bd
  have e0 : s₁.heap = h0 := by rw [← hh, Bd.state]; rfl
  have N0 := Fr.nil n0
  show own_Fin p e below s (own_Q_hlo Z oa oz kz NN HA HB RR h0 n0) ({ frames := 1, cells := 0, slots := 0, locals := 12 } : Room).cells ({ frames := 1, cells := 0, slots := 0, locals := 12 } : Room).slots (s₁.setTop (entryFrame m #[(.ref oa)] 1))
  refine own_Fin.go (fun t k => castTop (own_ef_hlo m oa) k) ?_
  refine own_Fin.go (fun t k => XS.aloadN X0.here hx rfl (hb hby d2_0) rfl rfl k) ?_
  refine own_pC X0 hx hZ hown (own_W hw 66 rfl) (own_W hw 67 rfl) (own_W hw 48 rfl) rfl (own_W hw 68 rfl) (own_W hw 69 rfl) (own_W hw 17 rfl) (by decide) (own_rm_per l Z a0 hw [] oa oz kz NN HA HB RR h0 n0 Z0 F_oa_cells V_oz (by assumption)) 0 (by decide) (by decide) e0 E_oa rfl (by rw [hml]; rfl) [] (lenOf own_pd0 rfl) rfl (Nat.le_of_eq rfl) (hb hby d2_1) rfl (by decide) (by decide) ?_
  rintro T1 Lc1 _ X1 ⟨rfl, N1q, e1⟩
  have N1 := Fr.app N0 N1q
  refine own_sC X1 hx hZ hown (own_W hw 35 rfl) (own_W hw 36 rfl) (own_W hw 17 rfl) (own_W hw 37 rfl) (by decide) (own_rm_hli l Z a0 hw [] (own_per HA)  h0 n0 Z0 ) 0 (by decide) (by decide) e1 rfl (by rw [hml]; rfl) [(.int (own_per HA))] [] (lenOf own_pd1 rfl) rfl (Nat.le_of_eq rfl) (hb hby d2_4) rfl (by decide) (by decide) ?_
  rintro T2 Lc2 _ X2 ⟨rfl, N2q, e2⟩
  have N2 := Fr.app N1 N2q
  show own_Fin _ _ _ _ _ _ _ (T2.setTop (mkF m 7 #[rv oa] [(.int (own_hl (own_per HA)))]))
  refine own_retI X2 hx Bd.returns (hb hby d2_7) Bd.notSynchronized (by decide) (by decide) ?_
  rw [e2]
  exact ⟨rfl, N2, rfl⟩
theorem d5_0 : decode prog_4_method_18_code 0 = .ok (.aload_n 0, 1) := by decide +kernel
theorem d5_1 : decode prog_4_method_18_code 1 = .ok (.getfield 21, 3) := by decide +kernel
theorem d5_4 : decode prog_4_method_18_code 4 = .ok (.iload_n 1, 1) := by decide +kernel
theorem d5_5 : decode prog_4_method_18_code 5 = .ok (.iconst 2, 1) := by decide +kernel
theorem d5_6 : decode prog_4_method_18_code 6 = .ok (.idiv, 1) := by decide +kernel
theorem d5_7 : decode prog_4_method_18_code 7 = .ok (.laload, 1) := by decide +kernel
theorem d5_8 : decode prog_4_method_18_code 8 = .ok (.iload_n 1, 1) := by decide +kernel
theorem d5_9 : decode prog_4_method_18_code 9 = .ok (.iconst 2, 1) := by decide +kernel
theorem d5_10 : decode prog_4_method_18_code 10 = .ok (.irem, 1) := by decide +kernel
theorem d5_11 : decode prog_4_method_18_code 11 = .ok (.bipush 30, 2) := by decide +kernel
theorem d5_13 : decode prog_4_method_18_code 13 = .ok (.imul, 1) := by decide +kernel
theorem d5_14 : decode prog_4_method_18_code 14 = .ok (.lushr, 1) := by decide +kernel
theorem d5_15 : decode prog_4_method_18_code 15 = .ok (.ldc2_w 173, 3) := by decide +kernel
theorem d5_18 : decode prog_4_method_18_code 18 = .ok (.land, 1) := by decide +kernel
theorem d5_19 : decode prog_4_method_18_code 19 = .ok (.l2i, 1) := by decide +kernel
theorem d5_20 : decode prog_4_method_18_code 20 = .ok (.ireturn, 1) := by decide +kernel
theorem own_ef_len0 (m : MethodId) (oa : Addr) : entryFrame m #[(.ref oa), (.int 0)] 2 = mkF m 0 #[rv oa, iv 0] [] := by first | (simp [entryFrame, mkF, argsToLocals, Value.category]; done) | rfl
def own_Q_len0 (Z : State) (oa : Addr) (oz : Addr) (kz : ClassId) (NN : Int32) (HA : Int64) (HB : Int64) (RR : List Value) (h0 : Heap) (n0 : Nat) (v : Option Value) (h : Heap) (L : List Loc) : Prop := v = some (.int (own_lena HA)) ∧ Fr n0 L ∧ h = h0
set_option maxRecDepth 65536 in
set_option maxHeartbeats 40000000 in
theorem own_rm_len0 (l : Launch) (Z : State) (a0 : Array Value) (hw : ∀ d ∈ tables_1, d.before a0 Z = true) (ws : List Jvm.Cond) (oa : Addr) (oz : Addr) (kz : ClassId) (NN : Int32) (HA : Int64) (HB : Int64) (RR : List Value) (h0 : Heap) (n0 : Nat) (Z0 : n0 ≤ h0.size) (F_oa_cells : Fld Z h0 oa own_k0 "cells" "[J" (.ref oz)) (V_oz : Arv Z h0 oz kz .long NN ((.long HA) :: (.long HB) :: RR) (.long 0)) (hN : (1 : Int32) < NN) :
    MetFree l own_y3 (head1 (Jvm.Cond.code own_y3 prog_4_method_18_code 2 (some .int) :: ws) ({ frames := 0, cells := 0, slots := 0, locals := 0 } : Room)) (fun a U => a = #[(.ref oa), (.int 0)] ∧ Z.Warmed39 U.vm ∧ U.heap = h0) (fun _ _ _ _ _ => True) (fun _ U o U' => ∃ v L, o = .returned v ∧ own_Q_len0 Z oa oz kz NN HA HB RR h0 n0 v U'.heap L ∧ FrameEnd U o U' L ({ frames := 0, cells := 0, slots := 0, locals := 0 } : Room).cells ({ frames := 0, cells := 0, slots := 0, locals := 0 } : Room).slots) := by
  refine MetFree.of_bodySF (plainFor_of_name own_pn0) hisR ?_
  intro p e s m args below meth c s₁ Bd hml0 hP hK
  obtain ⟨rfl, hZ, hh⟩ := hP
  have hx := Bd.exec
  have hby := Bd.bytes
  have hml : c.maxLocals = 2 := hml0
  have hown : s.vm.findClass own_k0 = some m.cls := findClass_of_methodNamed Bd.named
  have hnm := (name_of_methodNamed Bd.named Bd.method).1
  have X0 : Stand p l e ({ frames := 0, cells := 0, slots := 0, locals := 0 } : Room) s m #[(.ref oa), (.int 0)] below meth c s₁ [] 0 0 := Stand.of_body Bd
  have e0 : s₁.heap = h0 := by rw [← hh, Bd.state]; rfl
  have N0 := Fr.nil n0
  show own_Fin p e below s (own_Q_len0 Z oa oz kz NN HA HB RR h0 n0) ({ frames := 0, cells := 0, slots := 0, locals := 0 } : Room).cells ({ frames := 0, cells := 0, slots := 0, locals := 0 } : Room).slots (s₁.setTop (entryFrame m #[(.ref oa), (.int 0)] 2))
  refine own_Fin.go (fun t k => castTop (own_ef_len0 m oa) k) ?_
  refine own_Fin.go (fun t k => XS.aloadN X0.here hx rfl (hb hby d5_0) rfl rfl k) ?_
  refine own_gF X0 hx hZ hown (own_W hw 39 rfl) e0 F_oa_cells rfl rfl (hb hby d5_1) ?_
  intro T1 X1 e1
  refine own_Fin.go (fun t k => XS.iloadN X1.here hx rfl (hb hby d5_4) rfl (XS.iconst X1.here hx rfl (hb hby d5_5) k)) ?_
  show own_Fin _ _ _ _ _ _ _ (T1.setTop (mkF m 6 #[rv oa, iv 0] [(.int 2), (.int 0), (.ref oz)]))
  refine own_Fin.go (fun t k => XS.idiv X1.here hx rfl (hb hby d5_6) rfl (by decide) k) ?_
  show own_Fin _ _ _ _ _ _ _ (T1.setTop (mkF m 7 #[rv oa, iv 0] [(.int ((0 : Int32) / (2 : Int32))), (.ref oz)]))
  rw [show ((0 : Int32) / (2 : Int32)) = (0 : Int32) from by decide +kernel]
  refine own_lal X1 hx hZ e1 V_oz ⟨by decide, Int32.lt_of_le_of_lt (by decide) hN⟩ (v := HA) rfl rfl rfl (hb hby d5_7) ?_
  refine own_Fin.go (fun t k => XS.iloadN X1.here hx rfl (hb hby d5_8) rfl (XS.iconst X1.here hx rfl (hb hby d5_9) k)) ?_
  refine own_Fin.go (fun t k => iremM X1 hx rfl (hb hby d5_10) rfl (by decide) k) ?_
  show own_Fin _ _ _ _ _ _ _ (T1.setTop (mkF m 11 #[rv oa, iv 0] [(.int ((0 : Int32) % (2 : Int32))), (.long HA)]))
  rw [show ((0 : Int32) % (2 : Int32)) = (0 : Int32) from by decide +kernel]
  refine own_Fin.go (fun t k => XS.bipush X1.here hx rfl (hb hby d5_11) (XS.imul X1.here hx rfl (hb hby d5_13) rfl k)) ?_
  show own_Fin _ _ _ _ _ _ _ (T1.setTop (mkF m 14 #[rv oa, iv 0] [(.int ((0 : Int32) * (30 : Int32))), (.long HA)]))
  rw [show ((0 : Int32) * (30 : Int32)) = (0 : Int32) from by decide +kernel]
  refine own_Fin.go (fun t k => XS.lushr X1.here hx rfl (hb hby d5_14) rfl k) ?_
  refine own_Fin.go (fun t k => X1.ldc2Long hx hown (mvT hZ (own_W hw 74 rfl)) (g := (mkF m 15 #[rv oa, iv 0] [(.long ((HA.toUInt64 >>> ((0 : Int32) &&& 0x3f).toInt64.toUInt64).toInt64))])) rfl (hb hby d5_15) t k) ?_
  refine own_Fin.go (fun t k => XS.land X1.here hx rfl (hb hby d5_18) rfl (XS.l2i X1.here hx rfl (hb hby d5_19) rfl k)) ?_
  show own_Fin _ _ _ _ _ _ _ (T1.setTop (mkF m 20 #[rv oa, iv 0] [(.int ((((HA.toUInt64 >>> ((0 : Int32) &&& 0x3f).toInt64.toUInt64).toInt64) &&& (1073741823 : Int64)).toInt32))]))
  refine own_retI X1 hx Bd.returns (hb hby d5_20) Bd.notSynchronized (by decide) (by decide) ?_
  rw [e1]
  exact ⟨rfl, N0, rfl⟩
theorem own_ef_len1 (m : MethodId) (oa : Addr) : entryFrame m #[(.ref oa), (.int 1)] 2 = mkF m 0 #[rv oa, iv 1] [] := by first | (simp [entryFrame, mkF, argsToLocals, Value.category]; done) | rfl
def own_Q_len1 (Z : State) (oa : Addr) (oz : Addr) (kz : ClassId) (NN : Int32) (HA : Int64) (HB : Int64) (RR : List Value) (h0 : Heap) (n0 : Nat) (v : Option Value) (h : Heap) (L : List Loc) : Prop := v = some (.int (own_lenb HA)) ∧ Fr n0 L ∧ h = h0
set_option maxRecDepth 65536 in
set_option maxHeartbeats 40000000 in
theorem own_rm_len1 (l : Launch) (Z : State) (a0 : Array Value) (hw : ∀ d ∈ tables_1, d.before a0 Z = true) (ws : List Jvm.Cond) (oa : Addr) (oz : Addr) (kz : ClassId) (NN : Int32) (HA : Int64) (HB : Int64) (RR : List Value) (h0 : Heap) (n0 : Nat) (Z0 : n0 ≤ h0.size) (F_oa_cells : Fld Z h0 oa own_k0 "cells" "[J" (.ref oz)) (V_oz : Arv Z h0 oz kz .long NN ((.long HA) :: (.long HB) :: RR) (.long 0)) (hN : (1 : Int32) < NN) :
    MetFree l own_y3 (head1 (Jvm.Cond.code own_y3 prog_4_method_18_code 2 (some .int) :: ws) ({ frames := 0, cells := 0, slots := 0, locals := 0 } : Room)) (fun a U => a = #[(.ref oa), (.int 1)] ∧ Z.Warmed39 U.vm ∧ U.heap = h0) (fun _ _ _ _ _ => True) (fun _ U o U' => ∃ v L, o = .returned v ∧ own_Q_len1 Z oa oz kz NN HA HB RR h0 n0 v U'.heap L ∧ FrameEnd U o U' L ({ frames := 0, cells := 0, slots := 0, locals := 0 } : Room).cells ({ frames := 0, cells := 0, slots := 0, locals := 0 } : Room).slots) := by
  refine MetFree.of_bodySF (plainFor_of_name own_pn0) hisR ?_
  intro p e s m args below meth c s₁ Bd hml0 hP hK
  obtain ⟨rfl, hZ, hh⟩ := hP
  have hx := Bd.exec
  have hby := Bd.bytes
  have hml : c.maxLocals = 2 := hml0
  have hown : s.vm.findClass own_k0 = some m.cls := findClass_of_methodNamed Bd.named
  have hnm := (name_of_methodNamed Bd.named Bd.method).1
  have X0 : Stand p l e ({ frames := 0, cells := 0, slots := 0, locals := 0 } : Room) s m #[(.ref oa), (.int 1)] below meth c s₁ [] 0 0 := Stand.of_body Bd
  have e0 : s₁.heap = h0 := by rw [← hh, Bd.state]; rfl
  have N0 := Fr.nil n0
  show own_Fin p e below s (own_Q_len1 Z oa oz kz NN HA HB RR h0 n0) ({ frames := 0, cells := 0, slots := 0, locals := 0 } : Room).cells ({ frames := 0, cells := 0, slots := 0, locals := 0 } : Room).slots (s₁.setTop (entryFrame m #[(.ref oa), (.int 1)] 2))
  refine own_Fin.go (fun t k => castTop (own_ef_len1 m oa) k) ?_
  refine own_Fin.go (fun t k => XS.aloadN X0.here hx rfl (hb hby d5_0) rfl rfl k) ?_
  refine own_gF X0 hx hZ hown (own_W hw 39 rfl) e0 F_oa_cells rfl rfl (hb hby d5_1) ?_
  intro T1 X1 e1
  refine own_Fin.go (fun t k => XS.iloadN X1.here hx rfl (hb hby d5_4) rfl (XS.iconst X1.here hx rfl (hb hby d5_5) k)) ?_
  show own_Fin _ _ _ _ _ _ _ (T1.setTop (mkF m 6 #[rv oa, iv 1] [(.int 2), (.int 1), (.ref oz)]))
  refine own_Fin.go (fun t k => XS.idiv X1.here hx rfl (hb hby d5_6) rfl (by decide) k) ?_
  show own_Fin _ _ _ _ _ _ _ (T1.setTop (mkF m 7 #[rv oa, iv 1] [(.int ((1 : Int32) / (2 : Int32))), (.ref oz)]))
  rw [show ((1 : Int32) / (2 : Int32)) = (0 : Int32) from by decide +kernel]
  refine own_lal X1 hx hZ e1 V_oz ⟨by decide, Int32.lt_of_le_of_lt (by decide) hN⟩ (v := HA) rfl rfl rfl (hb hby d5_7) ?_
  refine own_Fin.go (fun t k => XS.iloadN X1.here hx rfl (hb hby d5_8) rfl (XS.iconst X1.here hx rfl (hb hby d5_9) k)) ?_
  refine own_Fin.go (fun t k => iremM X1 hx rfl (hb hby d5_10) rfl (by decide) k) ?_
  show own_Fin _ _ _ _ _ _ _ (T1.setTop (mkF m 11 #[rv oa, iv 1] [(.int ((1 : Int32) % (2 : Int32))), (.long HA)]))
  rw [show ((1 : Int32) % (2 : Int32)) = (1 : Int32) from by decide +kernel]
  refine own_Fin.go (fun t k => XS.bipush X1.here hx rfl (hb hby d5_11) (XS.imul X1.here hx rfl (hb hby d5_13) rfl k)) ?_
  show own_Fin _ _ _ _ _ _ _ (T1.setTop (mkF m 14 #[rv oa, iv 1] [(.int ((1 : Int32) * (30 : Int32))), (.long HA)]))
  rw [show ((1 : Int32) * (30 : Int32)) = (30 : Int32) from by decide +kernel]
  refine own_Fin.go (fun t k => XS.lushr X1.here hx rfl (hb hby d5_14) rfl k) ?_
  refine own_Fin.go (fun t k => X1.ldc2Long hx hown (mvT hZ (own_W hw 74 rfl)) (g := (mkF m 15 #[rv oa, iv 1] [(.long ((HA.toUInt64 >>> ((30 : Int32) &&& 0x3f).toInt64.toUInt64).toInt64))])) rfl (hb hby d5_15) t k) ?_
  refine own_Fin.go (fun t k => XS.land X1.here hx rfl (hb hby d5_18) rfl (XS.l2i X1.here hx rfl (hb hby d5_19) rfl k)) ?_
  show own_Fin _ _ _ _ _ _ _ (T1.setTop (mkF m 20 #[rv oa, iv 1] [(.int ((((HA.toUInt64 >>> ((30 : Int32) &&& 0x3f).toInt64.toUInt64).toInt64) &&& (1073741823 : Int64)).toInt32))]))
  refine own_retI X1 hx Bd.returns (hb hby d5_20) Bd.notSynchronized (by decide) (by decide) ?_
  rw [e1]
  exact ⟨rfl, N0, rfl⟩
theorem own_ef_len2 (m : MethodId) (oa : Addr) : entryFrame m #[(.ref oa), (.int 2)] 2 = mkF m 0 #[rv oa, iv 2] [] := by first | (simp [entryFrame, mkF, argsToLocals, Value.category]; done) | rfl
def own_Q_len2 (Z : State) (oa : Addr) (oz : Addr) (kz : ClassId) (NN : Int32) (HA : Int64) (HB : Int64) (RR : List Value) (h0 : Heap) (n0 : Nat) (v : Option Value) (h : Heap) (L : List Loc) : Prop := v = some (.int (own_lena HB)) ∧ Fr n0 L ∧ h = h0
set_option maxRecDepth 65536 in
set_option maxHeartbeats 40000000 in
theorem own_rm_len2 (l : Launch) (Z : State) (a0 : Array Value) (hw : ∀ d ∈ tables_1, d.before a0 Z = true) (ws : List Jvm.Cond) (oa : Addr) (oz : Addr) (kz : ClassId) (NN : Int32) (HA : Int64) (HB : Int64) (RR : List Value) (h0 : Heap) (n0 : Nat) (Z0 : n0 ≤ h0.size) (F_oa_cells : Fld Z h0 oa own_k0 "cells" "[J" (.ref oz)) (V_oz : Arv Z h0 oz kz .long NN ((.long HA) :: (.long HB) :: RR) (.long 0)) (hN : (1 : Int32) < NN) :
    MetFree l own_y3 (head1 (Jvm.Cond.code own_y3 prog_4_method_18_code 2 (some .int) :: ws) ({ frames := 0, cells := 0, slots := 0, locals := 0 } : Room)) (fun a U => a = #[(.ref oa), (.int 2)] ∧ Z.Warmed39 U.vm ∧ U.heap = h0) (fun _ _ _ _ _ => True) (fun _ U o U' => ∃ v L, o = .returned v ∧ own_Q_len2 Z oa oz kz NN HA HB RR h0 n0 v U'.heap L ∧ FrameEnd U o U' L ({ frames := 0, cells := 0, slots := 0, locals := 0 } : Room).cells ({ frames := 0, cells := 0, slots := 0, locals := 0 } : Room).slots) := by
  refine MetFree.of_bodySF (plainFor_of_name own_pn0) hisR ?_
  intro p e s m args below meth c s₁ Bd hml0 hP hK
  obtain ⟨rfl, hZ, hh⟩ := hP
  have hx := Bd.exec
  have hby := Bd.bytes
  have hml : c.maxLocals = 2 := hml0
  have hown : s.vm.findClass own_k0 = some m.cls := findClass_of_methodNamed Bd.named
  have hnm := (name_of_methodNamed Bd.named Bd.method).1
  have X0 : Stand p l e ({ frames := 0, cells := 0, slots := 0, locals := 0 } : Room) s m #[(.ref oa), (.int 2)] below meth c s₁ [] 0 0 := Stand.of_body Bd
  have e0 : s₁.heap = h0 := by rw [← hh, Bd.state]; rfl
  have N0 := Fr.nil n0
  show own_Fin p e below s (own_Q_len2 Z oa oz kz NN HA HB RR h0 n0) ({ frames := 0, cells := 0, slots := 0, locals := 0 } : Room).cells ({ frames := 0, cells := 0, slots := 0, locals := 0 } : Room).slots (s₁.setTop (entryFrame m #[(.ref oa), (.int 2)] 2))
  refine own_Fin.go (fun t k => castTop (own_ef_len2 m oa) k) ?_
  refine own_Fin.go (fun t k => XS.aloadN X0.here hx rfl (hb hby d5_0) rfl rfl k) ?_
  refine own_gF X0 hx hZ hown (own_W hw 39 rfl) e0 F_oa_cells rfl rfl (hb hby d5_1) ?_
  intro T1 X1 e1
  refine own_Fin.go (fun t k => XS.iloadN X1.here hx rfl (hb hby d5_4) rfl (XS.iconst X1.here hx rfl (hb hby d5_5) k)) ?_
  show own_Fin _ _ _ _ _ _ _ (T1.setTop (mkF m 6 #[rv oa, iv 2] [(.int 2), (.int 2), (.ref oz)]))
  refine own_Fin.go (fun t k => XS.idiv X1.here hx rfl (hb hby d5_6) rfl (by decide) k) ?_
  show own_Fin _ _ _ _ _ _ _ (T1.setTop (mkF m 7 #[rv oa, iv 2] [(.int ((2 : Int32) / (2 : Int32))), (.ref oz)]))
  rw [show ((2 : Int32) / (2 : Int32)) = (1 : Int32) from by decide +kernel]
  refine own_lal X1 hx hZ e1 V_oz ⟨by decide, Int32.lt_of_le_of_lt (by decide) hN⟩ (v := HB) rfl rfl rfl (hb hby d5_7) ?_
  refine own_Fin.go (fun t k => XS.iloadN X1.here hx rfl (hb hby d5_8) rfl (XS.iconst X1.here hx rfl (hb hby d5_9) k)) ?_
  refine own_Fin.go (fun t k => iremM X1 hx rfl (hb hby d5_10) rfl (by decide) k) ?_
  show own_Fin _ _ _ _ _ _ _ (T1.setTop (mkF m 11 #[rv oa, iv 2] [(.int ((2 : Int32) % (2 : Int32))), (.long HB)]))
  rw [show ((2 : Int32) % (2 : Int32)) = (0 : Int32) from by decide +kernel]
  refine own_Fin.go (fun t k => XS.bipush X1.here hx rfl (hb hby d5_11) (XS.imul X1.here hx rfl (hb hby d5_13) rfl k)) ?_
  show own_Fin _ _ _ _ _ _ _ (T1.setTop (mkF m 14 #[rv oa, iv 2] [(.int ((0 : Int32) * (30 : Int32))), (.long HB)]))
  rw [show ((0 : Int32) * (30 : Int32)) = (0 : Int32) from by decide +kernel]
  refine own_Fin.go (fun t k => XS.lushr X1.here hx rfl (hb hby d5_14) rfl k) ?_
  refine own_Fin.go (fun t k => X1.ldc2Long hx hown (mvT hZ (own_W hw 74 rfl)) (g := (mkF m 15 #[rv oa, iv 2] [(.long ((HB.toUInt64 >>> ((0 : Int32) &&& 0x3f).toInt64.toUInt64).toInt64))])) rfl (hb hby d5_15) t k) ?_
  refine own_Fin.go (fun t k => XS.land X1.here hx rfl (hb hby d5_18) rfl (XS.l2i X1.here hx rfl (hb hby d5_19) rfl k)) ?_
  show own_Fin _ _ _ _ _ _ _ (T1.setTop (mkF m 20 #[rv oa, iv 2] [(.int ((((HB.toUInt64 >>> ((0 : Int32) &&& 0x3f).toInt64.toUInt64).toInt64) &&& (1073741823 : Int64)).toInt32))]))
  refine own_retI X1 hx Bd.returns (hb hby d5_20) Bd.notSynchronized (by decide) (by decide) ?_
  rw [e1]
  exact ⟨rfl, N0, rfl⟩
theorem d11_0 : decode prog_4_method_13_code 0 = .ok (.aload_n 0, 1) := by decide +kernel
theorem d11_1 : decode prog_4_method_13_code 1 = .ok (.invokevirtual 49, 3) := by decide +kernel
theorem d11_4 : decode prog_4_method_13_code 4 = .ok (.istore_n 2, 1) := by decide +kernel
theorem d11_5 : decode prog_4_method_13_code 5 = .ok (.iconst 0, 1) := by decide +kernel
theorem d11_6 : decode prog_4_method_13_code 6 = .ok (.istore_n 3, 1) := by decide +kernel
theorem d11_7 : decode prog_4_method_13_code 7 = .ok (.iload_n 3, 1) := by decide +kernel
theorem d11_8 : decode prog_4_method_13_code 8 = .ok (.iload_n 1, 1) := by decide +kernel
theorem d11_9 : decode prog_4_method_13_code 9 = .ok (.if_icmp .ge 19, 3) := by decide +kernel
theorem d11_28 : decode prog_4_method_13_code 28 = .ok (.iload_n 2, 1) := by decide +kernel
theorem d11_29 : decode prog_4_method_13_code 29 = .ok (.ireturn, 1) := by decide +kernel
theorem own_ef_st0 (m : MethodId) (oa : Addr) : entryFrame m #[(.ref oa), (.int 0)] 4 = mkF m 0 #[rv oa, iv 0, uS, uS] [] := by first | (simp [entryFrame, mkF, argsToLocals, Value.category]; done) | rfl
def own_Q_st0 (Z : State) (oa : Addr) (oz : Addr) (kz : ClassId) (NN : Int32) (HA : Int64) (HB : Int64) (RR : List Value) (h0 : Heap) (n0 : Nat) (v : Option Value) (h : Heap) (L : List Loc) : Prop := v = some (.int (own_sta HA)) ∧ Fr n0 L ∧ h = h0
set_option maxRecDepth 65536 in
set_option maxHeartbeats 40000000 in
theorem own_rm_st0 (l : Launch) (Z : State) (a0 : Array Value) (hw : ∀ d ∈ tables_1, d.before a0 Z = true) (ws : List Jvm.Cond) (oa : Addr) (oz : Addr) (kz : ClassId) (NN : Int32) (HA : Int64) (HB : Int64) (RR : List Value) (h0 : Heap) (n0 : Nat) (Z0 : n0 ≤ h0.size) (E_oa : Exa Z h0 oa own_k0) (F_oa_cells : Fld Z h0 oa own_k0 "cells" "[J" (.ref oz)) (V_oz : Arv Z h0 oz kz .long NN ((.long HA) :: (.long HB) :: RR) (.long 0)) (hN : (1 : Int32) < NN) :
    MetFree l own_y4 (head1 (Jvm.Cond.code own_y4 prog_4_method_13_code 4 (some .int) :: ws) ({ frames := 2, cells := 0, slots := 0, locals := 24 } : Room)) (fun a U => a = #[(.ref oa), (.int 0)] ∧ Z.Warmed39 U.vm ∧ U.heap = h0) (fun _ _ _ _ _ => True) (fun _ U o U' => ∃ v L, o = .returned v ∧ own_Q_st0 Z oa oz kz NN HA HB RR h0 n0 v U'.heap L ∧ FrameEnd U o U' L ({ frames := 2, cells := 0, slots := 0, locals := 24 } : Room).cells ({ frames := 2, cells := 0, slots := 0, locals := 24 } : Room).slots) := by
  refine MetFree.of_bodySF (plainFor_of_name own_pn0) hisR ?_
  intro p e s m args below meth c s₁ Bd hml0 hP hK
  obtain ⟨rfl, hZ, hh⟩ := hP
  have hx := Bd.exec
  have hby := Bd.bytes
  have hml : c.maxLocals = 4 := hml0
  have hown : s.vm.findClass own_k0 = some m.cls := findClass_of_methodNamed Bd.named
  have hnm := (name_of_methodNamed Bd.named Bd.method).1
  have X0 : Stand p l e ({ frames := 2, cells := 0, slots := 0, locals := 24 } : Room) s m #[(.ref oa), (.int 0)] below meth c s₁ [] 0 0 := Stand.of_body Bd
  have e0 : s₁.heap = h0 := by rw [← hh, Bd.state]; rfl
  have N0 := Fr.nil n0
  show own_Fin p e below s (own_Q_st0 Z oa oz kz NN HA HB RR h0 n0) ({ frames := 2, cells := 0, slots := 0, locals := 24 } : Room).cells ({ frames := 2, cells := 0, slots := 0, locals := 24 } : Room).slots (s₁.setTop (entryFrame m #[(.ref oa), (.int 0)] 4))
  refine own_Fin.go (fun t k => castTop (own_ef_st0 m oa) k) ?_
  refine own_Fin.go (fun t k => XS.aloadN X0.here hx rfl (hb hby d11_0) rfl rfl k) ?_
  refine own_pC X0 hx hZ hown (own_W hw 62 rfl) (own_W hw 63 rfl) (own_W hw 48 rfl) rfl (own_W hw 64 rfl) (own_W hw 65 rfl) (own_W hw 17 rfl) (by decide) (own_rm_hlo l Z a0 hw [] oa oz kz NN HA HB RR h0 n0 Z0 E_oa F_oa_cells V_oz (by assumption)) 0 (by decide) (by decide) e0 E_oa rfl (by rw [hml]; rfl) [] (lenOf own_pd0 rfl) rfl (Nat.le_of_eq rfl) (hb hby d11_1) rfl (by decide) (by decide) ?_
  rintro T1 Lc1 _ X1 ⟨rfl, N1q, e1⟩
  have N1 := Fr.app N0 N1q
  refine own_Fin.go (fun t k => XS.istoreN X1.here hx rfl (hb hby d11_4) rfl (l' := #[rv oa, iv 0, .val (.int (own_hl (own_per HA))), uS]) rfl (XS.iconst X1.here hx rfl (hb hby d11_5) k)) ?_
  show own_Fin _ _ _ _ _ _ _ (T1.setTop (mkF m 6 #[rv oa, iv 0, .val (.int (own_hl (own_per HA))), uS] [(.int 0)]))
  refine own_Fin.go (fun t k => XS.istoreN X1.here hx rfl (hb hby d11_6) rfl (l' := #[rv oa, iv 0, .val (.int (own_hl (own_per HA))), iv 0]) rfl (XS.iloadN X1.here hx rfl (hb hby d11_7) rfl (XS.iloadN X1.here hx rfl (hb hby d11_8) rfl (XS.icmpYes X1.here hx rfl (pc0 := 9) (pc' := 28) rfl (hb hby d11_9) rfl (by decide) (by decide) (by decide) k)))) ?_
  refine own_Fin.go (fun t k => XS.iloadN X1.here hx rfl (hb hby d11_28) rfl k) ?_
  show own_Fin _ _ _ _ _ _ _ (T1.setTop (mkF m 29 #[rv oa, iv 0, .val (.int (own_hl (own_per HA))), iv 0] [(.int (own_hl (own_per HA)))]))
  refine own_retI X1 hx Bd.returns (hb hby d11_29) Bd.notSynchronized (by decide) (by decide) ?_
  rw [e1]
  exact ⟨rfl, N1, rfl⟩
theorem d11_12 : decode prog_4_method_13_code 12 = .ok (.iload_n 2, 1) := by decide +kernel
theorem d11_13 : decode prog_4_method_13_code 13 = .ok (.iconst 2, 1) := by decide +kernel
theorem d11_14 : decode prog_4_method_13_code 14 = .ok (.aload_n 0, 1) := by decide +kernel
theorem d11_15 : decode prog_4_method_13_code 15 = .ok (.iload_n 3, 1) := by decide +kernel
theorem d11_16 : decode prog_4_method_13_code 16 = .ok (.invokevirtual 80, 3) := by decide +kernel
theorem d11_19 : decode prog_4_method_13_code 19 = .ok (.imul, 1) := by decide +kernel
theorem d11_20 : decode prog_4_method_13_code 20 = .ok (.iadd, 1) := by decide +kernel
theorem d11_21 : decode prog_4_method_13_code 21 = .ok (.istore_n 2, 1) := by decide +kernel
theorem d11_22 : decode prog_4_method_13_code 22 = .ok (.iinc 3 1, 3) := by decide +kernel
theorem d11_25 : decode prog_4_method_13_code 25 = .ok (.goto (-18), 3) := by decide +kernel
theorem own_ef_st1 (m : MethodId) (oa : Addr) : entryFrame m #[(.ref oa), (.int 1)] 4 = mkF m 0 #[rv oa, iv 1, uS, uS] [] := by first | (simp [entryFrame, mkF, argsToLocals, Value.category]; done) | rfl
def own_Q_st1 (Z : State) (oa : Addr) (oz : Addr) (kz : ClassId) (NN : Int32) (HA : Int64) (HB : Int64) (RR : List Value) (h0 : Heap) (n0 : Nat) (v : Option Value) (h : Heap) (L : List Loc) : Prop := v = some (.int (own_stb HA)) ∧ Fr n0 L ∧ h = h0
set_option maxRecDepth 65536 in
set_option maxHeartbeats 40000000 in
theorem own_rm_st1 (l : Launch) (Z : State) (a0 : Array Value) (hw : ∀ d ∈ tables_1, d.before a0 Z = true) (ws : List Jvm.Cond) (oa : Addr) (oz : Addr) (kz : ClassId) (NN : Int32) (HA : Int64) (HB : Int64) (RR : List Value) (h0 : Heap) (n0 : Nat) (Z0 : n0 ≤ h0.size) (E_oa : Exa Z h0 oa own_k0) (F_oa_cells : Fld Z h0 oa own_k0 "cells" "[J" (.ref oz)) (V_oz : Arv Z h0 oz kz .long NN ((.long HA) :: (.long HB) :: RR) (.long 0)) (hN : (1 : Int32) < NN) :
    MetFree l own_y4 (head1 (Jvm.Cond.code own_y4 prog_4_method_13_code 4 (some .int) :: ws) ({ frames := 2, cells := 0, slots := 0, locals := 24 } : Room)) (fun a U => a = #[(.ref oa), (.int 1)] ∧ Z.Warmed39 U.vm ∧ U.heap = h0) (fun _ _ _ _ _ => True) (fun _ U o U' => ∃ v L, o = .returned v ∧ own_Q_st1 Z oa oz kz NN HA HB RR h0 n0 v U'.heap L ∧ FrameEnd U o U' L ({ frames := 2, cells := 0, slots := 0, locals := 24 } : Room).cells ({ frames := 2, cells := 0, slots := 0, locals := 24 } : Room).slots) := by
  refine MetFree.of_bodySF (plainFor_of_name own_pn0) hisR ?_
  intro p e s m args below meth c s₁ Bd hml0 hP hK
  obtain ⟨rfl, hZ, hh⟩ := hP
  have hx := Bd.exec
  have hby := Bd.bytes
  have hml : c.maxLocals = 4 := hml0
  have hown : s.vm.findClass own_k0 = some m.cls := findClass_of_methodNamed Bd.named
  have hnm := (name_of_methodNamed Bd.named Bd.method).1
  have X0 : Stand p l e ({ frames := 2, cells := 0, slots := 0, locals := 24 } : Room) s m #[(.ref oa), (.int 1)] below meth c s₁ [] 0 0 := Stand.of_body Bd
  have e0 : s₁.heap = h0 := by rw [← hh, Bd.state]; rfl
  have N0 := Fr.nil n0
  show own_Fin p e below s (own_Q_st1 Z oa oz kz NN HA HB RR h0 n0) ({ frames := 2, cells := 0, slots := 0, locals := 24 } : Room).cells ({ frames := 2, cells := 0, slots := 0, locals := 24 } : Room).slots (s₁.setTop (entryFrame m #[(.ref oa), (.int 1)] 4))
  refine own_Fin.go (fun t k => castTop (own_ef_st1 m oa) k) ?_
  refine own_Fin.go (fun t k => XS.aloadN X0.here hx rfl (hb hby d11_0) rfl rfl k) ?_
  refine own_pC X0 hx hZ hown (own_W hw 62 rfl) (own_W hw 63 rfl) (own_W hw 48 rfl) rfl (own_W hw 64 rfl) (own_W hw 65 rfl) (own_W hw 17 rfl) (by decide) (own_rm_hlo l Z a0 hw [] oa oz kz NN HA HB RR h0 n0 Z0 E_oa F_oa_cells V_oz (by assumption)) 0 (by decide) (by decide) e0 E_oa rfl (by rw [hml]; rfl) [] (lenOf own_pd0 rfl) rfl (Nat.le_of_eq rfl) (hb hby d11_1) rfl (by decide) (by decide) ?_
  rintro T1 Lc1 _ X1 ⟨rfl, N1q, e1⟩
  have N1 := Fr.app N0 N1q
  refine own_Fin.go (fun t k => XS.istoreN X1.here hx rfl (hb hby d11_4) rfl (l' := #[rv oa, iv 1, .val (.int (own_hl (own_per HA))), uS]) rfl (XS.iconst X1.here hx rfl (hb hby d11_5) k)) ?_
  show own_Fin _ _ _ _ _ _ _ (T1.setTop (mkF m 6 #[rv oa, iv 1, .val (.int (own_hl (own_per HA))), uS] [(.int 0)]))
  refine own_Fin.go (fun t k => XS.istoreN X1.here hx rfl (hb hby d11_6) rfl (l' := #[rv oa, iv 1, .val (.int (own_hl (own_per HA))), iv 0]) rfl (XS.iloadN X1.here hx rfl (hb hby d11_7) rfl (XS.iloadN X1.here hx rfl (hb hby d11_8) rfl (XS.icmpNo X1.here hx rfl (hb hby d11_9) rfl (by decide) k)))) ?_
  refine own_Fin.go (fun t k => XS.iloadN X1.here hx rfl (hb hby d11_12) rfl k) ?_
  show own_Fin _ _ _ _ _ _ _ (T1.setTop (mkF m 13 #[rv oa, iv 1, .val (.int (own_hl (own_per HA))), iv 0] [(.int (own_hl (own_per HA)))]))
  refine own_Fin.go (fun t k => XS.iconst X1.here hx rfl (hb hby d11_13) (XS.aloadN X1.here hx rfl (hb hby d11_14) rfl rfl (XS.iloadN X1.here hx rfl (hb hby d11_15) rfl k))) ?_
  refine own_pC X1 hx hZ hown (own_W hw 70 rfl) (own_W hw 71 rfl) (own_W hw 48 rfl) rfl (own_W hw 72 rfl) (own_W hw 73 rfl) (own_W hw 17 rfl) (by decide) (own_rm_len0 l Z a0 hw [] oa oz kz NN HA HB RR h0 n0 Z0 F_oa_cells V_oz (by assumption)) 2 (by decide) (by decide) e1 E_oa rfl (by rw [hml]; rfl) [(.int 0)] (lenOf own_pd1 rfl) rfl (Nat.le_of_eq rfl) (hb hby d11_16) rfl (by decide) (by decide) ?_
  rintro T2 Lc2 _ X2 ⟨rfl, N2q, e2⟩
  have N2 := Fr.app N1 N2q
  refine own_Fin.go (fun t k => XS.imul X2.here hx rfl (hb hby d11_19) rfl k) ?_
  show own_Fin _ _ _ _ _ _ _ (T2.setTop (mkF m 20 #[rv oa, iv 1, .val (.int (own_hl (own_per HA))), iv 0] [(.int ((2 : Int32) * (own_lena HA))), (.int (own_hl (own_per HA)))]))
  refine own_Fin.go (fun t k => XS.iadd X2.here hx rfl (hb hby d11_20) rfl (XS.istoreN X2.here hx rfl (hb hby d11_21) rfl (l' := #[rv oa, iv 1, .val (.int ((own_hl (own_per HA)) + ((2 : Int32) * (own_lena HA)))), iv 0]) rfl (XS.iinc X2.here hx rfl (hb hby d11_22) rfl (l' := #[rv oa, iv 1, .val (.int ((own_hl (own_per HA)) + ((2 : Int32) * (own_lena HA)))), .val (.int ((0 : Int32) + (1 : Int32)))]) rfl k))) ?_
  show own_Fin _ _ _ _ _ _ _ (T2.setTop (mkF m 25 #[rv oa, iv 1, .val (.int ((own_hl (own_per HA)) + ((2 : Int32) * (own_lena HA)))), .val (.int ((0 : Int32) + (1 : Int32)))] []))
  rw [show ((0 : Int32) + (1 : Int32)) = (1 : Int32) from by decide +kernel]
  refine own_Fin.go (fun t k => XS.goto X2.here hx rfl (pc0 := 25) (pc' := 7) rfl (hb hby d11_25) (by decide) (by decide) (XS.iloadN X2.here hx rfl (hb hby d11_7) rfl (XS.iloadN X2.here hx rfl (hb hby d11_8) rfl (XS.icmpYes X2.here hx rfl (pc0 := 9) (pc' := 28) rfl (hb hby d11_9) rfl (by decide) (by decide) (by decide) k)))) ?_
  refine own_Fin.go (fun t k => XS.iloadN X2.here hx rfl (hb hby d11_28) rfl k) ?_
  show own_Fin _ _ _ _ _ _ _ (T2.setTop (mkF m 29 #[rv oa, iv 1, .val (.int ((own_hl (own_per HA)) + ((2 : Int32) * (own_lena HA)))), iv 1] [(.int ((own_hl (own_per HA)) + ((2 : Int32) * (own_lena HA))))]))
  refine own_retI X2 hx Bd.returns (hb hby d11_29) Bd.notSynchronized (by decide) (by decide) ?_
  rw [e2]
  exact ⟨rfl, N2, rfl⟩
theorem own_ef_st2 (m : MethodId) (oa : Addr) : entryFrame m #[(.ref oa), (.int 2)] 4 = mkF m 0 #[rv oa, iv 2, uS, uS] [] := by first | (simp [entryFrame, mkF, argsToLocals, Value.category]; done) | rfl
def own_Q_st2 (Z : State) (oa : Addr) (oz : Addr) (kz : ClassId) (NN : Int32) (HA : Int64) (HB : Int64) (RR : List Value) (h0 : Heap) (n0 : Nat) (v : Option Value) (h : Heap) (L : List Loc) : Prop := v = some (.int (own_stc HA)) ∧ Fr n0 L ∧ h = h0
set_option maxRecDepth 65536 in
set_option maxHeartbeats 40000000 in
theorem own_rm_st2 (l : Launch) (Z : State) (a0 : Array Value) (hw : ∀ d ∈ tables_1, d.before a0 Z = true) (ws : List Jvm.Cond) (oa : Addr) (oz : Addr) (kz : ClassId) (NN : Int32) (HA : Int64) (HB : Int64) (RR : List Value) (h0 : Heap) (n0 : Nat) (Z0 : n0 ≤ h0.size) (E_oa : Exa Z h0 oa own_k0) (F_oa_cells : Fld Z h0 oa own_k0 "cells" "[J" (.ref oz)) (V_oz : Arv Z h0 oz kz .long NN ((.long HA) :: (.long HB) :: RR) (.long 0)) (hN : (1 : Int32) < NN) :
    MetFree l own_y4 (head1 (Jvm.Cond.code own_y4 prog_4_method_13_code 4 (some .int) :: ws) ({ frames := 2, cells := 0, slots := 0, locals := 24 } : Room)) (fun a U => a = #[(.ref oa), (.int 2)] ∧ Z.Warmed39 U.vm ∧ U.heap = h0) (fun _ _ _ _ _ => True) (fun _ U o U' => ∃ v L, o = .returned v ∧ own_Q_st2 Z oa oz kz NN HA HB RR h0 n0 v U'.heap L ∧ FrameEnd U o U' L ({ frames := 2, cells := 0, slots := 0, locals := 24 } : Room).cells ({ frames := 2, cells := 0, slots := 0, locals := 24 } : Room).slots) := by
  refine MetFree.of_bodySF (plainFor_of_name own_pn0) hisR ?_
  intro p e s m args below meth c s₁ Bd hml0 hP hK
  obtain ⟨rfl, hZ, hh⟩ := hP
  have hx := Bd.exec
  have hby := Bd.bytes
  have hml : c.maxLocals = 4 := hml0
  have hown : s.vm.findClass own_k0 = some m.cls := findClass_of_methodNamed Bd.named
  have hnm := (name_of_methodNamed Bd.named Bd.method).1
  have X0 : Stand p l e ({ frames := 2, cells := 0, slots := 0, locals := 24 } : Room) s m #[(.ref oa), (.int 2)] below meth c s₁ [] 0 0 := Stand.of_body Bd
  have e0 : s₁.heap = h0 := by rw [← hh, Bd.state]; rfl
  have N0 := Fr.nil n0
  show own_Fin p e below s (own_Q_st2 Z oa oz kz NN HA HB RR h0 n0) ({ frames := 2, cells := 0, slots := 0, locals := 24 } : Room).cells ({ frames := 2, cells := 0, slots := 0, locals := 24 } : Room).slots (s₁.setTop (entryFrame m #[(.ref oa), (.int 2)] 4))
  refine own_Fin.go (fun t k => castTop (own_ef_st2 m oa) k) ?_
  refine own_Fin.go (fun t k => XS.aloadN X0.here hx rfl (hb hby d11_0) rfl rfl k) ?_
  refine own_pC X0 hx hZ hown (own_W hw 62 rfl) (own_W hw 63 rfl) (own_W hw 48 rfl) rfl (own_W hw 64 rfl) (own_W hw 65 rfl) (own_W hw 17 rfl) (by decide) (own_rm_hlo l Z a0 hw [] oa oz kz NN HA HB RR h0 n0 Z0 E_oa F_oa_cells V_oz (by assumption)) 0 (by decide) (by decide) e0 E_oa rfl (by rw [hml]; rfl) [] (lenOf own_pd0 rfl) rfl (Nat.le_of_eq rfl) (hb hby d11_1) rfl (by decide) (by decide) ?_
  rintro T1 Lc1 _ X1 ⟨rfl, N1q, e1⟩
  have N1 := Fr.app N0 N1q
  refine own_Fin.go (fun t k => XS.istoreN X1.here hx rfl (hb hby d11_4) rfl (l' := #[rv oa, iv 2, .val (.int (own_hl (own_per HA))), uS]) rfl (XS.iconst X1.here hx rfl (hb hby d11_5) k)) ?_
  show own_Fin _ _ _ _ _ _ _ (T1.setTop (mkF m 6 #[rv oa, iv 2, .val (.int (own_hl (own_per HA))), uS] [(.int 0)]))
  refine own_Fin.go (fun t k => XS.istoreN X1.here hx rfl (hb hby d11_6) rfl (l' := #[rv oa, iv 2, .val (.int (own_hl (own_per HA))), iv 0]) rfl (XS.iloadN X1.here hx rfl (hb hby d11_7) rfl (XS.iloadN X1.here hx rfl (hb hby d11_8) rfl (XS.icmpNo X1.here hx rfl (hb hby d11_9) rfl (by decide) k)))) ?_
  refine own_Fin.go (fun t k => XS.iloadN X1.here hx rfl (hb hby d11_12) rfl k) ?_
  show own_Fin _ _ _ _ _ _ _ (T1.setTop (mkF m 13 #[rv oa, iv 2, .val (.int (own_hl (own_per HA))), iv 0] [(.int (own_hl (own_per HA)))]))
  refine own_Fin.go (fun t k => XS.iconst X1.here hx rfl (hb hby d11_13) (XS.aloadN X1.here hx rfl (hb hby d11_14) rfl rfl (XS.iloadN X1.here hx rfl (hb hby d11_15) rfl k))) ?_
  refine own_pC X1 hx hZ hown (own_W hw 70 rfl) (own_W hw 71 rfl) (own_W hw 48 rfl) rfl (own_W hw 72 rfl) (own_W hw 73 rfl) (own_W hw 17 rfl) (by decide) (own_rm_len0 l Z a0 hw [] oa oz kz NN HA HB RR h0 n0 Z0 F_oa_cells V_oz (by assumption)) 2 (by decide) (by decide) e1 E_oa rfl (by rw [hml]; rfl) [(.int 0)] (lenOf own_pd1 rfl) rfl (Nat.le_of_eq rfl) (hb hby d11_16) rfl (by decide) (by decide) ?_
  rintro T2 Lc2 _ X2 ⟨rfl, N2q, e2⟩
  have N2 := Fr.app N1 N2q
  refine own_Fin.go (fun t k => XS.imul X2.here hx rfl (hb hby d11_19) rfl k) ?_
  show own_Fin _ _ _ _ _ _ _ (T2.setTop (mkF m 20 #[rv oa, iv 2, .val (.int (own_hl (own_per HA))), iv 0] [(.int ((2 : Int32) * (own_lena HA))), (.int (own_hl (own_per HA)))]))
  refine own_Fin.go (fun t k => XS.iadd X2.here hx rfl (hb hby d11_20) rfl (XS.istoreN X2.here hx rfl (hb hby d11_21) rfl (l' := #[rv oa, iv 2, .val (.int ((own_hl (own_per HA)) + ((2 : Int32) * (own_lena HA)))), iv 0]) rfl (XS.iinc X2.here hx rfl (hb hby d11_22) rfl (l' := #[rv oa, iv 2, .val (.int ((own_hl (own_per HA)) + ((2 : Int32) * (own_lena HA)))), .val (.int ((0 : Int32) + (1 : Int32)))]) rfl k))) ?_
  show own_Fin _ _ _ _ _ _ _ (T2.setTop (mkF m 25 #[rv oa, iv 2, .val (.int ((own_hl (own_per HA)) + ((2 : Int32) * (own_lena HA)))), .val (.int ((0 : Int32) + (1 : Int32)))] []))
  rw [show ((0 : Int32) + (1 : Int32)) = (1 : Int32) from by decide +kernel]
  refine own_Fin.go (fun t k => XS.goto X2.here hx rfl (pc0 := 25) (pc' := 7) rfl (hb hby d11_25) (by decide) (by decide) (XS.iloadN X2.here hx rfl (hb hby d11_7) rfl (XS.iloadN X2.here hx rfl (hb hby d11_8) rfl (XS.icmpNo X2.here hx rfl (hb hby d11_9) rfl (by decide) k)))) ?_
  refine own_Fin.go (fun t k => XS.iloadN X2.here hx rfl (hb hby d11_12) rfl k) ?_
  show own_Fin _ _ _ _ _ _ _ (T2.setTop (mkF m 13 #[rv oa, iv 2, .val (.int ((own_hl (own_per HA)) + ((2 : Int32) * (own_lena HA)))), iv 1] [(.int ((own_hl (own_per HA)) + ((2 : Int32) * (own_lena HA))))]))
  refine own_Fin.go (fun t k => XS.iconst X2.here hx rfl (hb hby d11_13) (XS.aloadN X2.here hx rfl (hb hby d11_14) rfl rfl (XS.iloadN X2.here hx rfl (hb hby d11_15) rfl k))) ?_
  refine own_pC X2 hx hZ hown (own_W hw 70 rfl) (own_W hw 71 rfl) (own_W hw 48 rfl) rfl (own_W hw 72 rfl) (own_W hw 73 rfl) (own_W hw 17 rfl) (by decide) (own_rm_len1 l Z a0 hw [] oa oz kz NN HA HB RR h0 n0 Z0 F_oa_cells V_oz (by assumption)) 2 (by decide) (by decide) e2 E_oa rfl (by rw [hml]; rfl) [(.int 1)] (lenOf own_pd1 rfl) rfl (Nat.le_of_eq rfl) (hb hby d11_16) rfl (by decide) (by decide) ?_
  rintro T3 Lc3 _ X3 ⟨rfl, N3q, e3⟩
  have N3 := Fr.app N2 N3q
  refine own_Fin.go (fun t k => XS.imul X3.here hx rfl (hb hby d11_19) rfl k) ?_
  show own_Fin _ _ _ _ _ _ _ (T3.setTop (mkF m 20 #[rv oa, iv 2, .val (.int ((own_hl (own_per HA)) + ((2 : Int32) * (own_lena HA)))), iv 1] [(.int ((2 : Int32) * (own_lenb HA))), (.int ((own_hl (own_per HA)) + ((2 : Int32) * (own_lena HA))))]))
  refine own_Fin.go (fun t k => XS.iadd X3.here hx rfl (hb hby d11_20) rfl (XS.istoreN X3.here hx rfl (hb hby d11_21) rfl (l' := #[rv oa, iv 2, .val (.int (((own_hl (own_per HA)) + ((2 : Int32) * (own_lena HA))) + ((2 : Int32) * (own_lenb HA)))), iv 1]) rfl (XS.iinc X3.here hx rfl (hb hby d11_22) rfl (l' := #[rv oa, iv 2, .val (.int (((own_hl (own_per HA)) + ((2 : Int32) * (own_lena HA))) + ((2 : Int32) * (own_lenb HA)))), .val (.int ((1 : Int32) + (1 : Int32)))]) rfl k))) ?_
  show own_Fin _ _ _ _ _ _ _ (T3.setTop (mkF m 25 #[rv oa, iv 2, .val (.int (((own_hl (own_per HA)) + ((2 : Int32) * (own_lena HA))) + ((2 : Int32) * (own_lenb HA)))), .val (.int ((1 : Int32) + (1 : Int32)))] []))
  rw [show ((1 : Int32) + (1 : Int32)) = (2 : Int32) from by decide +kernel]
  refine own_Fin.go (fun t k => XS.goto X3.here hx rfl (pc0 := 25) (pc' := 7) rfl (hb hby d11_25) (by decide) (by decide) (XS.iloadN X3.here hx rfl (hb hby d11_7) rfl (XS.iloadN X3.here hx rfl (hb hby d11_8) rfl (XS.icmpYes X3.here hx rfl (pc0 := 9) (pc' := 28) rfl (hb hby d11_9) rfl (by decide) (by decide) (by decide) k)))) ?_
  refine own_Fin.go (fun t k => XS.iloadN X3.here hx rfl (hb hby d11_28) rfl k) ?_
  show own_Fin _ _ _ _ _ _ _ (T3.setTop (mkF m 29 #[rv oa, iv 2, .val (.int (((own_hl (own_per HA)) + ((2 : Int32) * (own_lena HA))) + ((2 : Int32) * (own_lenb HA)))), iv 2] [(.int (((own_hl (own_per HA)) + ((2 : Int32) * (own_lena HA))) + ((2 : Int32) * (own_lenb HA))))]))
  refine own_retI X3 hx Bd.returns (hb hby d11_29) Bd.notSynchronized (by decide) (by decide) ?_
  rw [e3]
  exact ⟨rfl, N3, rfl⟩
theorem own_ef_st3 (m : MethodId) (oa : Addr) : entryFrame m #[(.ref oa), (.int 3)] 4 = mkF m 0 #[rv oa, iv 3, uS, uS] [] := by first | (simp [entryFrame, mkF, argsToLocals, Value.category]; done) | rfl
def own_Q_st3 (Z : State) (oa : Addr) (oz : Addr) (kz : ClassId) (NN : Int32) (HA : Int64) (HB : Int64) (RR : List Value) (h0 : Heap) (n0 : Nat) (v : Option Value) (h : Heap) (L : List Loc) : Prop := v = some (.int (own_std HA HB)) ∧ Fr n0 L ∧ h = h0
set_option maxRecDepth 65536 in
set_option maxHeartbeats 40000000 in
theorem own_rm_st3 (l : Launch) (Z : State) (a0 : Array Value) (hw : ∀ d ∈ tables_1, d.before a0 Z = true) (ws : List Jvm.Cond) (oa : Addr) (oz : Addr) (kz : ClassId) (NN : Int32) (HA : Int64) (HB : Int64) (RR : List Value) (h0 : Heap) (n0 : Nat) (Z0 : n0 ≤ h0.size) (E_oa : Exa Z h0 oa own_k0) (F_oa_cells : Fld Z h0 oa own_k0 "cells" "[J" (.ref oz)) (V_oz : Arv Z h0 oz kz .long NN ((.long HA) :: (.long HB) :: RR) (.long 0)) (hN : (1 : Int32) < NN) :
    MetFree l own_y4 (head1 (Jvm.Cond.code own_y4 prog_4_method_13_code 4 (some .int) :: ws) ({ frames := 2, cells := 0, slots := 0, locals := 24 } : Room)) (fun a U => a = #[(.ref oa), (.int 3)] ∧ Z.Warmed39 U.vm ∧ U.heap = h0) (fun _ _ _ _ _ => True) (fun _ U o U' => ∃ v L, o = .returned v ∧ own_Q_st3 Z oa oz kz NN HA HB RR h0 n0 v U'.heap L ∧ FrameEnd U o U' L ({ frames := 2, cells := 0, slots := 0, locals := 24 } : Room).cells ({ frames := 2, cells := 0, slots := 0, locals := 24 } : Room).slots) := by
  refine MetFree.of_bodySF (plainFor_of_name own_pn0) hisR ?_
  intro p e s m args below meth c s₁ Bd hml0 hP hK
  obtain ⟨rfl, hZ, hh⟩ := hP
  have hx := Bd.exec
  have hby := Bd.bytes
  have hml : c.maxLocals = 4 := hml0
  have hown : s.vm.findClass own_k0 = some m.cls := findClass_of_methodNamed Bd.named
  have hnm := (name_of_methodNamed Bd.named Bd.method).1
  have X0 : Stand p l e ({ frames := 2, cells := 0, slots := 0, locals := 24 } : Room) s m #[(.ref oa), (.int 3)] below meth c s₁ [] 0 0 := Stand.of_body Bd
  have e0 : s₁.heap = h0 := by rw [← hh, Bd.state]; rfl
  have N0 := Fr.nil n0
  show own_Fin p e below s (own_Q_st3 Z oa oz kz NN HA HB RR h0 n0) ({ frames := 2, cells := 0, slots := 0, locals := 24 } : Room).cells ({ frames := 2, cells := 0, slots := 0, locals := 24 } : Room).slots (s₁.setTop (entryFrame m #[(.ref oa), (.int 3)] 4))
  refine own_Fin.go (fun t k => castTop (own_ef_st3 m oa) k) ?_
  refine own_Fin.go (fun t k => XS.aloadN X0.here hx rfl (hb hby d11_0) rfl rfl k) ?_
  refine own_pC X0 hx hZ hown (own_W hw 62 rfl) (own_W hw 63 rfl) (own_W hw 48 rfl) rfl (own_W hw 64 rfl) (own_W hw 65 rfl) (own_W hw 17 rfl) (by decide) (own_rm_hlo l Z a0 hw [] oa oz kz NN HA HB RR h0 n0 Z0 E_oa F_oa_cells V_oz (by assumption)) 0 (by decide) (by decide) e0 E_oa rfl (by rw [hml]; rfl) [] (lenOf own_pd0 rfl) rfl (Nat.le_of_eq rfl) (hb hby d11_1) rfl (by decide) (by decide) ?_
  rintro T1 Lc1 _ X1 ⟨rfl, N1q, e1⟩
  have N1 := Fr.app N0 N1q
  refine own_Fin.go (fun t k => XS.istoreN X1.here hx rfl (hb hby d11_4) rfl (l' := #[rv oa, iv 3, .val (.int (own_hl (own_per HA))), uS]) rfl (XS.iconst X1.here hx rfl (hb hby d11_5) k)) ?_
  show own_Fin _ _ _ _ _ _ _ (T1.setTop (mkF m 6 #[rv oa, iv 3, .val (.int (own_hl (own_per HA))), uS] [(.int 0)]))
  refine own_Fin.go (fun t k => XS.istoreN X1.here hx rfl (hb hby d11_6) rfl (l' := #[rv oa, iv 3, .val (.int (own_hl (own_per HA))), iv 0]) rfl (XS.iloadN X1.here hx rfl (hb hby d11_7) rfl (XS.iloadN X1.here hx rfl (hb hby d11_8) rfl (XS.icmpNo X1.here hx rfl (hb hby d11_9) rfl (by decide) k)))) ?_
  refine own_Fin.go (fun t k => XS.iloadN X1.here hx rfl (hb hby d11_12) rfl k) ?_
  show own_Fin _ _ _ _ _ _ _ (T1.setTop (mkF m 13 #[rv oa, iv 3, .val (.int (own_hl (own_per HA))), iv 0] [(.int (own_hl (own_per HA)))]))
  refine own_Fin.go (fun t k => XS.iconst X1.here hx rfl (hb hby d11_13) (XS.aloadN X1.here hx rfl (hb hby d11_14) rfl rfl (XS.iloadN X1.here hx rfl (hb hby d11_15) rfl k))) ?_
  refine own_pC X1 hx hZ hown (own_W hw 70 rfl) (own_W hw 71 rfl) (own_W hw 48 rfl) rfl (own_W hw 72 rfl) (own_W hw 73 rfl) (own_W hw 17 rfl) (by decide) (own_rm_len0 l Z a0 hw [] oa oz kz NN HA HB RR h0 n0 Z0 F_oa_cells V_oz (by assumption)) 2 (by decide) (by decide) e1 E_oa rfl (by rw [hml]; rfl) [(.int 0)] (lenOf own_pd1 rfl) rfl (Nat.le_of_eq rfl) (hb hby d11_16) rfl (by decide) (by decide) ?_
  rintro T2 Lc2 _ X2 ⟨rfl, N2q, e2⟩
  have N2 := Fr.app N1 N2q
  refine own_Fin.go (fun t k => XS.imul X2.here hx rfl (hb hby d11_19) rfl k) ?_
  show own_Fin _ _ _ _ _ _ _ (T2.setTop (mkF m 20 #[rv oa, iv 3, .val (.int (own_hl (own_per HA))), iv 0] [(.int ((2 : Int32) * (own_lena HA))), (.int (own_hl (own_per HA)))]))
  refine own_Fin.go (fun t k => XS.iadd X2.here hx rfl (hb hby d11_20) rfl (XS.istoreN X2.here hx rfl (hb hby d11_21) rfl (l' := #[rv oa, iv 3, .val (.int ((own_hl (own_per HA)) + ((2 : Int32) * (own_lena HA)))), iv 0]) rfl (XS.iinc X2.here hx rfl (hb hby d11_22) rfl (l' := #[rv oa, iv 3, .val (.int ((own_hl (own_per HA)) + ((2 : Int32) * (own_lena HA)))), .val (.int ((0 : Int32) + (1 : Int32)))]) rfl k))) ?_
  show own_Fin _ _ _ _ _ _ _ (T2.setTop (mkF m 25 #[rv oa, iv 3, .val (.int ((own_hl (own_per HA)) + ((2 : Int32) * (own_lena HA)))), .val (.int ((0 : Int32) + (1 : Int32)))] []))
  rw [show ((0 : Int32) + (1 : Int32)) = (1 : Int32) from by decide +kernel]
  refine own_Fin.go (fun t k => XS.goto X2.here hx rfl (pc0 := 25) (pc' := 7) rfl (hb hby d11_25) (by decide) (by decide) (XS.iloadN X2.here hx rfl (hb hby d11_7) rfl (XS.iloadN X2.here hx rfl (hb hby d11_8) rfl (XS.icmpNo X2.here hx rfl (hb hby d11_9) rfl (by decide) k)))) ?_
  refine own_Fin.go (fun t k => XS.iloadN X2.here hx rfl (hb hby d11_12) rfl k) ?_
  show own_Fin _ _ _ _ _ _ _ (T2.setTop (mkF m 13 #[rv oa, iv 3, .val (.int ((own_hl (own_per HA)) + ((2 : Int32) * (own_lena HA)))), iv 1] [(.int ((own_hl (own_per HA)) + ((2 : Int32) * (own_lena HA))))]))
  refine own_Fin.go (fun t k => XS.iconst X2.here hx rfl (hb hby d11_13) (XS.aloadN X2.here hx rfl (hb hby d11_14) rfl rfl (XS.iloadN X2.here hx rfl (hb hby d11_15) rfl k))) ?_
  refine own_pC X2 hx hZ hown (own_W hw 70 rfl) (own_W hw 71 rfl) (own_W hw 48 rfl) rfl (own_W hw 72 rfl) (own_W hw 73 rfl) (own_W hw 17 rfl) (by decide) (own_rm_len1 l Z a0 hw [] oa oz kz NN HA HB RR h0 n0 Z0 F_oa_cells V_oz (by assumption)) 2 (by decide) (by decide) e2 E_oa rfl (by rw [hml]; rfl) [(.int 1)] (lenOf own_pd1 rfl) rfl (Nat.le_of_eq rfl) (hb hby d11_16) rfl (by decide) (by decide) ?_
  rintro T3 Lc3 _ X3 ⟨rfl, N3q, e3⟩
  have N3 := Fr.app N2 N3q
  refine own_Fin.go (fun t k => XS.imul X3.here hx rfl (hb hby d11_19) rfl k) ?_
  show own_Fin _ _ _ _ _ _ _ (T3.setTop (mkF m 20 #[rv oa, iv 3, .val (.int ((own_hl (own_per HA)) + ((2 : Int32) * (own_lena HA)))), iv 1] [(.int ((2 : Int32) * (own_lenb HA))), (.int ((own_hl (own_per HA)) + ((2 : Int32) * (own_lena HA))))]))
  refine own_Fin.go (fun t k => XS.iadd X3.here hx rfl (hb hby d11_20) rfl (XS.istoreN X3.here hx rfl (hb hby d11_21) rfl (l' := #[rv oa, iv 3, .val (.int (((own_hl (own_per HA)) + ((2 : Int32) * (own_lena HA))) + ((2 : Int32) * (own_lenb HA)))), iv 1]) rfl (XS.iinc X3.here hx rfl (hb hby d11_22) rfl (l' := #[rv oa, iv 3, .val (.int (((own_hl (own_per HA)) + ((2 : Int32) * (own_lena HA))) + ((2 : Int32) * (own_lenb HA)))), .val (.int ((1 : Int32) + (1 : Int32)))]) rfl k))) ?_
  show own_Fin _ _ _ _ _ _ _ (T3.setTop (mkF m 25 #[rv oa, iv 3, .val (.int (((own_hl (own_per HA)) + ((2 : Int32) * (own_lena HA))) + ((2 : Int32) * (own_lenb HA)))), .val (.int ((1 : Int32) + (1 : Int32)))] []))
  rw [show ((1 : Int32) + (1 : Int32)) = (2 : Int32) from by decide +kernel]
  refine own_Fin.go (fun t k => XS.goto X3.here hx rfl (pc0 := 25) (pc' := 7) rfl (hb hby d11_25) (by decide) (by decide) (XS.iloadN X3.here hx rfl (hb hby d11_7) rfl (XS.iloadN X3.here hx rfl (hb hby d11_8) rfl (XS.icmpNo X3.here hx rfl (hb hby d11_9) rfl (by decide) k)))) ?_
  refine own_Fin.go (fun t k => XS.iloadN X3.here hx rfl (hb hby d11_12) rfl k) ?_
  show own_Fin _ _ _ _ _ _ _ (T3.setTop (mkF m 13 #[rv oa, iv 3, .val (.int (((own_hl (own_per HA)) + ((2 : Int32) * (own_lena HA))) + ((2 : Int32) * (own_lenb HA)))), iv 2] [(.int (((own_hl (own_per HA)) + ((2 : Int32) * (own_lena HA))) + ((2 : Int32) * (own_lenb HA))))]))
  refine own_Fin.go (fun t k => XS.iconst X3.here hx rfl (hb hby d11_13) (XS.aloadN X3.here hx rfl (hb hby d11_14) rfl rfl (XS.iloadN X3.here hx rfl (hb hby d11_15) rfl k))) ?_
  refine own_pC X3 hx hZ hown (own_W hw 70 rfl) (own_W hw 71 rfl) (own_W hw 48 rfl) rfl (own_W hw 72 rfl) (own_W hw 73 rfl) (own_W hw 17 rfl) (by decide) (own_rm_len2 l Z a0 hw [] oa oz kz NN HA HB RR h0 n0 Z0 F_oa_cells V_oz (by assumption)) 2 (by decide) (by decide) e3 E_oa rfl (by rw [hml]; rfl) [(.int 2)] (lenOf own_pd1 rfl) rfl (Nat.le_of_eq rfl) (hb hby d11_16) rfl (by decide) (by decide) ?_
  rintro T4 Lc4 _ X4 ⟨rfl, N4q, e4⟩
  have N4 := Fr.app N3 N4q
  refine own_Fin.go (fun t k => XS.imul X4.here hx rfl (hb hby d11_19) rfl k) ?_
  show own_Fin _ _ _ _ _ _ _ (T4.setTop (mkF m 20 #[rv oa, iv 3, .val (.int (((own_hl (own_per HA)) + ((2 : Int32) * (own_lena HA))) + ((2 : Int32) * (own_lenb HA)))), iv 2] [(.int ((2 : Int32) * (own_lena HB))), (.int (((own_hl (own_per HA)) + ((2 : Int32) * (own_lena HA))) + ((2 : Int32) * (own_lenb HA))))]))
  refine own_Fin.go (fun t k => XS.iadd X4.here hx rfl (hb hby d11_20) rfl (XS.istoreN X4.here hx rfl (hb hby d11_21) rfl (l' := #[rv oa, iv 3, .val (.int ((((own_hl (own_per HA)) + ((2 : Int32) * (own_lena HA))) + ((2 : Int32) * (own_lenb HA))) + ((2 : Int32) * (own_lena HB)))), iv 2]) rfl (XS.iinc X4.here hx rfl (hb hby d11_22) rfl (l' := #[rv oa, iv 3, .val (.int ((((own_hl (own_per HA)) + ((2 : Int32) * (own_lena HA))) + ((2 : Int32) * (own_lenb HA))) + ((2 : Int32) * (own_lena HB)))), .val (.int ((2 : Int32) + (1 : Int32)))]) rfl k))) ?_
  show own_Fin _ _ _ _ _ _ _ (T4.setTop (mkF m 25 #[rv oa, iv 3, .val (.int ((((own_hl (own_per HA)) + ((2 : Int32) * (own_lena HA))) + ((2 : Int32) * (own_lenb HA))) + ((2 : Int32) * (own_lena HB)))), .val (.int ((2 : Int32) + (1 : Int32)))] []))
  rw [show ((2 : Int32) + (1 : Int32)) = (3 : Int32) from by decide +kernel]
  refine own_Fin.go (fun t k => XS.goto X4.here hx rfl (pc0 := 25) (pc' := 7) rfl (hb hby d11_25) (by decide) (by decide) (XS.iloadN X4.here hx rfl (hb hby d11_7) rfl (XS.iloadN X4.here hx rfl (hb hby d11_8) rfl (XS.icmpYes X4.here hx rfl (pc0 := 9) (pc' := 28) rfl (hb hby d11_9) rfl (by decide) (by decide) (by decide) k)))) ?_
  refine own_Fin.go (fun t k => XS.iloadN X4.here hx rfl (hb hby d11_28) rfl k) ?_
  show own_Fin _ _ _ _ _ _ _ (T4.setTop (mkF m 29 #[rv oa, iv 3, .val (.int ((((own_hl (own_per HA)) + ((2 : Int32) * (own_lena HA))) + ((2 : Int32) * (own_lenb HA))) + ((2 : Int32) * (own_lena HB)))), iv 3] [(.int ((((own_hl (own_per HA)) + ((2 : Int32) * (own_lena HA))) + ((2 : Int32) * (own_lenb HA))) + ((2 : Int32) * (own_lena HB))))]))
  refine own_retI X4 hx Bd.returns (hb hby d11_29) Bd.notSynchronized (by decide) (by decide) ?_
  rw [e4]
  exact ⟨rfl, N4, rfl⟩
theorem d13_0 : decode prog_4_method_14_code 0 = .ok (.aload_n 0, 1) := by decide +kernel
theorem d13_1 : decode prog_4_method_14_code 1 = .ok (.aload_n 0, 1) := by decide +kernel
theorem d13_2 : decode prog_4_method_14_code 2 = .ok (.invokevirtual 131, 3) := by decide +kernel
theorem d13_5 : decode prog_4_method_14_code 5 = .ok (.invokevirtual 77, 3) := by decide +kernel
theorem d13_8 : decode prog_4_method_14_code 8 = .ok (.ireturn, 1) := by decide +kernel
theorem own_ef_used (m : MethodId) (oa : Addr) : entryFrame m #[(.ref oa)] 1 = mkF m 0 #[rv oa] [] := by first | (simp [entryFrame, mkF, argsToLocals, Value.category]; done) | rfl
def own_Q_used (Z : State) (oa : Addr) (oz : Addr) (kz : ClassId) (NN : Int32) (HA : Int64) (HB : Int64) (RR : List Value) (h0 : Heap) (n0 : Nat) (v : Option Value) (h : Heap) (L : List Loc) : Prop := v = some (.int (own_std HA HB)) ∧ Fr n0 L ∧ h = h0
set_option maxRecDepth 65536 in
set_option maxHeartbeats 40000000 in
theorem own_rm_used (l : Launch) (Z : State) (a0 : Array Value) (hw : ∀ d ∈ tables_1, d.before a0 Z = true) (ws : List Jvm.Cond) (oa : Addr) (oz : Addr) (kz : ClassId) (NN : Int32) (HA : Int64) (HB : Int64) (RR : List Value) (h0 : Heap) (n0 : Nat) (Z0 : n0 ≤ h0.size) (E_oa : Exa Z h0 oa own_k0) (F_oa_cells : Fld Z h0 oa own_k0 "cells" "[J" (.ref oz)) (V_oz : Arv Z h0 oz kz .long NN ((.long HA) :: (.long HB) :: RR) (.long 0)) (hN : (1 : Int32) < NN) (hper : own_per HA = 3) :
    MetFree l own_y5 (head1 (Jvm.Cond.code own_y5 prog_4_method_14_code 1 (some .int) :: ws) ({ frames := 3, cells := 0, slots := 0, locals := 39 } : Room)) (fun a U => a = #[(.ref oa)] ∧ Z.Warmed39 U.vm ∧ U.heap = h0) (fun _ _ _ _ _ => True) (fun _ U o U' => ∃ v L, o = .returned v ∧ own_Q_used Z oa oz kz NN HA HB RR h0 n0 v U'.heap L ∧ FrameEnd U o U' L ({ frames := 3, cells := 0, slots := 0, locals := 39 } : Room).cells ({ frames := 3, cells := 0, slots := 0, locals := 39 } : Room).slots) := by
  refine MetFree.of_bodySF (plainFor_of_name own_pn0) hisR ?_
  intro p e s m args below meth c s₁ Bd hml0 hP hK
  obtain ⟨rfl, hZ, hh⟩ := hP
  have hx := Bd.exec
  have hby := Bd.bytes
  have hml : c.maxLocals = 1 := hml0
  have hown : s.vm.findClass own_k0 = some m.cls := findClass_of_methodNamed Bd.named
  have hnm := (name_of_methodNamed Bd.named Bd.method).1
  have X0 : Stand p l e ({ frames := 3, cells := 0, slots := 0, locals := 39 } : Room) s m #[(.ref oa)] below meth c s₁ [] 0 0 := Stand.of_body Bd
  have e0 : s₁.heap = h0 := by rw [← hh, Bd.state]; rfl
  have N0 := Fr.nil n0
  show own_Fin p e below s (own_Q_used Z oa oz kz NN HA HB RR h0 n0) ({ frames := 3, cells := 0, slots := 0, locals := 39 } : Room).cells ({ frames := 3, cells := 0, slots := 0, locals := 39 } : Room).slots (s₁.setTop (entryFrame m #[(.ref oa)] 1))
  refine own_Fin.go (fun t k => castTop (own_ef_used m oa) k) ?_
  refine own_Fin.go (fun t k => XS.aloadN X0.here hx rfl (hb hby d13_0) rfl rfl (XS.aloadN X0.here hx rfl (hb hby d13_1) rfl rfl k)) ?_
  refine own_pC X0 hx hZ hown (own_W hw 66 rfl) (own_W hw 67 rfl) (own_W hw 48 rfl) rfl (own_W hw 68 rfl) (own_W hw 69 rfl) (own_W hw 17 rfl) (by decide) (own_rm_per l Z a0 hw [] oa oz kz NN HA HB RR h0 n0 Z0 F_oa_cells V_oz (by assumption)) 1 (by decide) (by decide) e0 E_oa rfl (by rw [hml]; rfl) [] (lenOf own_pd0 rfl) rfl (Nat.le_of_eq rfl) (hb hby d13_2) rfl (by decide) (by decide) ?_
  rintro T1 Lc1 _ X1 ⟨rfl, N1q, e1⟩
  have N1 := Fr.app N0 N1q
  show own_Fin _ _ _ _ _ _ _ (T1.setTop (mkF m 5 #[rv oa] [(.int (own_per HA)), (.ref oa)]))
  rw [hper]
  refine own_pC X1 hx hZ hown (own_W hw 58 rfl) (own_W hw 59 rfl) (own_W hw 48 rfl) rfl (own_W hw 60 rfl) (own_W hw 61 rfl) (own_W hw 17 rfl) (by decide) (own_rm_st3 l Z a0 hw [] oa oz kz NN HA HB RR h0 n0 Z0 E_oa F_oa_cells V_oz (by assumption)) 0 (by decide) (by decide) e1 E_oa rfl (by rw [hml]; rfl) [(.int 3)] (lenOf own_pd1 rfl) rfl (Nat.le_of_eq rfl) (hb hby d13_5) rfl (by decide) (by decide) ?_
  rintro T2 Lc2 _ X2 ⟨rfl, N2q, e2⟩
  have N2 := Fr.app N1 N2q
  show own_Fin _ _ _ _ _ _ _ (T2.setTop (mkF m 8 #[rv oa] [(.int (own_std HA HB))]))
  refine own_retI X2 hx Bd.returns (hb hby d13_8) Bd.notSynchronized (by decide) (by decide) ?_
  rw [e2]
  exact ⟨rfl, N2, rfl⟩
theorem d6_0 : decode prog_4_method_12_code 0 = .ok (.iconst 0, 1) := by decide +kernel
theorem d6_1 : decode prog_4_method_12_code 1 = .ok (.istore 5, 2) := by decide +kernel
theorem d6_3 : decode prog_4_method_12_code 3 = .ok (.iload_n 2, 1) := by decide +kernel
theorem d6_4 : decode prog_4_method_12_code 4 = .ok (.istore 6, 2) := by decide +kernel
theorem d6_6 : decode prog_4_method_12_code 6 = .ok (.iload 5, 2) := by decide +kernel
theorem d6_8 : decode prog_4_method_12_code 8 = .ok (.iload 6, 2) := by decide +kernel
theorem d6_10 : decode prog_4_method_12_code 10 = .ok (.if_icmp .ge 44, 3) := by decide +kernel
theorem d6_54 : decode prog_4_method_12_code 54 = .ok (.iload_n 1, 1) := by decide +kernel
theorem d6_55 : decode prog_4_method_12_code 55 = .ok (.iconst 2, 1) := by decide +kernel
theorem d6_56 : decode prog_4_method_12_code 56 = .ok (.iload 5, 2) := by decide +kernel
theorem d6_58 : decode prog_4_method_12_code 58 = .ok (.imul, 1) := by decide +kernel
theorem d6_59 : decode prog_4_method_12_code 59 = .ok (.iadd, 1) := by decide +kernel
theorem d6_60 : decode prog_4_method_12_code 60 = .ok (.ireturn, 1) := by decide +kernel
theorem own_ef_lb0 (m : MethodId) (oa : Addr) (va : Int32) (vb : Int64) : entryFrame m #[(.ref oa), (.int va), (.int 0), (.long vb)] 8 = mkF m 0 #[rv oa, iv va, iv 0, jv vb, sS, uS, uS, uS] [] := by first | (simp [entryFrame, mkF, argsToLocals, Value.category]; done) | rfl
def own_Q_lb0 (Z : State) (oa : Addr) (va : Int32) (vb : Int64) (h0 : Heap) (n0 : Nat) (v : Option Value) (h : Heap) (L : List Loc) : Prop := v = some (.int (own_adz va)) ∧ Fr n0 L ∧ h = h0
set_option maxRecDepth 65536 in
set_option maxHeartbeats 40000000 in
theorem own_rm_lb0 (l : Launch) (Z : State) (a0 : Array Value) (hw : ∀ d ∈ tables_1, d.before a0 Z = true) (ws : List Jvm.Cond) (oa : Addr) (va : Int32) (vb : Int64) (h0 : Heap) (n0 : Nat) (Z0 : n0 ≤ h0.size) :
    MetFree l own_y6 (head1 (Jvm.Cond.code own_y6 prog_4_method_12_code 8 (some .int) :: ws) ({ frames := 0, cells := 0, slots := 0, locals := 0 } : Room)) (fun a U => a = #[(.ref oa), (.int va), (.int 0), (.long vb)] ∧ Z.Warmed39 U.vm ∧ U.heap = h0) (fun _ _ _ _ _ => True) (fun _ U o U' => ∃ v L, o = .returned v ∧ own_Q_lb0 Z oa va vb h0 n0 v U'.heap L ∧ FrameEnd U o U' L ({ frames := 0, cells := 0, slots := 0, locals := 0 } : Room).cells ({ frames := 0, cells := 0, slots := 0, locals := 0 } : Room).slots) := by
  refine MetFree.of_bodySF (plainFor_of_name own_pn0) hisR ?_
  intro p e s m args below meth c s₁ Bd hml0 hP hK
  obtain ⟨rfl, hZ, hh⟩ := hP
  have hx := Bd.exec
  have hby := Bd.bytes
  have hml : c.maxLocals = 8 := hml0
  have hown : s.vm.findClass own_k0 = some m.cls := findClass_of_methodNamed Bd.named
  have hnm := (name_of_methodNamed Bd.named Bd.method).1
  have X0 : Stand p l e ({ frames := 0, cells := 0, slots := 0, locals := 0 } : Room) s m #[(.ref oa), (.int va), (.int 0), (.long vb)] below meth c s₁ [] 0 0 := Stand.of_body Bd
  have e0 : s₁.heap = h0 := by rw [← hh, Bd.state]; rfl
  have N0 := Fr.nil n0
  show own_Fin p e below s (own_Q_lb0 Z oa va vb h0 n0) ({ frames := 0, cells := 0, slots := 0, locals := 0 } : Room).cells ({ frames := 0, cells := 0, slots := 0, locals := 0 } : Room).slots (s₁.setTop (entryFrame m #[(.ref oa), (.int va), (.int 0), (.long vb)] 8))
  refine own_Fin.go (fun t k => castTop (own_ef_lb0 m oa va vb) k) ?_
  refine own_Fin.go (fun t k => XS.iconst X0.here hx rfl (hb hby d6_0) (XS.istore X0.here hx rfl (hb hby d6_1) rfl (l' := #[rv oa, iv va, iv 0, jv vb, sS, iv 0, uS, uS]) rfl (XS.iloadN X0.here hx rfl (hb hby d6_3) rfl (XS.istore X0.here hx rfl (hb hby d6_4) rfl (l' := #[rv oa, iv va, iv 0, jv vb, sS, iv 0, iv 0, uS]) rfl k)))) ?_
  show own_Fin _ _ _ _ _ _ _ (s₁.setTop (mkF m 6 #[rv oa, iv va, iv 0, jv vb, sS, iv 0, iv 0, uS] []))
  refine own_Fin.go (fun t k => XS.iload X0.here hx rfl (hb hby d6_6) rfl (XS.iload X0.here hx rfl (hb hby d6_8) rfl (XS.icmpYes X0.here hx rfl (pc0 := 10) (pc' := 54) rfl (hb hby d6_10) rfl (by decide) (by decide) (by decide) (XS.iloadN X0.here hx rfl (hb hby d6_54) rfl k)))) ?_
  refine own_Fin.go (fun t k => XS.iconst X0.here hx rfl (hb hby d6_55) k) ?_
  show own_Fin _ _ _ _ _ _ _ (s₁.setTop (mkF m 56 #[rv oa, iv va, iv 0, jv vb, sS, iv 0, iv 0, uS] [(.int 2), (.int va)]))
  refine own_Fin.go (fun t k => XS.iload X0.here hx rfl (hb hby d6_56) rfl (XS.imul X0.here hx rfl (hb hby d6_58) rfl k)) ?_
  show own_Fin _ _ _ _ _ _ _ (s₁.setTop (mkF m 59 #[rv oa, iv va, iv 0, jv vb, sS, iv 0, iv 0, uS] [(.int ((2 : Int32) * (0 : Int32))), (.int va)]))
  rw [show ((2 : Int32) * (0 : Int32)) = (0 : Int32) from by decide +kernel]
  refine own_Fin.go (fun t k => XS.iadd X0.here hx rfl (hb hby d6_59) rfl k) ?_
  show own_Fin _ _ _ _ _ _ _ (s₁.setTop (mkF m 60 #[rv oa, iv va, iv 0, jv vb, sS, iv 0, iv 0, uS] [(.int (va + (0 : Int32)))]))
  refine own_retI X0 hx Bd.returns (hb hby d6_60) Bd.notSynchronized (by decide) (by decide) ?_
  rw [e0]
  exact ⟨rfl, N0, rfl⟩
def own_lb1 (ya b : Int64) : Int32 := if ya < b then 6 else 4
def own_lb2 (ya yb b : Int64) : Int32 := if yb < b then 8 else if ya < b then 6 else 4
def own_lb3 (ya yb yc b : Int64) : Int32 := if yb < b then (if yc < b then 10 else 8) else if ya < b then 6 else 4
theorem d6_13 : decode prog_4_method_12_code 13 = .ok (.iload 5, 2) := by decide +kernel
theorem d6_15 : decode prog_4_method_12_code 15 = .ok (.iload 6, 2) := by decide +kernel
theorem d6_17 : decode prog_4_method_12_code 17 = .ok (.iadd, 1) := by decide +kernel
theorem d6_18 : decode prog_4_method_12_code 18 = .ok (.iconst 1, 1) := by decide +kernel
theorem d6_19 : decode prog_4_method_12_code 19 = .ok (.iushr, 1) := by decide +kernel
theorem d6_20 : decode prog_4_method_12_code 20 = .ok (.istore 7, 2) := by decide +kernel
theorem d6_22 : decode prog_4_method_12_code 22 = .ok (.aload_n 0, 1) := by decide +kernel
theorem d6_23 : decode prog_4_method_12_code 23 = .ok (.getfield 21, 3) := by decide +kernel
theorem d6_26 : decode prog_4_method_12_code 26 = .ok (.iload_n 1, 1) := by decide +kernel
theorem d6_27 : decode prog_4_method_12_code 27 = .ok (.iconst 2, 1) := by decide +kernel
theorem d6_28 : decode prog_4_method_12_code 28 = .ok (.iload 7, 2) := by decide +kernel
theorem d6_30 : decode prog_4_method_12_code 30 = .ok (.imul, 1) := by decide +kernel
theorem d6_31 : decode prog_4_method_12_code 31 = .ok (.iadd, 1) := by decide +kernel
theorem d6_32 : decode prog_4_method_12_code 32 = .ok (.laload, 1) := by decide +kernel
theorem d6_33 : decode prog_4_method_12_code 33 = .ok (.lload_n 3, 1) := by decide +kernel
theorem d6_34 : decode prog_4_method_12_code 34 = .ok (.lcmp, 1) := by decide +kernel
theorem d6_35 : decode prog_4_method_12_code 35 = .ok (.ifCond .ge 12, 3) := by decide +kernel
theorem d6_38 : decode prog_4_method_12_code 38 = .ok (.iload 7, 2) := by decide +kernel
theorem d6_40 : decode prog_4_method_12_code 40 = .ok (.iconst 1, 1) := by decide +kernel
theorem d6_41 : decode prog_4_method_12_code 41 = .ok (.iadd, 1) := by decide +kernel
theorem d6_42 : decode prog_4_method_12_code 42 = .ok (.istore 5, 2) := by decide +kernel
theorem d6_44 : decode prog_4_method_12_code 44 = .ok (.goto 7, 3) := by decide +kernel
theorem d6_47 : decode prog_4_method_12_code 47 = .ok (.iload 7, 2) := by decide +kernel
theorem d6_49 : decode prog_4_method_12_code 49 = .ok (.istore 6, 2) := by decide +kernel
theorem d6_51 : decode prog_4_method_12_code 51 = .ok (.goto (-45), 3) := by decide +kernel
theorem own_ef_lb1 (m : MethodId) (oa : Addr) (vb : Int64) : entryFrame m #[(.ref oa), (.int 4), (.int 1), (.long vb)] 8 = mkF m 0 #[rv oa, iv 4, iv 1, jv vb, sS, uS, uS, uS] [] := by first | (simp [entryFrame, mkF, argsToLocals, Value.category]; done) | rfl
def own_Q_lb1 (Z : State) (oa : Addr) (vb : Int64) (oz : Addr) (kz : ClassId) (NN : Int32) (HA : Int64) (HB : Int64) (yp : Int64) (wp : Int64) (ya : Int64) (wa : Int64) (RR : List Value) (h0 : Heap) (n0 : Nat) (v : Option Value) (h : Heap) (L : List Loc) : Prop := v = some (.int (own_lb1 ya vb)) ∧ Fr n0 L ∧ h = h0
set_option maxRecDepth 65536 in
set_option maxHeartbeats 40000000 in
theorem own_rm_lb1 (l : Launch) (Z : State) (a0 : Array Value) (hw : ∀ d ∈ tables_1, d.before a0 Z = true) (ws : List Jvm.Cond) (oa : Addr) (vb : Int64) (oz : Addr) (kz : ClassId) (NN : Int32) (HA : Int64) (HB : Int64) (yp : Int64) (wp : Int64) (ya : Int64) (wa : Int64) (RR : List Value) (h0 : Heap) (n0 : Nat) (Z0 : n0 ≤ h0.size) (F_oa_cells : Fld Z h0 oa own_k0 "cells" "[J" (.ref oz)) (V_oz : Arv Z h0 oz kz .long NN ((.long HA) :: (.long HB) :: (.long yp) :: (.long wp) :: (.long ya) :: (.long wa) :: RR) (.long 0)) (hN : (4 : Int32) < NN) :
    MetFree l own_y6 (head1 (Jvm.Cond.code own_y6 prog_4_method_12_code 8 (some .int) :: ws) ({ frames := 0, cells := 0, slots := 0, locals := 0 } : Room)) (fun a U => a = #[(.ref oa), (.int 4), (.int 1), (.long vb)] ∧ Z.Warmed39 U.vm ∧ U.heap = h0) (fun _ _ _ _ _ => True) (fun _ U o U' => ∃ v L, o = .returned v ∧ own_Q_lb1 Z oa vb oz kz NN HA HB yp wp ya wa RR h0 n0 v U'.heap L ∧ FrameEnd U o U' L ({ frames := 0, cells := 0, slots := 0, locals := 0 } : Room).cells ({ frames := 0, cells := 0, slots := 0, locals := 0 } : Room).slots) := by
  refine MetFree.of_bodySF (plainFor_of_name own_pn0) hisR ?_
  intro p e s m args below meth c s₁ Bd hml0 hP hK
  obtain ⟨rfl, hZ, hh⟩ := hP
  have hx := Bd.exec
  have hby := Bd.bytes
  have hml : c.maxLocals = 8 := hml0
  have hown : s.vm.findClass own_k0 = some m.cls := findClass_of_methodNamed Bd.named
  have hnm := (name_of_methodNamed Bd.named Bd.method).1
  have X0 : Stand p l e ({ frames := 0, cells := 0, slots := 0, locals := 0 } : Room) s m #[(.ref oa), (.int 4), (.int 1), (.long vb)] below meth c s₁ [] 0 0 := Stand.of_body Bd
  have e0 : s₁.heap = h0 := by rw [← hh, Bd.state]; rfl
  have N0 := Fr.nil n0
  show own_Fin p e below s (own_Q_lb1 Z oa vb oz kz NN HA HB yp wp ya wa RR h0 n0) ({ frames := 0, cells := 0, slots := 0, locals := 0 } : Room).cells ({ frames := 0, cells := 0, slots := 0, locals := 0 } : Room).slots (s₁.setTop (entryFrame m #[(.ref oa), (.int 4), (.int 1), (.long vb)] 8))
  refine own_Fin.go (fun t k => castTop (own_ef_lb1 m oa vb) k) ?_
  refine own_Fin.go (fun t k => XS.iconst X0.here hx rfl (hb hby d6_0) (XS.istore X0.here hx rfl (hb hby d6_1) rfl (l' := #[rv oa, iv 4, iv 1, jv vb, sS, iv 0, uS, uS]) rfl (XS.iloadN X0.here hx rfl (hb hby d6_3) rfl (XS.istore X0.here hx rfl (hb hby d6_4) rfl (l' := #[rv oa, iv 4, iv 1, jv vb, sS, iv 0, iv 1, uS]) rfl k)))) ?_
  refine own_Fin.go (fun t k => XS.iload X0.here hx rfl (hb hby d6_6) rfl k) ?_
  show own_Fin _ _ _ _ _ _ _ (s₁.setTop (mkF m 8 #[rv oa, iv 4, iv 1, jv vb, sS, iv 0, iv 1, uS] [(.int 0)]))
  refine own_Fin.go (fun t k => XS.iload X0.here hx rfl (hb hby d6_8) rfl (XS.icmpNo X0.here hx rfl (hb hby d6_10) rfl (by decide) (XS.iload X0.here hx rfl (hb hby d6_13) rfl (XS.iload X0.here hx rfl (hb hby d6_15) rfl k)))) ?_
  refine own_Fin.go (fun t k => XS.iadd X0.here hx rfl (hb hby d6_17) rfl k) ?_
  show own_Fin _ _ _ _ _ _ _ (s₁.setTop (mkF m 18 #[rv oa, iv 4, iv 1, jv vb, sS, iv 0, iv 1, uS] [(.int ((0 : Int32) + (1 : Int32)))]))
  rw [show ((0 : Int32) + (1 : Int32)) = (1 : Int32) from by decide +kernel]
  refine own_Fin.go (fun t k => XS.iconst X0.here hx rfl (hb hby d6_18) (XS.iushr X0.here hx rfl (hb hby d6_19) rfl k)) ?_
  show own_Fin _ _ _ _ _ _ _ (s₁.setTop (mkF m 20 #[rv oa, iv 4, iv 1, jv vb, sS, iv 0, iv 1, uS] [(.int (((1 : Int32).toUInt32 >>> ((1 : Int32) &&& 31).toUInt32).toInt32))]))
  rw [show (((1 : Int32).toUInt32 >>> ((1 : Int32) &&& 31).toUInt32).toInt32) = (0 : Int32) from by decide +kernel]
  refine own_Fin.go (fun t k => XS.istore X0.here hx rfl (hb hby d6_20) rfl (l' := #[rv oa, iv 4, iv 1, jv vb, sS, iv 0, iv 1, iv 0]) rfl (XS.aloadN X0.here hx rfl (hb hby d6_22) rfl rfl k)) ?_
  refine own_gF X0 hx hZ hown (own_W hw 39 rfl) e0 F_oa_cells rfl rfl (hb hby d6_23) ?_
  intro T2 X2 e2
  refine own_Fin.go (fun t k => XS.iloadN X2.here hx rfl (hb hby d6_26) rfl (XS.iconst X2.here hx rfl (hb hby d6_27) (XS.iload X2.here hx rfl (hb hby d6_28) rfl (XS.imul X2.here hx rfl (hb hby d6_30) rfl k)))) ?_
  show own_Fin _ _ _ _ _ _ _ (T2.setTop (mkF m 31 #[rv oa, iv 4, iv 1, jv vb, sS, iv 0, iv 1, iv 0] [(.int ((2 : Int32) * (0 : Int32))), (.int 4), (.ref oz)]))
  rw [show ((2 : Int32) * (0 : Int32)) = (0 : Int32) from by decide +kernel]
  refine own_Fin.go (fun t k => XS.iadd X2.here hx rfl (hb hby d6_31) rfl k) ?_
  show own_Fin _ _ _ _ _ _ _ (T2.setTop (mkF m 32 #[rv oa, iv 4, iv 1, jv vb, sS, iv 0, iv 1, iv 0] [(.int ((4 : Int32) + (0 : Int32))), (.ref oz)]))
  rw [show ((4 : Int32) + (0 : Int32)) = (4 : Int32) from by decide +kernel]
  refine own_lal X2 hx hZ e2 V_oz ⟨by decide, Int32.lt_of_le_of_lt (by decide) hN⟩ (v := ya) rfl rfl rfl (hb hby d6_32) ?_
  refine own_Fin.go (fun t k => XS.lloadN X2.here hx rfl (hb hby d6_33) rfl (XS.lcmp X2.here hx rfl (hb hby d6_34) rfl k)) ?_
  by_cases hc35_4 : ya < vb
  · refine own_Fin.go (fun t k => XS.ifNo X2.here hx rfl (hb hby d6_35) rfl (Jvm.Free.XT.ll_ge_f hc35_4) k) ?_
    show own_Fin _ _ _ _ _ _ _ (T2.setTop (mkF m 38 #[rv oa, iv 4, iv 1, jv vb, sS, iv 0, iv 1, iv 0] []))
    refine own_Fin.go (fun t k => XS.iload X2.here hx rfl (hb hby d6_38) rfl (XS.iconst X2.here hx rfl (hb hby d6_40) (XS.iadd X2.here hx rfl (hb hby d6_41) rfl k))) ?_
    show own_Fin _ _ _ _ _ _ _ (T2.setTop (mkF m 42 #[rv oa, iv 4, iv 1, jv vb, sS, iv 0, iv 1, iv 0] [(.int ((0 : Int32) + (1 : Int32)))]))
    rw [show ((0 : Int32) + (1 : Int32)) = (1 : Int32) from by decide +kernel]
    refine own_Fin.go (fun t k => XS.istore X2.here hx rfl (hb hby d6_42) rfl (l' := #[rv oa, iv 4, iv 1, jv vb, sS, iv 1, iv 1, iv 0]) rfl (XS.goto X2.here hx rfl (pc0 := 44) (pc' := 51) rfl (hb hby d6_44) (by decide) (by decide) (XS.goto X2.here hx rfl (pc0 := 51) (pc' := 6) rfl (hb hby d6_51) (by decide) (by decide) (XS.iload X2.here hx rfl (hb hby d6_6) rfl k)))) ?_
    refine own_Fin.go (fun t k => XS.iload X2.here hx rfl (hb hby d6_8) rfl k) ?_
    show own_Fin _ _ _ _ _ _ _ (T2.setTop (mkF m 10 #[rv oa, iv 4, iv 1, jv vb, sS, iv 1, iv 1, iv 0] [(.int 1), (.int 1)]))
    refine own_Fin.go (fun t k => XS.icmpYes X2.here hx rfl (pc0 := 10) (pc' := 54) rfl (hb hby d6_10) rfl (by decide) (by decide) (by decide) (XS.iloadN X2.here hx rfl (hb hby d6_54) rfl (XS.iconst X2.here hx rfl (hb hby d6_55) (XS.iload X2.here hx rfl (hb hby d6_56) rfl k)))) ?_
    refine own_Fin.go (fun t k => XS.imul X2.here hx rfl (hb hby d6_58) rfl k) ?_
    show own_Fin _ _ _ _ _ _ _ (T2.setTop (mkF m 59 #[rv oa, iv 4, iv 1, jv vb, sS, iv 1, iv 1, iv 0] [(.int ((2 : Int32) * (1 : Int32))), (.int 4)]))
    rw [show ((2 : Int32) * (1 : Int32)) = (2 : Int32) from by decide +kernel]
    refine own_Fin.go (fun t k => XS.iadd X2.here hx rfl (hb hby d6_59) rfl k) ?_
    show own_Fin _ _ _ _ _ _ _ (T2.setTop (mkF m 60 #[rv oa, iv 4, iv 1, jv vb, sS, iv 1, iv 1, iv 0] [(.int ((4 : Int32) + (2 : Int32)))]))
    rw [show ((4 : Int32) + (2 : Int32)) = (6 : Int32) from by decide +kernel]
    refine own_retI X2 hx Bd.returns (hb hby d6_60) Bd.notSynchronized (by decide) (by decide) ?_
    rw [e2]
    exact ⟨by simp only [own_lb1, if_pos hc35_4], N0, rfl⟩
  · refine own_Fin.go (fun t k => XS.ifYes X2.here hx rfl (pc0 := 35) (pc' := 47) rfl (hb hby d6_35) rfl (Jvm.Free.XT.ll_ge_t hc35_4) (by decide) (by decide) k) ?_
    show own_Fin _ _ _ _ _ _ _ (T2.setTop (mkF m 47 #[rv oa, iv 4, iv 1, jv vb, sS, iv 0, iv 1, iv 0] []))
    refine own_Fin.go (fun t k => XS.iload X2.here hx rfl (hb hby d6_47) rfl (XS.istore X2.here hx rfl (hb hby d6_49) rfl (l' := #[rv oa, iv 4, iv 1, jv vb, sS, iv 0, iv 0, iv 0]) rfl (XS.goto X2.here hx rfl (pc0 := 51) (pc' := 6) rfl (hb hby d6_51) (by decide) (by decide) (XS.iload X2.here hx rfl (hb hby d6_6) rfl k)))) ?_
    refine own_Fin.go (fun t k => XS.iload X2.here hx rfl (hb hby d6_8) rfl k) ?_
    show own_Fin _ _ _ _ _ _ _ (T2.setTop (mkF m 10 #[rv oa, iv 4, iv 1, jv vb, sS, iv 0, iv 0, iv 0] [(.int 0), (.int 0)]))
    refine own_Fin.go (fun t k => XS.icmpYes X2.here hx rfl (pc0 := 10) (pc' := 54) rfl (hb hby d6_10) rfl (by decide) (by decide) (by decide) (XS.iloadN X2.here hx rfl (hb hby d6_54) rfl (XS.iconst X2.here hx rfl (hb hby d6_55) (XS.iload X2.here hx rfl (hb hby d6_56) rfl k)))) ?_
    refine own_Fin.go (fun t k => XS.imul X2.here hx rfl (hb hby d6_58) rfl k) ?_
    show own_Fin _ _ _ _ _ _ _ (T2.setTop (mkF m 59 #[rv oa, iv 4, iv 1, jv vb, sS, iv 0, iv 0, iv 0] [(.int ((2 : Int32) * (0 : Int32))), (.int 4)]))
    rw [show ((2 : Int32) * (0 : Int32)) = (0 : Int32) from by decide +kernel]
    refine own_Fin.go (fun t k => XS.iadd X2.here hx rfl (hb hby d6_59) rfl k) ?_
    show own_Fin _ _ _ _ _ _ _ (T2.setTop (mkF m 60 #[rv oa, iv 4, iv 1, jv vb, sS, iv 0, iv 0, iv 0] [(.int ((4 : Int32) + (0 : Int32)))]))
    rw [show ((4 : Int32) + (0 : Int32)) = (4 : Int32) from by decide +kernel]
    refine own_retI X2 hx Bd.returns (hb hby d6_60) Bd.notSynchronized (by decide) (by decide) ?_
    rw [e2]
    exact ⟨by simp only [own_lb1, if_neg hc35_4], N0, rfl⟩
theorem own_pd2 : parseMethodDescriptor "(IIJ)I" = some ⟨[.int, .int, .long], some .int⟩ := by decide +kernel
theorem d4_0 : decode prog_4_method_11_code 0 = .ok (.aload_n 0, 1) := by decide +kernel
theorem d4_1 : decode prog_4_method_11_code 1 = .ok (.aload_n 0, 1) := by decide +kernel
theorem d4_2 : decode prog_4_method_11_code 2 = .ok (.iload_n 1, 1) := by decide +kernel
theorem d4_3 : decode prog_4_method_11_code 3 = .ok (.invokevirtual 77, 3) := by decide +kernel
theorem d4_6 : decode prog_4_method_11_code 6 = .ok (.aload_n 0, 1) := by decide +kernel
theorem d4_7 : decode prog_4_method_11_code 7 = .ok (.iload_n 1, 1) := by decide +kernel
theorem d4_8 : decode prog_4_method_11_code 8 = .ok (.invokevirtual 80, 3) := by decide +kernel
theorem d4_11 : decode prog_4_method_11_code 11 = .ok (.lload_n 2, 1) := by decide +kernel
theorem d4_12 : decode prog_4_method_11_code 12 = .ok (.invokevirtual 87, 3) := by decide +kernel
theorem d4_15 : decode prog_4_method_11_code 15 = .ok (.ireturn, 1) := by decide +kernel
theorem own_ef_ix1 (m : MethodId) (oa : Addr) (vb : Int64) : entryFrame m #[(.ref oa), (.int 1), (.long vb)] 4 = mkF m 0 #[rv oa, iv 1, jv vb, sS] [] := by first | (simp [entryFrame, mkF, argsToLocals, Value.category]; done) | rfl
def own_Q_ix1 (Z : State) (oa : Addr) (vb : Int64) (oz : Addr) (kz : ClassId) (NN : Int32) (HA : Int64) (HB : Int64) (yp : Int64) (wp : Int64) (ya : Int64) (wa : Int64) (RR : List Value) (h0 : Heap) (n0 : Nat) (v : Option Value) (h : Heap) (L : List Loc) : Prop := v = some (.int (own_lb1 ya vb)) ∧ Fr n0 L ∧ h = h0
set_option maxRecDepth 65536 in
set_option maxHeartbeats 40000000 in
theorem own_rm_ix1 (l : Launch) (Z : State) (a0 : Array Value) (hw : ∀ d ∈ tables_1, d.before a0 Z = true) (ws : List Jvm.Cond) (oa : Addr) (vb : Int64) (oz : Addr) (kz : ClassId) (NN : Int32) (HA : Int64) (HB : Int64) (yp : Int64) (wp : Int64) (ya : Int64) (wa : Int64) (RR : List Value) (h0 : Heap) (n0 : Nat) (Z0 : n0 ≤ h0.size) (E_oa : Exa Z h0 oa own_k0) (F_oa_cells : Fld Z h0 oa own_k0 "cells" "[J" (.ref oz)) (V_oz : Arv Z h0 oz kz .long NN ((.long HA) :: (.long HB) :: (.long yp) :: (.long wp) :: (.long ya) :: (.long wa) :: RR) (.long 0)) (hN : (4 : Int32) < NN) (hs : own_stb HA = 4) (hl : own_lenb HA = 1) :
    MetFree l own_y7 (head1 (Jvm.Cond.code own_y7 prog_4_method_11_code 4 (some .int) :: ws) ({ frames := 3, cells := 0, slots := 0, locals := 40 } : Room)) (fun a U => a = #[(.ref oa), (.int 1), (.long vb)] ∧ Z.Warmed39 U.vm ∧ U.heap = h0) (fun _ _ _ _ _ => True) (fun _ U o U' => ∃ v L, o = .returned v ∧ own_Q_ix1 Z oa vb oz kz NN HA HB yp wp ya wa RR h0 n0 v U'.heap L ∧ FrameEnd U o U' L ({ frames := 3, cells := 0, slots := 0, locals := 40 } : Room).cells ({ frames := 3, cells := 0, slots := 0, locals := 40 } : Room).slots) := by
  refine MetFree.of_bodySF (plainFor_of_name own_pn0) hisR ?_
  intro p e s m args below meth c s₁ Bd hml0 hP hK
  obtain ⟨rfl, hZ, hh⟩ := hP
  have hx := Bd.exec
  have hby := Bd.bytes
  have hml : c.maxLocals = 4 := hml0
  have hown : s.vm.findClass own_k0 = some m.cls := findClass_of_methodNamed Bd.named
  have hnm := (name_of_methodNamed Bd.named Bd.method).1
  have X0 : Stand p l e ({ frames := 3, cells := 0, slots := 0, locals := 40 } : Room) s m #[(.ref oa), (.int 1), (.long vb)] below meth c s₁ [] 0 0 := Stand.of_body Bd
  have e0 : s₁.heap = h0 := by rw [← hh, Bd.state]; rfl
  have N0 := Fr.nil n0
  show own_Fin p e below s (own_Q_ix1 Z oa vb oz kz NN HA HB yp wp ya wa RR h0 n0) ({ frames := 3, cells := 0, slots := 0, locals := 40 } : Room).cells ({ frames := 3, cells := 0, slots := 0, locals := 40 } : Room).slots (s₁.setTop (entryFrame m #[(.ref oa), (.int 1), (.long vb)] 4))
  refine own_Fin.go (fun t k => castTop (own_ef_ix1 m oa vb) k) ?_
  refine own_Fin.go (fun t k => XS.aloadN X0.here hx rfl (hb hby d4_0) rfl rfl (XS.aloadN X0.here hx rfl (hb hby d4_1) rfl rfl (XS.iloadN X0.here hx rfl (hb hby d4_2) rfl k))) ?_
  refine own_pC X0 hx hZ hown (own_W hw 58 rfl) (own_W hw 59 rfl) (own_W hw 48 rfl) rfl (own_W hw 60 rfl) (own_W hw 61 rfl) (own_W hw 17 rfl) (by decide) (own_rm_st1 l Z a0 hw [] oa oz kz NN HA HB ((.long yp) :: (.long wp) :: (.long ya) :: (.long wa) :: RR) h0 n0 Z0 E_oa F_oa_cells V_oz (Int32.lt_of_le_of_lt (by decide) hN)) 1 (by decide) (by decide) e0 E_oa rfl (by rw [hml]; rfl) [(.int 1)] (lenOf own_pd1 rfl) rfl (Nat.le_of_eq rfl) (hb hby d4_3) rfl (by decide) (by decide) ?_
  rintro T1 Lc1 _ X1 ⟨rfl, N1q, e1⟩
  have N1 := Fr.app N0 N1q
  show own_Fin _ _ _ _ _ _ _ (T1.setTop (mkF m 6 #[rv oa, iv 1, jv vb, sS] [(.int (own_stb HA)), (.ref oa)]))
  rw [hs]
  refine own_Fin.go (fun t k => XS.aloadN X1.here hx rfl (hb hby d4_6) rfl rfl (XS.iloadN X1.here hx rfl (hb hby d4_7) rfl k)) ?_
  refine own_pC X1 hx hZ hown (own_W hw 70 rfl) (own_W hw 71 rfl) (own_W hw 48 rfl) rfl (own_W hw 72 rfl) (own_W hw 73 rfl) (own_W hw 17 rfl) (by decide) (own_rm_len1 l Z a0 hw [] oa oz kz NN HA HB ((.long yp) :: (.long wp) :: (.long ya) :: (.long wa) :: RR) h0 n0 Z0 F_oa_cells V_oz (Int32.lt_of_le_of_lt (by decide) hN)) 2 (by decide) (by decide) e1 E_oa rfl (by rw [hml]; rfl) [(.int 1)] (lenOf own_pd1 rfl) rfl (Nat.le_of_eq rfl) (hb hby d4_8) rfl (by decide) (by decide) ?_
  rintro T2 Lc2 _ X2 ⟨rfl, N2q, e2⟩
  have N2 := Fr.app N1 N2q
  show own_Fin _ _ _ _ _ _ _ (T2.setTop (mkF m 11 #[rv oa, iv 1, jv vb, sS] [(.int (own_lenb HA)), (.int 4), (.ref oa)]))
  rw [hl]
  refine own_Fin.go (fun t k => XS.lloadN X2.here hx rfl (hb hby d4_11) rfl k) ?_
  refine own_pC X2 hx hZ hown (own_W hw 75 rfl) (own_W hw 76 rfl) (own_W hw 48 rfl) rfl (own_W hw 77 rfl) (own_W hw 78 rfl) (own_W hw 17 rfl) (by decide) (own_rm_lb1 l Z a0 hw [] oa vb oz kz NN HA HB yp wp ya wa RR h0 n0 Z0 F_oa_cells V_oz (by assumption)) 0 (by decide) (by decide) e2 E_oa rfl (by rw [hml]; rfl) [(.int 4), (.int 1), (.long vb)] (lenOf own_pd2 rfl) rfl (Nat.le_of_eq rfl) (hb hby d4_12) rfl (by decide) (by decide) ?_
  rintro T3 Lc3 _ X3 ⟨rfl, N3q, e3⟩
  have N3 := Fr.app N2 N3q
  show own_Fin _ _ _ _ _ _ _ (T3.setTop (mkF m 15 #[rv oa, iv 1, jv vb, sS] [(.int (own_lb1 ya vb))]))
  refine own_retI X3 hx Bd.returns (hb hby d4_15) Bd.notSynchronized (by decide) (by decide) ?_
  rw [e3]
  exact ⟨rfl, N3, rfl⟩
theorem own_ef_lb2 (m : MethodId) (oa : Addr) (vb : Int64) : entryFrame m #[(.ref oa), (.int 4), (.int 2), (.long vb)] 8 = mkF m 0 #[rv oa, iv 4, iv 2, jv vb, sS, uS, uS, uS] [] := by first | (simp [entryFrame, mkF, argsToLocals, Value.category]; done) | rfl
def own_Q_lb2 (Z : State) (oa : Addr) (vb : Int64) (oz : Addr) (kz : ClassId) (NN : Int32) (HA : Int64) (HB : Int64) (yp : Int64) (wp : Int64) (ya : Int64) (wa : Int64) (yb : Int64) (wb : Int64) (RR : List Value) (h0 : Heap) (n0 : Nat) (v : Option Value) (h : Heap) (L : List Loc) : Prop := v = some (.int (own_lb2 ya yb vb)) ∧ Fr n0 L ∧ h = h0
set_option maxRecDepth 65536 in
set_option maxHeartbeats 40000000 in
theorem own_rm_lb2 (l : Launch) (Z : State) (a0 : Array Value) (hw : ∀ d ∈ tables_1, d.before a0 Z = true) (ws : List Jvm.Cond) (oa : Addr) (vb : Int64) (oz : Addr) (kz : ClassId) (NN : Int32) (HA : Int64) (HB : Int64) (yp : Int64) (wp : Int64) (ya : Int64) (wa : Int64) (yb : Int64) (wb : Int64) (RR : List Value) (h0 : Heap) (n0 : Nat) (Z0 : n0 ≤ h0.size) (F_oa_cells : Fld Z h0 oa own_k0 "cells" "[J" (.ref oz)) (V_oz : Arv Z h0 oz kz .long NN ((.long HA) :: (.long HB) :: (.long yp) :: (.long wp) :: (.long ya) :: (.long wa) :: (.long yb) :: (.long wb) :: RR) (.long 0)) (hN : (6 : Int32) < NN) :
    MetFree l own_y6 (head1 (Jvm.Cond.code own_y6 prog_4_method_12_code 8 (some .int) :: ws) ({ frames := 0, cells := 0, slots := 0, locals := 0 } : Room)) (fun a U => a = #[(.ref oa), (.int 4), (.int 2), (.long vb)] ∧ Z.Warmed39 U.vm ∧ U.heap = h0) (fun _ _ _ _ _ => True) (fun _ U o U' => ∃ v L, o = .returned v ∧ own_Q_lb2 Z oa vb oz kz NN HA HB yp wp ya wa yb wb RR h0 n0 v U'.heap L ∧ FrameEnd U o U' L ({ frames := 0, cells := 0, slots := 0, locals := 0 } : Room).cells ({ frames := 0, cells := 0, slots := 0, locals := 0 } : Room).slots) := by
  refine MetFree.of_bodySF (plainFor_of_name own_pn0) hisR ?_
  intro p e s m args below meth c s₁ Bd hml0 hP hK
  obtain ⟨rfl, hZ, hh⟩ := hP
  have hx := Bd.exec
  have hby := Bd.bytes
  have hml : c.maxLocals = 8 := hml0
  have hown : s.vm.findClass own_k0 = some m.cls := findClass_of_methodNamed Bd.named
  have hnm := (name_of_methodNamed Bd.named Bd.method).1
  have X0 : Stand p l e ({ frames := 0, cells := 0, slots := 0, locals := 0 } : Room) s m #[(.ref oa), (.int 4), (.int 2), (.long vb)] below meth c s₁ [] 0 0 := Stand.of_body Bd
  have e0 : s₁.heap = h0 := by rw [← hh, Bd.state]; rfl
  have N0 := Fr.nil n0
  show own_Fin p e below s (own_Q_lb2 Z oa vb oz kz NN HA HB yp wp ya wa yb wb RR h0 n0) ({ frames := 0, cells := 0, slots := 0, locals := 0 } : Room).cells ({ frames := 0, cells := 0, slots := 0, locals := 0 } : Room).slots (s₁.setTop (entryFrame m #[(.ref oa), (.int 4), (.int 2), (.long vb)] 8))
  refine own_Fin.go (fun t k => castTop (own_ef_lb2 m oa vb) k) ?_
  refine own_Fin.go (fun t k => XS.iconst X0.here hx rfl (hb hby d6_0) (XS.istore X0.here hx rfl (hb hby d6_1) rfl (l' := #[rv oa, iv 4, iv 2, jv vb, sS, iv 0, uS, uS]) rfl (XS.iloadN X0.here hx rfl (hb hby d6_3) rfl (XS.istore X0.here hx rfl (hb hby d6_4) rfl (l' := #[rv oa, iv 4, iv 2, jv vb, sS, iv 0, iv 2, uS]) rfl k)))) ?_
  refine own_Fin.go (fun t k => XS.iload X0.here hx rfl (hb hby d6_6) rfl k) ?_
  show own_Fin _ _ _ _ _ _ _ (s₁.setTop (mkF m 8 #[rv oa, iv 4, iv 2, jv vb, sS, iv 0, iv 2, uS] [(.int 0)]))
  refine own_Fin.go (fun t k => XS.iload X0.here hx rfl (hb hby d6_8) rfl (XS.icmpNo X0.here hx rfl (hb hby d6_10) rfl (by decide) (XS.iload X0.here hx rfl (hb hby d6_13) rfl (XS.iload X0.here hx rfl (hb hby d6_15) rfl k)))) ?_
  refine own_Fin.go (fun t k => XS.iadd X0.here hx rfl (hb hby d6_17) rfl k) ?_
  show own_Fin _ _ _ _ _ _ _ (s₁.setTop (mkF m 18 #[rv oa, iv 4, iv 2, jv vb, sS, iv 0, iv 2, uS] [(.int ((0 : Int32) + (2 : Int32)))]))
  rw [show ((0 : Int32) + (2 : Int32)) = (2 : Int32) from by decide +kernel]
  refine own_Fin.go (fun t k => XS.iconst X0.here hx rfl (hb hby d6_18) (XS.iushr X0.here hx rfl (hb hby d6_19) rfl k)) ?_
  show own_Fin _ _ _ _ _ _ _ (s₁.setTop (mkF m 20 #[rv oa, iv 4, iv 2, jv vb, sS, iv 0, iv 2, uS] [(.int (((2 : Int32).toUInt32 >>> ((1 : Int32) &&& 31).toUInt32).toInt32))]))
  rw [show (((2 : Int32).toUInt32 >>> ((1 : Int32) &&& 31).toUInt32).toInt32) = (1 : Int32) from by decide +kernel]
  refine own_Fin.go (fun t k => XS.istore X0.here hx rfl (hb hby d6_20) rfl (l' := #[rv oa, iv 4, iv 2, jv vb, sS, iv 0, iv 2, iv 1]) rfl (XS.aloadN X0.here hx rfl (hb hby d6_22) rfl rfl k)) ?_
  refine own_gF X0 hx hZ hown (own_W hw 39 rfl) e0 F_oa_cells rfl rfl (hb hby d6_23) ?_
  intro T2 X2 e2
  refine own_Fin.go (fun t k => XS.iloadN X2.here hx rfl (hb hby d6_26) rfl (XS.iconst X2.here hx rfl (hb hby d6_27) (XS.iload X2.here hx rfl (hb hby d6_28) rfl (XS.imul X2.here hx rfl (hb hby d6_30) rfl k)))) ?_
  show own_Fin _ _ _ _ _ _ _ (T2.setTop (mkF m 31 #[rv oa, iv 4, iv 2, jv vb, sS, iv 0, iv 2, iv 1] [(.int ((2 : Int32) * (1 : Int32))), (.int 4), (.ref oz)]))
  rw [show ((2 : Int32) * (1 : Int32)) = (2 : Int32) from by decide +kernel]
  refine own_Fin.go (fun t k => XS.iadd X2.here hx rfl (hb hby d6_31) rfl k) ?_
  show own_Fin _ _ _ _ _ _ _ (T2.setTop (mkF m 32 #[rv oa, iv 4, iv 2, jv vb, sS, iv 0, iv 2, iv 1] [(.int ((4 : Int32) + (2 : Int32))), (.ref oz)]))
  rw [show ((4 : Int32) + (2 : Int32)) = (6 : Int32) from by decide +kernel]
  refine own_lal X2 hx hZ e2 V_oz ⟨by decide, Int32.lt_of_le_of_lt (by decide) hN⟩ (v := yb) rfl rfl rfl (hb hby d6_32) ?_
  refine own_Fin.go (fun t k => XS.lloadN X2.here hx rfl (hb hby d6_33) rfl (XS.lcmp X2.here hx rfl (hb hby d6_34) rfl k)) ?_
  by_cases hc35_4 : yb < vb
  · refine own_Fin.go (fun t k => XS.ifNo X2.here hx rfl (hb hby d6_35) rfl (Jvm.Free.XT.ll_ge_f hc35_4) k) ?_
    show own_Fin _ _ _ _ _ _ _ (T2.setTop (mkF m 38 #[rv oa, iv 4, iv 2, jv vb, sS, iv 0, iv 2, iv 1] []))
    refine own_Fin.go (fun t k => XS.iload X2.here hx rfl (hb hby d6_38) rfl (XS.iconst X2.here hx rfl (hb hby d6_40) (XS.iadd X2.here hx rfl (hb hby d6_41) rfl k))) ?_
    show own_Fin _ _ _ _ _ _ _ (T2.setTop (mkF m 42 #[rv oa, iv 4, iv 2, jv vb, sS, iv 0, iv 2, iv 1] [(.int ((1 : Int32) + (1 : Int32)))]))
    rw [show ((1 : Int32) + (1 : Int32)) = (2 : Int32) from by decide +kernel]
    refine own_Fin.go (fun t k => XS.istore X2.here hx rfl (hb hby d6_42) rfl (l' := #[rv oa, iv 4, iv 2, jv vb, sS, iv 2, iv 2, iv 1]) rfl (XS.goto X2.here hx rfl (pc0 := 44) (pc' := 51) rfl (hb hby d6_44) (by decide) (by decide) (XS.goto X2.here hx rfl (pc0 := 51) (pc' := 6) rfl (hb hby d6_51) (by decide) (by decide) (XS.iload X2.here hx rfl (hb hby d6_6) rfl k)))) ?_
    refine own_Fin.go (fun t k => XS.iload X2.here hx rfl (hb hby d6_8) rfl k) ?_
    show own_Fin _ _ _ _ _ _ _ (T2.setTop (mkF m 10 #[rv oa, iv 4, iv 2, jv vb, sS, iv 2, iv 2, iv 1] [(.int 2), (.int 2)]))
    refine own_Fin.go (fun t k => XS.icmpYes X2.here hx rfl (pc0 := 10) (pc' := 54) rfl (hb hby d6_10) rfl (by decide) (by decide) (by decide) (XS.iloadN X2.here hx rfl (hb hby d6_54) rfl (XS.iconst X2.here hx rfl (hb hby d6_55) (XS.iload X2.here hx rfl (hb hby d6_56) rfl k)))) ?_
    refine own_Fin.go (fun t k => XS.imul X2.here hx rfl (hb hby d6_58) rfl k) ?_
    show own_Fin _ _ _ _ _ _ _ (T2.setTop (mkF m 59 #[rv oa, iv 4, iv 2, jv vb, sS, iv 2, iv 2, iv 1] [(.int ((2 : Int32) * (2 : Int32))), (.int 4)]))
    rw [show ((2 : Int32) * (2 : Int32)) = (4 : Int32) from by decide +kernel]
    refine own_Fin.go (fun t k => XS.iadd X2.here hx rfl (hb hby d6_59) rfl k) ?_
    show own_Fin _ _ _ _ _ _ _ (T2.setTop (mkF m 60 #[rv oa, iv 4, iv 2, jv vb, sS, iv 2, iv 2, iv 1] [(.int ((4 : Int32) + (4 : Int32)))]))
    rw [show ((4 : Int32) + (4 : Int32)) = (8 : Int32) from by decide +kernel]
    refine own_retI X2 hx Bd.returns (hb hby d6_60) Bd.notSynchronized (by decide) (by decide) ?_
    rw [e2]
    exact ⟨by simp only [own_lb2, if_pos hc35_4], N0, rfl⟩
  · refine own_Fin.go (fun t k => XS.ifYes X2.here hx rfl (pc0 := 35) (pc' := 47) rfl (hb hby d6_35) rfl (Jvm.Free.XT.ll_ge_t hc35_4) (by decide) (by decide) k) ?_
    show own_Fin _ _ _ _ _ _ _ (T2.setTop (mkF m 47 #[rv oa, iv 4, iv 2, jv vb, sS, iv 0, iv 2, iv 1] []))
    refine own_Fin.go (fun t k => XS.iload X2.here hx rfl (hb hby d6_47) rfl (XS.istore X2.here hx rfl (hb hby d6_49) rfl (l' := #[rv oa, iv 4, iv 2, jv vb, sS, iv 0, iv 1, iv 1]) rfl (XS.goto X2.here hx rfl (pc0 := 51) (pc' := 6) rfl (hb hby d6_51) (by decide) (by decide) (XS.iload X2.here hx rfl (hb hby d6_6) rfl k)))) ?_
    refine own_Fin.go (fun t k => XS.iload X2.here hx rfl (hb hby d6_8) rfl k) ?_
    show own_Fin _ _ _ _ _ _ _ (T2.setTop (mkF m 10 #[rv oa, iv 4, iv 2, jv vb, sS, iv 0, iv 1, iv 1] [(.int 1), (.int 0)]))
    refine own_Fin.go (fun t k => XS.icmpNo X2.here hx rfl (hb hby d6_10) rfl (by decide) (XS.iload X2.here hx rfl (hb hby d6_13) rfl (XS.iload X2.here hx rfl (hb hby d6_15) rfl (XS.iadd X2.here hx rfl (hb hby d6_17) rfl k)))) ?_
    show own_Fin _ _ _ _ _ _ _ (T2.setTop (mkF m 18 #[rv oa, iv 4, iv 2, jv vb, sS, iv 0, iv 1, iv 1] [(.int ((0 : Int32) + (1 : Int32)))]))
    rw [show ((0 : Int32) + (1 : Int32)) = (1 : Int32) from by decide +kernel]
    refine own_Fin.go (fun t k => XS.iconst X2.here hx rfl (hb hby d6_18) (XS.iushr X2.here hx rfl (hb hby d6_19) rfl k)) ?_
    show own_Fin _ _ _ _ _ _ _ (T2.setTop (mkF m 20 #[rv oa, iv 4, iv 2, jv vb, sS, iv 0, iv 1, iv 1] [(.int (((1 : Int32).toUInt32 >>> ((1 : Int32) &&& 31).toUInt32).toInt32))]))
    rw [show (((1 : Int32).toUInt32 >>> ((1 : Int32) &&& 31).toUInt32).toInt32) = (0 : Int32) from by decide +kernel]
    refine own_Fin.go (fun t k => XS.istore X2.here hx rfl (hb hby d6_20) rfl (l' := #[rv oa, iv 4, iv 2, jv vb, sS, iv 0, iv 1, iv 0]) rfl (XS.aloadN X2.here hx rfl (hb hby d6_22) rfl rfl k)) ?_
    refine own_gF X2 hx hZ hown (own_W hw 39 rfl) e2 F_oa_cells rfl rfl (hb hby d6_23) ?_
    intro T7 X7 e7
    refine own_Fin.go (fun t k => XS.iloadN X7.here hx rfl (hb hby d6_26) rfl (XS.iconst X7.here hx rfl (hb hby d6_27) (XS.iload X7.here hx rfl (hb hby d6_28) rfl (XS.imul X7.here hx rfl (hb hby d6_30) rfl k)))) ?_
    show own_Fin _ _ _ _ _ _ _ (T7.setTop (mkF m 31 #[rv oa, iv 4, iv 2, jv vb, sS, iv 0, iv 1, iv 0] [(.int ((2 : Int32) * (0 : Int32))), (.int 4), (.ref oz)]))
    rw [show ((2 : Int32) * (0 : Int32)) = (0 : Int32) from by decide +kernel]
    refine own_Fin.go (fun t k => XS.iadd X7.here hx rfl (hb hby d6_31) rfl k) ?_
    show own_Fin _ _ _ _ _ _ _ (T7.setTop (mkF m 32 #[rv oa, iv 4, iv 2, jv vb, sS, iv 0, iv 1, iv 0] [(.int ((4 : Int32) + (0 : Int32))), (.ref oz)]))
    rw [show ((4 : Int32) + (0 : Int32)) = (4 : Int32) from by decide +kernel]
    refine own_lal X7 hx hZ e7 V_oz ⟨by decide, Int32.lt_of_le_of_lt (by decide) hN⟩ (v := ya) rfl rfl rfl (hb hby d6_32) ?_
    refine own_Fin.go (fun t k => XS.lloadN X7.here hx rfl (hb hby d6_33) rfl (XS.lcmp X7.here hx rfl (hb hby d6_34) rfl k)) ?_
    by_cases hc35_9 : ya < vb
    · refine own_Fin.go (fun t k => XS.ifNo X7.here hx rfl (hb hby d6_35) rfl (Jvm.Free.XT.ll_ge_f hc35_9) k) ?_
      show own_Fin _ _ _ _ _ _ _ (T7.setTop (mkF m 38 #[rv oa, iv 4, iv 2, jv vb, sS, iv 0, iv 1, iv 0] []))
      refine own_Fin.go (fun t k => XS.iload X7.here hx rfl (hb hby d6_38) rfl (XS.iconst X7.here hx rfl (hb hby d6_40) (XS.iadd X7.here hx rfl (hb hby d6_41) rfl k))) ?_
      show own_Fin _ _ _ _ _ _ _ (T7.setTop (mkF m 42 #[rv oa, iv 4, iv 2, jv vb, sS, iv 0, iv 1, iv 0] [(.int ((0 : Int32) + (1 : Int32)))]))
      rw [show ((0 : Int32) + (1 : Int32)) = (1 : Int32) from by decide +kernel]
      refine own_Fin.go (fun t k => XS.istore X7.here hx rfl (hb hby d6_42) rfl (l' := #[rv oa, iv 4, iv 2, jv vb, sS, iv 1, iv 1, iv 0]) rfl (XS.goto X7.here hx rfl (pc0 := 44) (pc' := 51) rfl (hb hby d6_44) (by decide) (by decide) (XS.goto X7.here hx rfl (pc0 := 51) (pc' := 6) rfl (hb hby d6_51) (by decide) (by decide) (XS.iload X7.here hx rfl (hb hby d6_6) rfl k)))) ?_
      refine own_Fin.go (fun t k => XS.iload X7.here hx rfl (hb hby d6_8) rfl k) ?_
      show own_Fin _ _ _ _ _ _ _ (T7.setTop (mkF m 10 #[rv oa, iv 4, iv 2, jv vb, sS, iv 1, iv 1, iv 0] [(.int 1), (.int 1)]))
      refine own_Fin.go (fun t k => XS.icmpYes X7.here hx rfl (pc0 := 10) (pc' := 54) rfl (hb hby d6_10) rfl (by decide) (by decide) (by decide) (XS.iloadN X7.here hx rfl (hb hby d6_54) rfl (XS.iconst X7.here hx rfl (hb hby d6_55) (XS.iload X7.here hx rfl (hb hby d6_56) rfl k)))) ?_
      refine own_Fin.go (fun t k => XS.imul X7.here hx rfl (hb hby d6_58) rfl k) ?_
      show own_Fin _ _ _ _ _ _ _ (T7.setTop (mkF m 59 #[rv oa, iv 4, iv 2, jv vb, sS, iv 1, iv 1, iv 0] [(.int ((2 : Int32) * (1 : Int32))), (.int 4)]))
      rw [show ((2 : Int32) * (1 : Int32)) = (2 : Int32) from by decide +kernel]
      refine own_Fin.go (fun t k => XS.iadd X7.here hx rfl (hb hby d6_59) rfl k) ?_
      show own_Fin _ _ _ _ _ _ _ (T7.setTop (mkF m 60 #[rv oa, iv 4, iv 2, jv vb, sS, iv 1, iv 1, iv 0] [(.int ((4 : Int32) + (2 : Int32)))]))
      rw [show ((4 : Int32) + (2 : Int32)) = (6 : Int32) from by decide +kernel]
      refine own_retI X7 hx Bd.returns (hb hby d6_60) Bd.notSynchronized (by decide) (by decide) ?_
      rw [e7]
      exact ⟨by simp only [own_lb2, if_neg hc35_4, if_pos hc35_9], N0, rfl⟩
    · refine own_Fin.go (fun t k => XS.ifYes X7.here hx rfl (pc0 := 35) (pc' := 47) rfl (hb hby d6_35) rfl (Jvm.Free.XT.ll_ge_t hc35_9) (by decide) (by decide) k) ?_
      show own_Fin _ _ _ _ _ _ _ (T7.setTop (mkF m 47 #[rv oa, iv 4, iv 2, jv vb, sS, iv 0, iv 1, iv 0] []))
      refine own_Fin.go (fun t k => XS.iload X7.here hx rfl (hb hby d6_47) rfl (XS.istore X7.here hx rfl (hb hby d6_49) rfl (l' := #[rv oa, iv 4, iv 2, jv vb, sS, iv 0, iv 0, iv 0]) rfl (XS.goto X7.here hx rfl (pc0 := 51) (pc' := 6) rfl (hb hby d6_51) (by decide) (by decide) (XS.iload X7.here hx rfl (hb hby d6_6) rfl k)))) ?_
      refine own_Fin.go (fun t k => XS.iload X7.here hx rfl (hb hby d6_8) rfl k) ?_
      show own_Fin _ _ _ _ _ _ _ (T7.setTop (mkF m 10 #[rv oa, iv 4, iv 2, jv vb, sS, iv 0, iv 0, iv 0] [(.int 0), (.int 0)]))
      refine own_Fin.go (fun t k => XS.icmpYes X7.here hx rfl (pc0 := 10) (pc' := 54) rfl (hb hby d6_10) rfl (by decide) (by decide) (by decide) (XS.iloadN X7.here hx rfl (hb hby d6_54) rfl (XS.iconst X7.here hx rfl (hb hby d6_55) (XS.iload X7.here hx rfl (hb hby d6_56) rfl k)))) ?_
      refine own_Fin.go (fun t k => XS.imul X7.here hx rfl (hb hby d6_58) rfl k) ?_
      show own_Fin _ _ _ _ _ _ _ (T7.setTop (mkF m 59 #[rv oa, iv 4, iv 2, jv vb, sS, iv 0, iv 0, iv 0] [(.int ((2 : Int32) * (0 : Int32))), (.int 4)]))
      rw [show ((2 : Int32) * (0 : Int32)) = (0 : Int32) from by decide +kernel]
      refine own_Fin.go (fun t k => XS.iadd X7.here hx rfl (hb hby d6_59) rfl k) ?_
      show own_Fin _ _ _ _ _ _ _ (T7.setTop (mkF m 60 #[rv oa, iv 4, iv 2, jv vb, sS, iv 0, iv 0, iv 0] [(.int ((4 : Int32) + (0 : Int32)))]))
      rw [show ((4 : Int32) + (0 : Int32)) = (4 : Int32) from by decide +kernel]
      refine own_retI X7 hx Bd.returns (hb hby d6_60) Bd.notSynchronized (by decide) (by decide) ?_
      rw [e7]
      exact ⟨by simp only [own_lb2, if_neg hc35_4, if_neg hc35_9], N0, rfl⟩
theorem own_ef_ix2 (m : MethodId) (oa : Addr) (vb : Int64) : entryFrame m #[(.ref oa), (.int 1), (.long vb)] 4 = mkF m 0 #[rv oa, iv 1, jv vb, sS] [] := by first | (simp [entryFrame, mkF, argsToLocals, Value.category]; done) | rfl
def own_Q_ix2 (Z : State) (oa : Addr) (vb : Int64) (oz : Addr) (kz : ClassId) (NN : Int32) (HA : Int64) (HB : Int64) (yp : Int64) (wp : Int64) (ya : Int64) (wa : Int64) (yb : Int64) (wb : Int64) (RR : List Value) (h0 : Heap) (n0 : Nat) (v : Option Value) (h : Heap) (L : List Loc) : Prop := v = some (.int (own_lb2 ya yb vb)) ∧ Fr n0 L ∧ h = h0
set_option maxRecDepth 65536 in
set_option maxHeartbeats 40000000 in
theorem own_rm_ix2 (l : Launch) (Z : State) (a0 : Array Value) (hw : ∀ d ∈ tables_1, d.before a0 Z = true) (ws : List Jvm.Cond) (oa : Addr) (vb : Int64) (oz : Addr) (kz : ClassId) (NN : Int32) (HA : Int64) (HB : Int64) (yp : Int64) (wp : Int64) (ya : Int64) (wa : Int64) (yb : Int64) (wb : Int64) (RR : List Value) (h0 : Heap) (n0 : Nat) (Z0 : n0 ≤ h0.size) (E_oa : Exa Z h0 oa own_k0) (F_oa_cells : Fld Z h0 oa own_k0 "cells" "[J" (.ref oz)) (V_oz : Arv Z h0 oz kz .long NN ((.long HA) :: (.long HB) :: (.long yp) :: (.long wp) :: (.long ya) :: (.long wa) :: (.long yb) :: (.long wb) :: RR) (.long 0)) (hN : (6 : Int32) < NN) (hs : own_stb HA = 4) (hl : own_lenb HA = 2) :
    MetFree l own_y7 (head1 (Jvm.Cond.code own_y7 prog_4_method_11_code 4 (some .int) :: ws) ({ frames := 3, cells := 0, slots := 0, locals := 40 } : Room)) (fun a U => a = #[(.ref oa), (.int 1), (.long vb)] ∧ Z.Warmed39 U.vm ∧ U.heap = h0) (fun _ _ _ _ _ => True) (fun _ U o U' => ∃ v L, o = .returned v ∧ own_Q_ix2 Z oa vb oz kz NN HA HB yp wp ya wa yb wb RR h0 n0 v U'.heap L ∧ FrameEnd U o U' L ({ frames := 3, cells := 0, slots := 0, locals := 40 } : Room).cells ({ frames := 3, cells := 0, slots := 0, locals := 40 } : Room).slots) := by
  refine MetFree.of_bodySF (plainFor_of_name own_pn0) hisR ?_
  intro p e s m args below meth c s₁ Bd hml0 hP hK
  obtain ⟨rfl, hZ, hh⟩ := hP
  have hx := Bd.exec
  have hby := Bd.bytes
  have hml : c.maxLocals = 4 := hml0
  have hown : s.vm.findClass own_k0 = some m.cls := findClass_of_methodNamed Bd.named
  have hnm := (name_of_methodNamed Bd.named Bd.method).1
  have X0 : Stand p l e ({ frames := 3, cells := 0, slots := 0, locals := 40 } : Room) s m #[(.ref oa), (.int 1), (.long vb)] below meth c s₁ [] 0 0 := Stand.of_body Bd
  have e0 : s₁.heap = h0 := by rw [← hh, Bd.state]; rfl
  have N0 := Fr.nil n0
  show own_Fin p e below s (own_Q_ix2 Z oa vb oz kz NN HA HB yp wp ya wa yb wb RR h0 n0) ({ frames := 3, cells := 0, slots := 0, locals := 40 } : Room).cells ({ frames := 3, cells := 0, slots := 0, locals := 40 } : Room).slots (s₁.setTop (entryFrame m #[(.ref oa), (.int 1), (.long vb)] 4))
  refine own_Fin.go (fun t k => castTop (own_ef_ix2 m oa vb) k) ?_
  refine own_Fin.go (fun t k => XS.aloadN X0.here hx rfl (hb hby d4_0) rfl rfl (XS.aloadN X0.here hx rfl (hb hby d4_1) rfl rfl (XS.iloadN X0.here hx rfl (hb hby d4_2) rfl k))) ?_
  refine own_pC X0 hx hZ hown (own_W hw 58 rfl) (own_W hw 59 rfl) (own_W hw 48 rfl) rfl (own_W hw 60 rfl) (own_W hw 61 rfl) (own_W hw 17 rfl) (by decide) (own_rm_st1 l Z a0 hw [] oa oz kz NN HA HB ((.long yp) :: (.long wp) :: (.long ya) :: (.long wa) :: (.long yb) :: (.long wb) :: RR) h0 n0 Z0 E_oa F_oa_cells V_oz (Int32.lt_of_le_of_lt (by decide) hN)) 1 (by decide) (by decide) e0 E_oa rfl (by rw [hml]; rfl) [(.int 1)] (lenOf own_pd1 rfl) rfl (Nat.le_of_eq rfl) (hb hby d4_3) rfl (by decide) (by decide) ?_
  rintro T1 Lc1 _ X1 ⟨rfl, N1q, e1⟩
  have N1 := Fr.app N0 N1q
  show own_Fin _ _ _ _ _ _ _ (T1.setTop (mkF m 6 #[rv oa, iv 1, jv vb, sS] [(.int (own_stb HA)), (.ref oa)]))
  rw [hs]
  refine own_Fin.go (fun t k => XS.aloadN X1.here hx rfl (hb hby d4_6) rfl rfl (XS.iloadN X1.here hx rfl (hb hby d4_7) rfl k)) ?_
  refine own_pC X1 hx hZ hown (own_W hw 70 rfl) (own_W hw 71 rfl) (own_W hw 48 rfl) rfl (own_W hw 72 rfl) (own_W hw 73 rfl) (own_W hw 17 rfl) (by decide) (own_rm_len1 l Z a0 hw [] oa oz kz NN HA HB ((.long yp) :: (.long wp) :: (.long ya) :: (.long wa) :: (.long yb) :: (.long wb) :: RR) h0 n0 Z0 F_oa_cells V_oz (Int32.lt_of_le_of_lt (by decide) hN)) 2 (by decide) (by decide) e1 E_oa rfl (by rw [hml]; rfl) [(.int 1)] (lenOf own_pd1 rfl) rfl (Nat.le_of_eq rfl) (hb hby d4_8) rfl (by decide) (by decide) ?_
  rintro T2 Lc2 _ X2 ⟨rfl, N2q, e2⟩
  have N2 := Fr.app N1 N2q
  show own_Fin _ _ _ _ _ _ _ (T2.setTop (mkF m 11 #[rv oa, iv 1, jv vb, sS] [(.int (own_lenb HA)), (.int 4), (.ref oa)]))
  rw [hl]
  refine own_Fin.go (fun t k => XS.lloadN X2.here hx rfl (hb hby d4_11) rfl k) ?_
  refine own_pC X2 hx hZ hown (own_W hw 75 rfl) (own_W hw 76 rfl) (own_W hw 48 rfl) rfl (own_W hw 77 rfl) (own_W hw 78 rfl) (own_W hw 17 rfl) (by decide) (own_rm_lb2 l Z a0 hw [] oa vb oz kz NN HA HB yp wp ya wa yb wb RR h0 n0 Z0 F_oa_cells V_oz (by assumption)) 0 (by decide) (by decide) e2 E_oa rfl (by rw [hml]; rfl) [(.int 4), (.int 2), (.long vb)] (lenOf own_pd2 rfl) rfl (Nat.le_of_eq rfl) (hb hby d4_12) rfl (by decide) (by decide) ?_
  rintro T3 Lc3 _ X3 ⟨rfl, N3q, e3⟩
  have N3 := Fr.app N2 N3q
  show own_Fin _ _ _ _ _ _ _ (T3.setTop (mkF m 15 #[rv oa, iv 1, jv vb, sS] [(.int (own_lb2 ya yb vb))]))
  refine own_retI X3 hx Bd.returns (hb hby d4_15) Bd.notSynchronized (by decide) (by decide) ?_
  rw [e3]
  exact ⟨rfl, N3, rfl⟩
theorem own_ef_lb3 (m : MethodId) (oa : Addr) (vb : Int64) : entryFrame m #[(.ref oa), (.int 4), (.int 3), (.long vb)] 8 = mkF m 0 #[rv oa, iv 4, iv 3, jv vb, sS, uS, uS, uS] [] := by first | (simp [entryFrame, mkF, argsToLocals, Value.category]; done) | rfl
def own_Q_lb3 (Z : State) (oa : Addr) (vb : Int64) (oz : Addr) (kz : ClassId) (NN : Int32) (HA : Int64) (HB : Int64) (yp : Int64) (wp : Int64) (ya : Int64) (wa : Int64) (yb : Int64) (wb : Int64) (yc : Int64) (wc : Int64) (RR : List Value) (h0 : Heap) (n0 : Nat) (v : Option Value) (h : Heap) (L : List Loc) : Prop := v = some (.int (own_lb3 ya yb yc vb)) ∧ Fr n0 L ∧ h = h0
set_option maxRecDepth 65536 in
set_option maxHeartbeats 40000000 in
theorem own_rm_lb3 (l : Launch) (Z : State) (a0 : Array Value) (hw : ∀ d ∈ tables_1, d.before a0 Z = true) (ws : List Jvm.Cond) (oa : Addr) (vb : Int64) (oz : Addr) (kz : ClassId) (NN : Int32) (HA : Int64) (HB : Int64) (yp : Int64) (wp : Int64) (ya : Int64) (wa : Int64) (yb : Int64) (wb : Int64) (yc : Int64) (wc : Int64) (RR : List Value) (h0 : Heap) (n0 : Nat) (Z0 : n0 ≤ h0.size) (F_oa_cells : Fld Z h0 oa own_k0 "cells" "[J" (.ref oz)) (V_oz : Arv Z h0 oz kz .long NN ((.long HA) :: (.long HB) :: (.long yp) :: (.long wp) :: (.long ya) :: (.long wa) :: (.long yb) :: (.long wb) :: (.long yc) :: (.long wc) :: RR) (.long 0)) (hN : (8 : Int32) < NN) :
    MetFree l own_y6 (head1 (Jvm.Cond.code own_y6 prog_4_method_12_code 8 (some .int) :: ws) ({ frames := 0, cells := 0, slots := 0, locals := 0 } : Room)) (fun a U => a = #[(.ref oa), (.int 4), (.int 3), (.long vb)] ∧ Z.Warmed39 U.vm ∧ U.heap = h0) (fun _ _ _ _ _ => True) (fun _ U o U' => ∃ v L, o = .returned v ∧ own_Q_lb3 Z oa vb oz kz NN HA HB yp wp ya wa yb wb yc wc RR h0 n0 v U'.heap L ∧ FrameEnd U o U' L ({ frames := 0, cells := 0, slots := 0, locals := 0 } : Room).cells ({ frames := 0, cells := 0, slots := 0, locals := 0 } : Room).slots) := by
  refine MetFree.of_bodySF (plainFor_of_name own_pn0) hisR ?_
  intro p e s m args below meth c s₁ Bd hml0 hP hK
  obtain ⟨rfl, hZ, hh⟩ := hP
  have hx := Bd.exec
  have hby := Bd.bytes
  have hml : c.maxLocals = 8 := hml0
  have hown : s.vm.findClass own_k0 = some m.cls := findClass_of_methodNamed Bd.named
  have hnm := (name_of_methodNamed Bd.named Bd.method).1
  have X0 : Stand p l e ({ frames := 0, cells := 0, slots := 0, locals := 0 } : Room) s m #[(.ref oa), (.int 4), (.int 3), (.long vb)] below meth c s₁ [] 0 0 := Stand.of_body Bd
  have e0 : s₁.heap = h0 := by rw [← hh, Bd.state]; rfl
  have N0 := Fr.nil n0
  show own_Fin p e below s (own_Q_lb3 Z oa vb oz kz NN HA HB yp wp ya wa yb wb yc wc RR h0 n0) ({ frames := 0, cells := 0, slots := 0, locals := 0 } : Room).cells ({ frames := 0, cells := 0, slots := 0, locals := 0 } : Room).slots (s₁.setTop (entryFrame m #[(.ref oa), (.int 4), (.int 3), (.long vb)] 8))
  refine own_Fin.go (fun t k => castTop (own_ef_lb3 m oa vb) k) ?_
  refine own_Fin.go (fun t k => XS.iconst X0.here hx rfl (hb hby d6_0) (XS.istore X0.here hx rfl (hb hby d6_1) rfl (l' := #[rv oa, iv 4, iv 3, jv vb, sS, iv 0, uS, uS]) rfl (XS.iloadN X0.here hx rfl (hb hby d6_3) rfl (XS.istore X0.here hx rfl (hb hby d6_4) rfl (l' := #[rv oa, iv 4, iv 3, jv vb, sS, iv 0, iv 3, uS]) rfl k)))) ?_
  refine own_Fin.go (fun t k => XS.iload X0.here hx rfl (hb hby d6_6) rfl k) ?_
  show own_Fin _ _ _ _ _ _ _ (s₁.setTop (mkF m 8 #[rv oa, iv 4, iv 3, jv vb, sS, iv 0, iv 3, uS] [(.int 0)]))
  refine own_Fin.go (fun t k => XS.iload X0.here hx rfl (hb hby d6_8) rfl (XS.icmpNo X0.here hx rfl (hb hby d6_10) rfl (by decide) (XS.iload X0.here hx rfl (hb hby d6_13) rfl (XS.iload X0.here hx rfl (hb hby d6_15) rfl k)))) ?_
  refine own_Fin.go (fun t k => XS.iadd X0.here hx rfl (hb hby d6_17) rfl k) ?_
  show own_Fin _ _ _ _ _ _ _ (s₁.setTop (mkF m 18 #[rv oa, iv 4, iv 3, jv vb, sS, iv 0, iv 3, uS] [(.int ((0 : Int32) + (3 : Int32)))]))
  rw [show ((0 : Int32) + (3 : Int32)) = (3 : Int32) from by decide +kernel]
  refine own_Fin.go (fun t k => XS.iconst X0.here hx rfl (hb hby d6_18) (XS.iushr X0.here hx rfl (hb hby d6_19) rfl k)) ?_
  show own_Fin _ _ _ _ _ _ _ (s₁.setTop (mkF m 20 #[rv oa, iv 4, iv 3, jv vb, sS, iv 0, iv 3, uS] [(.int (((3 : Int32).toUInt32 >>> ((1 : Int32) &&& 31).toUInt32).toInt32))]))
  rw [show (((3 : Int32).toUInt32 >>> ((1 : Int32) &&& 31).toUInt32).toInt32) = (1 : Int32) from by decide +kernel]
  refine own_Fin.go (fun t k => XS.istore X0.here hx rfl (hb hby d6_20) rfl (l' := #[rv oa, iv 4, iv 3, jv vb, sS, iv 0, iv 3, iv 1]) rfl (XS.aloadN X0.here hx rfl (hb hby d6_22) rfl rfl k)) ?_
  refine own_gF X0 hx hZ hown (own_W hw 39 rfl) e0 F_oa_cells rfl rfl (hb hby d6_23) ?_
  intro T2 X2 e2
  refine own_Fin.go (fun t k => XS.iloadN X2.here hx rfl (hb hby d6_26) rfl (XS.iconst X2.here hx rfl (hb hby d6_27) (XS.iload X2.here hx rfl (hb hby d6_28) rfl (XS.imul X2.here hx rfl (hb hby d6_30) rfl k)))) ?_
  show own_Fin _ _ _ _ _ _ _ (T2.setTop (mkF m 31 #[rv oa, iv 4, iv 3, jv vb, sS, iv 0, iv 3, iv 1] [(.int ((2 : Int32) * (1 : Int32))), (.int 4), (.ref oz)]))
  rw [show ((2 : Int32) * (1 : Int32)) = (2 : Int32) from by decide +kernel]
  refine own_Fin.go (fun t k => XS.iadd X2.here hx rfl (hb hby d6_31) rfl k) ?_
  show own_Fin _ _ _ _ _ _ _ (T2.setTop (mkF m 32 #[rv oa, iv 4, iv 3, jv vb, sS, iv 0, iv 3, iv 1] [(.int ((4 : Int32) + (2 : Int32))), (.ref oz)]))
  rw [show ((4 : Int32) + (2 : Int32)) = (6 : Int32) from by decide +kernel]
  refine own_lal X2 hx hZ e2 V_oz ⟨by decide, Int32.lt_of_le_of_lt (by decide) hN⟩ (v := yb) rfl rfl rfl (hb hby d6_32) ?_
  refine own_Fin.go (fun t k => XS.lloadN X2.here hx rfl (hb hby d6_33) rfl (XS.lcmp X2.here hx rfl (hb hby d6_34) rfl k)) ?_
  by_cases hc35_4 : yb < vb
  · refine own_Fin.go (fun t k => XS.ifNo X2.here hx rfl (hb hby d6_35) rfl (Jvm.Free.XT.ll_ge_f hc35_4) k) ?_
    show own_Fin _ _ _ _ _ _ _ (T2.setTop (mkF m 38 #[rv oa, iv 4, iv 3, jv vb, sS, iv 0, iv 3, iv 1] []))
    refine own_Fin.go (fun t k => XS.iload X2.here hx rfl (hb hby d6_38) rfl (XS.iconst X2.here hx rfl (hb hby d6_40) (XS.iadd X2.here hx rfl (hb hby d6_41) rfl k))) ?_
    show own_Fin _ _ _ _ _ _ _ (T2.setTop (mkF m 42 #[rv oa, iv 4, iv 3, jv vb, sS, iv 0, iv 3, iv 1] [(.int ((1 : Int32) + (1 : Int32)))]))
    rw [show ((1 : Int32) + (1 : Int32)) = (2 : Int32) from by decide +kernel]
    refine own_Fin.go (fun t k => XS.istore X2.here hx rfl (hb hby d6_42) rfl (l' := #[rv oa, iv 4, iv 3, jv vb, sS, iv 2, iv 3, iv 1]) rfl (XS.goto X2.here hx rfl (pc0 := 44) (pc' := 51) rfl (hb hby d6_44) (by decide) (by decide) (XS.goto X2.here hx rfl (pc0 := 51) (pc' := 6) rfl (hb hby d6_51) (by decide) (by decide) (XS.iload X2.here hx rfl (hb hby d6_6) rfl k)))) ?_
    refine own_Fin.go (fun t k => XS.iload X2.here hx rfl (hb hby d6_8) rfl k) ?_
    show own_Fin _ _ _ _ _ _ _ (T2.setTop (mkF m 10 #[rv oa, iv 4, iv 3, jv vb, sS, iv 2, iv 3, iv 1] [(.int 3), (.int 2)]))
    refine own_Fin.go (fun t k => XS.icmpNo X2.here hx rfl (hb hby d6_10) rfl (by decide) (XS.iload X2.here hx rfl (hb hby d6_13) rfl (XS.iload X2.here hx rfl (hb hby d6_15) rfl (XS.iadd X2.here hx rfl (hb hby d6_17) rfl k)))) ?_
    show own_Fin _ _ _ _ _ _ _ (T2.setTop (mkF m 18 #[rv oa, iv 4, iv 3, jv vb, sS, iv 2, iv 3, iv 1] [(.int ((2 : Int32) + (3 : Int32)))]))
    rw [show ((2 : Int32) + (3 : Int32)) = (5 : Int32) from by decide +kernel]
    refine own_Fin.go (fun t k => XS.iconst X2.here hx rfl (hb hby d6_18) (XS.iushr X2.here hx rfl (hb hby d6_19) rfl k)) ?_
    show own_Fin _ _ _ _ _ _ _ (T2.setTop (mkF m 20 #[rv oa, iv 4, iv 3, jv vb, sS, iv 2, iv 3, iv 1] [(.int (((5 : Int32).toUInt32 >>> ((1 : Int32) &&& 31).toUInt32).toInt32))]))
    rw [show (((5 : Int32).toUInt32 >>> ((1 : Int32) &&& 31).toUInt32).toInt32) = (2 : Int32) from by decide +kernel]
    refine own_Fin.go (fun t k => XS.istore X2.here hx rfl (hb hby d6_20) rfl (l' := #[rv oa, iv 4, iv 3, jv vb, sS, iv 2, iv 3, iv 2]) rfl (XS.aloadN X2.here hx rfl (hb hby d6_22) rfl rfl k)) ?_
    refine own_gF X2 hx hZ hown (own_W hw 39 rfl) e2 F_oa_cells rfl rfl (hb hby d6_23) ?_
    intro T6 X6 e6
    refine own_Fin.go (fun t k => XS.iloadN X6.here hx rfl (hb hby d6_26) rfl (XS.iconst X6.here hx rfl (hb hby d6_27) (XS.iload X6.here hx rfl (hb hby d6_28) rfl (XS.imul X6.here hx rfl (hb hby d6_30) rfl k)))) ?_
    show own_Fin _ _ _ _ _ _ _ (T6.setTop (mkF m 31 #[rv oa, iv 4, iv 3, jv vb, sS, iv 2, iv 3, iv 2] [(.int ((2 : Int32) * (2 : Int32))), (.int 4), (.ref oz)]))
    rw [show ((2 : Int32) * (2 : Int32)) = (4 : Int32) from by decide +kernel]
    refine own_Fin.go (fun t k => XS.iadd X6.here hx rfl (hb hby d6_31) rfl k) ?_
    show own_Fin _ _ _ _ _ _ _ (T6.setTop (mkF m 32 #[rv oa, iv 4, iv 3, jv vb, sS, iv 2, iv 3, iv 2] [(.int ((4 : Int32) + (4 : Int32))), (.ref oz)]))
    rw [show ((4 : Int32) + (4 : Int32)) = (8 : Int32) from by decide +kernel]
    refine own_lal X6 hx hZ e6 V_oz ⟨by decide, Int32.lt_of_le_of_lt (by decide) hN⟩ (v := yc) rfl rfl rfl (hb hby d6_32) ?_
    refine own_Fin.go (fun t k => XS.lloadN X6.here hx rfl (hb hby d6_33) rfl (XS.lcmp X6.here hx rfl (hb hby d6_34) rfl k)) ?_
    by_cases hc35_8 : yc < vb
    · refine own_Fin.go (fun t k => XS.ifNo X6.here hx rfl (hb hby d6_35) rfl (Jvm.Free.XT.ll_ge_f hc35_8) k) ?_
      show own_Fin _ _ _ _ _ _ _ (T6.setTop (mkF m 38 #[rv oa, iv 4, iv 3, jv vb, sS, iv 2, iv 3, iv 2] []))
      refine own_Fin.go (fun t k => XS.iload X6.here hx rfl (hb hby d6_38) rfl (XS.iconst X6.here hx rfl (hb hby d6_40) (XS.iadd X6.here hx rfl (hb hby d6_41) rfl k))) ?_
      show own_Fin _ _ _ _ _ _ _ (T6.setTop (mkF m 42 #[rv oa, iv 4, iv 3, jv vb, sS, iv 2, iv 3, iv 2] [(.int ((2 : Int32) + (1 : Int32)))]))
      rw [show ((2 : Int32) + (1 : Int32)) = (3 : Int32) from by decide +kernel]
      refine own_Fin.go (fun t k => XS.istore X6.here hx rfl (hb hby d6_42) rfl (l' := #[rv oa, iv 4, iv 3, jv vb, sS, iv 3, iv 3, iv 2]) rfl (XS.goto X6.here hx rfl (pc0 := 44) (pc' := 51) rfl (hb hby d6_44) (by decide) (by decide) (XS.goto X6.here hx rfl (pc0 := 51) (pc' := 6) rfl (hb hby d6_51) (by decide) (by decide) (XS.iload X6.here hx rfl (hb hby d6_6) rfl k)))) ?_
      refine own_Fin.go (fun t k => XS.iload X6.here hx rfl (hb hby d6_8) rfl k) ?_
      show own_Fin _ _ _ _ _ _ _ (T6.setTop (mkF m 10 #[rv oa, iv 4, iv 3, jv vb, sS, iv 3, iv 3, iv 2] [(.int 3), (.int 3)]))
      refine own_Fin.go (fun t k => XS.icmpYes X6.here hx rfl (pc0 := 10) (pc' := 54) rfl (hb hby d6_10) rfl (by decide) (by decide) (by decide) (XS.iloadN X6.here hx rfl (hb hby d6_54) rfl (XS.iconst X6.here hx rfl (hb hby d6_55) (XS.iload X6.here hx rfl (hb hby d6_56) rfl k)))) ?_
      refine own_Fin.go (fun t k => XS.imul X6.here hx rfl (hb hby d6_58) rfl k) ?_
      show own_Fin _ _ _ _ _ _ _ (T6.setTop (mkF m 59 #[rv oa, iv 4, iv 3, jv vb, sS, iv 3, iv 3, iv 2] [(.int ((2 : Int32) * (3 : Int32))), (.int 4)]))
      rw [show ((2 : Int32) * (3 : Int32)) = (6 : Int32) from by decide +kernel]
      refine own_Fin.go (fun t k => XS.iadd X6.here hx rfl (hb hby d6_59) rfl k) ?_
      show own_Fin _ _ _ _ _ _ _ (T6.setTop (mkF m 60 #[rv oa, iv 4, iv 3, jv vb, sS, iv 3, iv 3, iv 2] [(.int ((4 : Int32) + (6 : Int32)))]))
      rw [show ((4 : Int32) + (6 : Int32)) = (10 : Int32) from by decide +kernel]
      refine own_retI X6 hx Bd.returns (hb hby d6_60) Bd.notSynchronized (by decide) (by decide) ?_
      rw [e6]
      exact ⟨by simp only [own_lb3, if_pos hc35_4, if_pos hc35_8], N0, rfl⟩
    · refine own_Fin.go (fun t k => XS.ifYes X6.here hx rfl (pc0 := 35) (pc' := 47) rfl (hb hby d6_35) rfl (Jvm.Free.XT.ll_ge_t hc35_8) (by decide) (by decide) k) ?_
      show own_Fin _ _ _ _ _ _ _ (T6.setTop (mkF m 47 #[rv oa, iv 4, iv 3, jv vb, sS, iv 2, iv 3, iv 2] []))
      refine own_Fin.go (fun t k => XS.iload X6.here hx rfl (hb hby d6_47) rfl (XS.istore X6.here hx rfl (hb hby d6_49) rfl (l' := #[rv oa, iv 4, iv 3, jv vb, sS, iv 2, iv 2, iv 2]) rfl (XS.goto X6.here hx rfl (pc0 := 51) (pc' := 6) rfl (hb hby d6_51) (by decide) (by decide) (XS.iload X6.here hx rfl (hb hby d6_6) rfl k)))) ?_
      refine own_Fin.go (fun t k => XS.iload X6.here hx rfl (hb hby d6_8) rfl k) ?_
      show own_Fin _ _ _ _ _ _ _ (T6.setTop (mkF m 10 #[rv oa, iv 4, iv 3, jv vb, sS, iv 2, iv 2, iv 2] [(.int 2), (.int 2)]))
      refine own_Fin.go (fun t k => XS.icmpYes X6.here hx rfl (pc0 := 10) (pc' := 54) rfl (hb hby d6_10) rfl (by decide) (by decide) (by decide) (XS.iloadN X6.here hx rfl (hb hby d6_54) rfl (XS.iconst X6.here hx rfl (hb hby d6_55) (XS.iload X6.here hx rfl (hb hby d6_56) rfl k)))) ?_
      refine own_Fin.go (fun t k => XS.imul X6.here hx rfl (hb hby d6_58) rfl k) ?_
      show own_Fin _ _ _ _ _ _ _ (T6.setTop (mkF m 59 #[rv oa, iv 4, iv 3, jv vb, sS, iv 2, iv 2, iv 2] [(.int ((2 : Int32) * (2 : Int32))), (.int 4)]))
      rw [show ((2 : Int32) * (2 : Int32)) = (4 : Int32) from by decide +kernel]
      refine own_Fin.go (fun t k => XS.iadd X6.here hx rfl (hb hby d6_59) rfl k) ?_
      show own_Fin _ _ _ _ _ _ _ (T6.setTop (mkF m 60 #[rv oa, iv 4, iv 3, jv vb, sS, iv 2, iv 2, iv 2] [(.int ((4 : Int32) + (4 : Int32)))]))
      rw [show ((4 : Int32) + (4 : Int32)) = (8 : Int32) from by decide +kernel]
      refine own_retI X6 hx Bd.returns (hb hby d6_60) Bd.notSynchronized (by decide) (by decide) ?_
      rw [e6]
      exact ⟨by simp only [own_lb3, if_pos hc35_4, if_neg hc35_8], N0, rfl⟩
  · refine own_Fin.go (fun t k => XS.ifYes X2.here hx rfl (pc0 := 35) (pc' := 47) rfl (hb hby d6_35) rfl (Jvm.Free.XT.ll_ge_t hc35_4) (by decide) (by decide) k) ?_
    show own_Fin _ _ _ _ _ _ _ (T2.setTop (mkF m 47 #[rv oa, iv 4, iv 3, jv vb, sS, iv 0, iv 3, iv 1] []))
    refine own_Fin.go (fun t k => XS.iload X2.here hx rfl (hb hby d6_47) rfl (XS.istore X2.here hx rfl (hb hby d6_49) rfl (l' := #[rv oa, iv 4, iv 3, jv vb, sS, iv 0, iv 1, iv 1]) rfl (XS.goto X2.here hx rfl (pc0 := 51) (pc' := 6) rfl (hb hby d6_51) (by decide) (by decide) (XS.iload X2.here hx rfl (hb hby d6_6) rfl k)))) ?_
    refine own_Fin.go (fun t k => XS.iload X2.here hx rfl (hb hby d6_8) rfl k) ?_
    show own_Fin _ _ _ _ _ _ _ (T2.setTop (mkF m 10 #[rv oa, iv 4, iv 3, jv vb, sS, iv 0, iv 1, iv 1] [(.int 1), (.int 0)]))
    refine own_Fin.go (fun t k => XS.icmpNo X2.here hx rfl (hb hby d6_10) rfl (by decide) (XS.iload X2.here hx rfl (hb hby d6_13) rfl (XS.iload X2.here hx rfl (hb hby d6_15) rfl (XS.iadd X2.here hx rfl (hb hby d6_17) rfl k)))) ?_
    show own_Fin _ _ _ _ _ _ _ (T2.setTop (mkF m 18 #[rv oa, iv 4, iv 3, jv vb, sS, iv 0, iv 1, iv 1] [(.int ((0 : Int32) + (1 : Int32)))]))
    rw [show ((0 : Int32) + (1 : Int32)) = (1 : Int32) from by decide +kernel]
    refine own_Fin.go (fun t k => XS.iconst X2.here hx rfl (hb hby d6_18) (XS.iushr X2.here hx rfl (hb hby d6_19) rfl k)) ?_
    show own_Fin _ _ _ _ _ _ _ (T2.setTop (mkF m 20 #[rv oa, iv 4, iv 3, jv vb, sS, iv 0, iv 1, iv 1] [(.int (((1 : Int32).toUInt32 >>> ((1 : Int32) &&& 31).toUInt32).toInt32))]))
    rw [show (((1 : Int32).toUInt32 >>> ((1 : Int32) &&& 31).toUInt32).toInt32) = (0 : Int32) from by decide +kernel]
    refine own_Fin.go (fun t k => XS.istore X2.here hx rfl (hb hby d6_20) rfl (l' := #[rv oa, iv 4, iv 3, jv vb, sS, iv 0, iv 1, iv 0]) rfl (XS.aloadN X2.here hx rfl (hb hby d6_22) rfl rfl k)) ?_
    refine own_gF X2 hx hZ hown (own_W hw 39 rfl) e2 F_oa_cells rfl rfl (hb hby d6_23) ?_
    intro T12 X12 e12
    refine own_Fin.go (fun t k => XS.iloadN X12.here hx rfl (hb hby d6_26) rfl (XS.iconst X12.here hx rfl (hb hby d6_27) (XS.iload X12.here hx rfl (hb hby d6_28) rfl (XS.imul X12.here hx rfl (hb hby d6_30) rfl k)))) ?_
    show own_Fin _ _ _ _ _ _ _ (T12.setTop (mkF m 31 #[rv oa, iv 4, iv 3, jv vb, sS, iv 0, iv 1, iv 0] [(.int ((2 : Int32) * (0 : Int32))), (.int 4), (.ref oz)]))
    rw [show ((2 : Int32) * (0 : Int32)) = (0 : Int32) from by decide +kernel]
    refine own_Fin.go (fun t k => XS.iadd X12.here hx rfl (hb hby d6_31) rfl k) ?_
    show own_Fin _ _ _ _ _ _ _ (T12.setTop (mkF m 32 #[rv oa, iv 4, iv 3, jv vb, sS, iv 0, iv 1, iv 0] [(.int ((4 : Int32) + (0 : Int32))), (.ref oz)]))
    rw [show ((4 : Int32) + (0 : Int32)) = (4 : Int32) from by decide +kernel]
    refine own_lal X12 hx hZ e12 V_oz ⟨by decide, Int32.lt_of_le_of_lt (by decide) hN⟩ (v := ya) rfl rfl rfl (hb hby d6_32) ?_
    refine own_Fin.go (fun t k => XS.lloadN X12.here hx rfl (hb hby d6_33) rfl (XS.lcmp X12.here hx rfl (hb hby d6_34) rfl k)) ?_
    by_cases hc35_14 : ya < vb
    · refine own_Fin.go (fun t k => XS.ifNo X12.here hx rfl (hb hby d6_35) rfl (Jvm.Free.XT.ll_ge_f hc35_14) k) ?_
      show own_Fin _ _ _ _ _ _ _ (T12.setTop (mkF m 38 #[rv oa, iv 4, iv 3, jv vb, sS, iv 0, iv 1, iv 0] []))
      refine own_Fin.go (fun t k => XS.iload X12.here hx rfl (hb hby d6_38) rfl (XS.iconst X12.here hx rfl (hb hby d6_40) (XS.iadd X12.here hx rfl (hb hby d6_41) rfl k))) ?_
      show own_Fin _ _ _ _ _ _ _ (T12.setTop (mkF m 42 #[rv oa, iv 4, iv 3, jv vb, sS, iv 0, iv 1, iv 0] [(.int ((0 : Int32) + (1 : Int32)))]))
      rw [show ((0 : Int32) + (1 : Int32)) = (1 : Int32) from by decide +kernel]
      refine own_Fin.go (fun t k => XS.istore X12.here hx rfl (hb hby d6_42) rfl (l' := #[rv oa, iv 4, iv 3, jv vb, sS, iv 1, iv 1, iv 0]) rfl (XS.goto X12.here hx rfl (pc0 := 44) (pc' := 51) rfl (hb hby d6_44) (by decide) (by decide) (XS.goto X12.here hx rfl (pc0 := 51) (pc' := 6) rfl (hb hby d6_51) (by decide) (by decide) (XS.iload X12.here hx rfl (hb hby d6_6) rfl k)))) ?_
      refine own_Fin.go (fun t k => XS.iload X12.here hx rfl (hb hby d6_8) rfl k) ?_
      show own_Fin _ _ _ _ _ _ _ (T12.setTop (mkF m 10 #[rv oa, iv 4, iv 3, jv vb, sS, iv 1, iv 1, iv 0] [(.int 1), (.int 1)]))
      refine own_Fin.go (fun t k => XS.icmpYes X12.here hx rfl (pc0 := 10) (pc' := 54) rfl (hb hby d6_10) rfl (by decide) (by decide) (by decide) (XS.iloadN X12.here hx rfl (hb hby d6_54) rfl (XS.iconst X12.here hx rfl (hb hby d6_55) (XS.iload X12.here hx rfl (hb hby d6_56) rfl k)))) ?_
      refine own_Fin.go (fun t k => XS.imul X12.here hx rfl (hb hby d6_58) rfl k) ?_
      show own_Fin _ _ _ _ _ _ _ (T12.setTop (mkF m 59 #[rv oa, iv 4, iv 3, jv vb, sS, iv 1, iv 1, iv 0] [(.int ((2 : Int32) * (1 : Int32))), (.int 4)]))
      rw [show ((2 : Int32) * (1 : Int32)) = (2 : Int32) from by decide +kernel]
      refine own_Fin.go (fun t k => XS.iadd X12.here hx rfl (hb hby d6_59) rfl k) ?_
      show own_Fin _ _ _ _ _ _ _ (T12.setTop (mkF m 60 #[rv oa, iv 4, iv 3, jv vb, sS, iv 1, iv 1, iv 0] [(.int ((4 : Int32) + (2 : Int32)))]))
      rw [show ((4 : Int32) + (2 : Int32)) = (6 : Int32) from by decide +kernel]
      refine own_retI X12 hx Bd.returns (hb hby d6_60) Bd.notSynchronized (by decide) (by decide) ?_
      rw [e12]
      exact ⟨by simp only [own_lb3, if_neg hc35_4, if_pos hc35_14], N0, rfl⟩
    · refine own_Fin.go (fun t k => XS.ifYes X12.here hx rfl (pc0 := 35) (pc' := 47) rfl (hb hby d6_35) rfl (Jvm.Free.XT.ll_ge_t hc35_14) (by decide) (by decide) k) ?_
      show own_Fin _ _ _ _ _ _ _ (T12.setTop (mkF m 47 #[rv oa, iv 4, iv 3, jv vb, sS, iv 0, iv 1, iv 0] []))
      refine own_Fin.go (fun t k => XS.iload X12.here hx rfl (hb hby d6_47) rfl (XS.istore X12.here hx rfl (hb hby d6_49) rfl (l' := #[rv oa, iv 4, iv 3, jv vb, sS, iv 0, iv 0, iv 0]) rfl (XS.goto X12.here hx rfl (pc0 := 51) (pc' := 6) rfl (hb hby d6_51) (by decide) (by decide) (XS.iload X12.here hx rfl (hb hby d6_6) rfl k)))) ?_
      refine own_Fin.go (fun t k => XS.iload X12.here hx rfl (hb hby d6_8) rfl k) ?_
      show own_Fin _ _ _ _ _ _ _ (T12.setTop (mkF m 10 #[rv oa, iv 4, iv 3, jv vb, sS, iv 0, iv 0, iv 0] [(.int 0), (.int 0)]))
      refine own_Fin.go (fun t k => XS.icmpYes X12.here hx rfl (pc0 := 10) (pc' := 54) rfl (hb hby d6_10) rfl (by decide) (by decide) (by decide) (XS.iloadN X12.here hx rfl (hb hby d6_54) rfl (XS.iconst X12.here hx rfl (hb hby d6_55) (XS.iload X12.here hx rfl (hb hby d6_56) rfl k)))) ?_
      refine own_Fin.go (fun t k => XS.imul X12.here hx rfl (hb hby d6_58) rfl k) ?_
      show own_Fin _ _ _ _ _ _ _ (T12.setTop (mkF m 59 #[rv oa, iv 4, iv 3, jv vb, sS, iv 0, iv 0, iv 0] [(.int ((2 : Int32) * (0 : Int32))), (.int 4)]))
      rw [show ((2 : Int32) * (0 : Int32)) = (0 : Int32) from by decide +kernel]
      refine own_Fin.go (fun t k => XS.iadd X12.here hx rfl (hb hby d6_59) rfl k) ?_
      show own_Fin _ _ _ _ _ _ _ (T12.setTop (mkF m 60 #[rv oa, iv 4, iv 3, jv vb, sS, iv 0, iv 0, iv 0] [(.int ((4 : Int32) + (0 : Int32)))]))
      rw [show ((4 : Int32) + (0 : Int32)) = (4 : Int32) from by decide +kernel]
      refine own_retI X12 hx Bd.returns (hb hby d6_60) Bd.notSynchronized (by decide) (by decide) ?_
      rw [e12]
      exact ⟨by simp only [own_lb3, if_neg hc35_4, if_neg hc35_14], N0, rfl⟩
theorem own_ef_ix3 (m : MethodId) (oa : Addr) (vb : Int64) : entryFrame m #[(.ref oa), (.int 1), (.long vb)] 4 = mkF m 0 #[rv oa, iv 1, jv vb, sS] [] := by first | (simp [entryFrame, mkF, argsToLocals, Value.category]; done) | rfl
def own_Q_ix3 (Z : State) (oa : Addr) (vb : Int64) (oz : Addr) (kz : ClassId) (NN : Int32) (HA : Int64) (HB : Int64) (yp : Int64) (wp : Int64) (ya : Int64) (wa : Int64) (yb : Int64) (wb : Int64) (yc : Int64) (wc : Int64) (RR : List Value) (h0 : Heap) (n0 : Nat) (v : Option Value) (h : Heap) (L : List Loc) : Prop := v = some (.int (own_lb3 ya yb yc vb)) ∧ Fr n0 L ∧ h = h0
set_option maxRecDepth 65536 in
set_option maxHeartbeats 40000000 in
theorem own_rm_ix3 (l : Launch) (Z : State) (a0 : Array Value) (hw : ∀ d ∈ tables_1, d.before a0 Z = true) (ws : List Jvm.Cond) (oa : Addr) (vb : Int64) (oz : Addr) (kz : ClassId) (NN : Int32) (HA : Int64) (HB : Int64) (yp : Int64) (wp : Int64) (ya : Int64) (wa : Int64) (yb : Int64) (wb : Int64) (yc : Int64) (wc : Int64) (RR : List Value) (h0 : Heap) (n0 : Nat) (Z0 : n0 ≤ h0.size) (E_oa : Exa Z h0 oa own_k0) (F_oa_cells : Fld Z h0 oa own_k0 "cells" "[J" (.ref oz)) (V_oz : Arv Z h0 oz kz .long NN ((.long HA) :: (.long HB) :: (.long yp) :: (.long wp) :: (.long ya) :: (.long wa) :: (.long yb) :: (.long wb) :: (.long yc) :: (.long wc) :: RR) (.long 0)) (hN : (8 : Int32) < NN) (hs : own_stb HA = 4) (hl : own_lenb HA = 3) :
    MetFree l own_y7 (head1 (Jvm.Cond.code own_y7 prog_4_method_11_code 4 (some .int) :: ws) ({ frames := 3, cells := 0, slots := 0, locals := 40 } : Room)) (fun a U => a = #[(.ref oa), (.int 1), (.long vb)] ∧ Z.Warmed39 U.vm ∧ U.heap = h0) (fun _ _ _ _ _ => True) (fun _ U o U' => ∃ v L, o = .returned v ∧ own_Q_ix3 Z oa vb oz kz NN HA HB yp wp ya wa yb wb yc wc RR h0 n0 v U'.heap L ∧ FrameEnd U o U' L ({ frames := 3, cells := 0, slots := 0, locals := 40 } : Room).cells ({ frames := 3, cells := 0, slots := 0, locals := 40 } : Room).slots) := by
  refine MetFree.of_bodySF (plainFor_of_name own_pn0) hisR ?_
  intro p e s m args below meth c s₁ Bd hml0 hP hK
  obtain ⟨rfl, hZ, hh⟩ := hP
  have hx := Bd.exec
  have hby := Bd.bytes
  have hml : c.maxLocals = 4 := hml0
  have hown : s.vm.findClass own_k0 = some m.cls := findClass_of_methodNamed Bd.named
  have hnm := (name_of_methodNamed Bd.named Bd.method).1
  have X0 : Stand p l e ({ frames := 3, cells := 0, slots := 0, locals := 40 } : Room) s m #[(.ref oa), (.int 1), (.long vb)] below meth c s₁ [] 0 0 := Stand.of_body Bd
  have e0 : s₁.heap = h0 := by rw [← hh, Bd.state]; rfl
  have N0 := Fr.nil n0
  show own_Fin p e below s (own_Q_ix3 Z oa vb oz kz NN HA HB yp wp ya wa yb wb yc wc RR h0 n0) ({ frames := 3, cells := 0, slots := 0, locals := 40 } : Room).cells ({ frames := 3, cells := 0, slots := 0, locals := 40 } : Room).slots (s₁.setTop (entryFrame m #[(.ref oa), (.int 1), (.long vb)] 4))
  refine own_Fin.go (fun t k => castTop (own_ef_ix3 m oa vb) k) ?_
  refine own_Fin.go (fun t k => XS.aloadN X0.here hx rfl (hb hby d4_0) rfl rfl (XS.aloadN X0.here hx rfl (hb hby d4_1) rfl rfl (XS.iloadN X0.here hx rfl (hb hby d4_2) rfl k))) ?_
  refine own_pC X0 hx hZ hown (own_W hw 58 rfl) (own_W hw 59 rfl) (own_W hw 48 rfl) rfl (own_W hw 60 rfl) (own_W hw 61 rfl) (own_W hw 17 rfl) (by decide) (own_rm_st1 l Z a0 hw [] oa oz kz NN HA HB ((.long yp) :: (.long wp) :: (.long ya) :: (.long wa) :: (.long yb) :: (.long wb) :: (.long yc) :: (.long wc) :: RR) h0 n0 Z0 E_oa F_oa_cells V_oz (Int32.lt_of_le_of_lt (by decide) hN)) 1 (by decide) (by decide) e0 E_oa rfl (by rw [hml]; rfl) [(.int 1)] (lenOf own_pd1 rfl) rfl (Nat.le_of_eq rfl) (hb hby d4_3) rfl (by decide) (by decide) ?_
  rintro T1 Lc1 _ X1 ⟨rfl, N1q, e1⟩
  have N1 := Fr.app N0 N1q
  show own_Fin _ _ _ _ _ _ _ (T1.setTop (mkF m 6 #[rv oa, iv 1, jv vb, sS] [(.int (own_stb HA)), (.ref oa)]))
  rw [hs]
  refine own_Fin.go (fun t k => XS.aloadN X1.here hx rfl (hb hby d4_6) rfl rfl (XS.iloadN X1.here hx rfl (hb hby d4_7) rfl k)) ?_
  refine own_pC X1 hx hZ hown (own_W hw 70 rfl) (own_W hw 71 rfl) (own_W hw 48 rfl) rfl (own_W hw 72 rfl) (own_W hw 73 rfl) (own_W hw 17 rfl) (by decide) (own_rm_len1 l Z a0 hw [] oa oz kz NN HA HB ((.long yp) :: (.long wp) :: (.long ya) :: (.long wa) :: (.long yb) :: (.long wb) :: (.long yc) :: (.long wc) :: RR) h0 n0 Z0 F_oa_cells V_oz (Int32.lt_of_le_of_lt (by decide) hN)) 2 (by decide) (by decide) e1 E_oa rfl (by rw [hml]; rfl) [(.int 1)] (lenOf own_pd1 rfl) rfl (Nat.le_of_eq rfl) (hb hby d4_8) rfl (by decide) (by decide) ?_
  rintro T2 Lc2 _ X2 ⟨rfl, N2q, e2⟩
  have N2 := Fr.app N1 N2q
  show own_Fin _ _ _ _ _ _ _ (T2.setTop (mkF m 11 #[rv oa, iv 1, jv vb, sS] [(.int (own_lenb HA)), (.int 4), (.ref oa)]))
  rw [hl]
  refine own_Fin.go (fun t k => XS.lloadN X2.here hx rfl (hb hby d4_11) rfl k) ?_
  refine own_pC X2 hx hZ hown (own_W hw 75 rfl) (own_W hw 76 rfl) (own_W hw 48 rfl) rfl (own_W hw 77 rfl) (own_W hw 78 rfl) (own_W hw 17 rfl) (by decide) (own_rm_lb3 l Z a0 hw [] oa vb oz kz NN HA HB yp wp ya wa yb wb yc wc RR h0 n0 Z0 F_oa_cells V_oz (by assumption)) 0 (by decide) (by decide) e2 E_oa rfl (by rw [hml]; rfl) [(.int 4), (.int 3), (.long vb)] (lenOf own_pd2 rfl) rfl (Nat.le_of_eq rfl) (hb hby d4_12) rfl (by decide) (by decide) ?_
  rintro T3 Lc3 _ X3 ⟨rfl, N3q, e3⟩
  have N3 := Fr.app N2 N3q
  show own_Fin _ _ _ _ _ _ _ (T3.setTop (mkF m 15 #[rv oa, iv 1, jv vb, sS] [(.int (own_lb3 ya yb yc vb))]))
  refine own_retI X3 hx Bd.returns (hb hby d4_15) Bd.notSynchronized (by decide) (by decide) ?_
  rw [e3]
  exact ⟨rfl, N3, rfl⟩
theorem own_ef_iz0 (m : MethodId) (oa : Addr) (vb : Int64) : entryFrame m #[(.ref oa), (.int 0), (.long vb)] 4 = mkF m 0 #[rv oa, iv 0, jv vb, sS] [] := by first | (simp [entryFrame, mkF, argsToLocals, Value.category]; done) | rfl
def own_Q_iz0 (Z : State) (oa : Addr) (vb : Int64) (oz : Addr) (kz : ClassId) (NN : Int32) (HA : Int64) (HB : Int64) (RR : List Value) (h0 : Heap) (n0 : Nat) (v : Option Value) (h : Heap) (L : List Loc) : Prop := v = some (.int (own_ixa HA)) ∧ Fr n0 L ∧ h = h0
set_option maxRecDepth 65536 in
set_option maxHeartbeats 40000000 in
theorem own_rm_iz0 (l : Launch) (Z : State) (a0 : Array Value) (hw : ∀ d ∈ tables_1, d.before a0 Z = true) (ws : List Jvm.Cond) (oa : Addr) (vb : Int64) (oz : Addr) (kz : ClassId) (NN : Int32) (HA : Int64) (HB : Int64) (RR : List Value) (h0 : Heap) (n0 : Nat) (Z0 : n0 ≤ h0.size) (E_oa : Exa Z h0 oa own_k0) (F_oa_cells : Fld Z h0 oa own_k0 "cells" "[J" (.ref oz)) (V_oz : Arv Z h0 oz kz .long NN ((.long HA) :: (.long HB) :: RR) (.long 0)) (hN : (1 : Int32) < NN) (hl : own_lena HA = 0) :
    MetFree l own_y7 (head1 (Jvm.Cond.code own_y7 prog_4_method_11_code 4 (some .int) :: ws) ({ frames := 3, cells := 0, slots := 0, locals := 40 } : Room)) (fun a U => a = #[(.ref oa), (.int 0), (.long vb)] ∧ Z.Warmed39 U.vm ∧ U.heap = h0) (fun _ _ _ _ _ => True) (fun _ U o U' => ∃ v L, o = .returned v ∧ own_Q_iz0 Z oa vb oz kz NN HA HB RR h0 n0 v U'.heap L ∧ FrameEnd U o U' L ({ frames := 3, cells := 0, slots := 0, locals := 40 } : Room).cells ({ frames := 3, cells := 0, slots := 0, locals := 40 } : Room).slots) := by
  refine MetFree.of_bodySF (plainFor_of_name own_pn0) hisR ?_
  intro p e s m args below meth c s₁ Bd hml0 hP hK
  obtain ⟨rfl, hZ, hh⟩ := hP
  have hx := Bd.exec
  have hby := Bd.bytes
  have hml : c.maxLocals = 4 := hml0
  have hown : s.vm.findClass own_k0 = some m.cls := findClass_of_methodNamed Bd.named
  have hnm := (name_of_methodNamed Bd.named Bd.method).1
  have X0 : Stand p l e ({ frames := 3, cells := 0, slots := 0, locals := 40 } : Room) s m #[(.ref oa), (.int 0), (.long vb)] below meth c s₁ [] 0 0 := Stand.of_body Bd
  have e0 : s₁.heap = h0 := by rw [← hh, Bd.state]; rfl
  have N0 := Fr.nil n0
  show own_Fin p e below s (own_Q_iz0 Z oa vb oz kz NN HA HB RR h0 n0) ({ frames := 3, cells := 0, slots := 0, locals := 40 } : Room).cells ({ frames := 3, cells := 0, slots := 0, locals := 40 } : Room).slots (s₁.setTop (entryFrame m #[(.ref oa), (.int 0), (.long vb)] 4))
  refine own_Fin.go (fun t k => castTop (own_ef_iz0 m oa vb) k) ?_
  refine own_Fin.go (fun t k => XS.aloadN X0.here hx rfl (hb hby d4_0) rfl rfl (XS.aloadN X0.here hx rfl (hb hby d4_1) rfl rfl (XS.iloadN X0.here hx rfl (hb hby d4_2) rfl k))) ?_
  refine own_pC X0 hx hZ hown (own_W hw 58 rfl) (own_W hw 59 rfl) (own_W hw 48 rfl) rfl (own_W hw 60 rfl) (own_W hw 61 rfl) (own_W hw 17 rfl) (by decide) (own_rm_st0 l Z a0 hw [] oa oz kz NN HA HB RR h0 n0 Z0 E_oa F_oa_cells V_oz (by assumption)) 1 (by decide) (by decide) e0 E_oa rfl (by rw [hml]; rfl) [(.int 0)] (lenOf own_pd1 rfl) rfl (Nat.le_of_eq rfl) (hb hby d4_3) rfl (by decide) (by decide) ?_
  rintro T1 Lc1 _ X1 ⟨rfl, N1q, e1⟩
  have N1 := Fr.app N0 N1q
  show own_Fin _ _ _ _ _ _ _ (T1.setTop (mkF m 6 #[rv oa, iv 0, jv vb, sS] [(.int (own_sta HA)), (.ref oa)]))
  refine own_Fin.go (fun t k => XS.aloadN X1.here hx rfl (hb hby d4_6) rfl rfl (XS.iloadN X1.here hx rfl (hb hby d4_7) rfl k)) ?_
  refine own_pC X1 hx hZ hown (own_W hw 70 rfl) (own_W hw 71 rfl) (own_W hw 48 rfl) rfl (own_W hw 72 rfl) (own_W hw 73 rfl) (own_W hw 17 rfl) (by decide) (own_rm_len0 l Z a0 hw [] oa oz kz NN HA HB RR h0 n0 Z0 F_oa_cells V_oz (by assumption)) 2 (by decide) (by decide) e1 E_oa rfl (by rw [hml]; rfl) [(.int 0)] (lenOf own_pd1 rfl) rfl (Nat.le_of_eq rfl) (hb hby d4_8) rfl (by decide) (by decide) ?_
  rintro T2 Lc2 _ X2 ⟨rfl, N2q, e2⟩
  have N2 := Fr.app N1 N2q
  show own_Fin _ _ _ _ _ _ _ (T2.setTop (mkF m 11 #[rv oa, iv 0, jv vb, sS] [(.int (own_lena HA)), (.int (own_sta HA)), (.ref oa)]))
  rw [hl]
  refine own_Fin.go (fun t k => XS.lloadN X2.here hx rfl (hb hby d4_11) rfl k) ?_
  refine own_pC X2 hx hZ hown (own_W hw 75 rfl) (own_W hw 76 rfl) (own_W hw 48 rfl) rfl (own_W hw 77 rfl) (own_W hw 78 rfl) (own_W hw 17 rfl) (by decide) (own_rm_lb0 l Z a0 hw [] oa (own_sta HA) vb  h0 n0 Z0 ) 0 (by decide) (by decide) e2 E_oa rfl (by rw [hml]; rfl) [(.int (own_sta HA)), (.int 0), (.long vb)] (lenOf own_pd2 rfl) rfl (Nat.le_of_eq rfl) (hb hby d4_12) rfl (by decide) (by decide) ?_
  rintro T3 Lc3 _ X3 ⟨rfl, N3q, e3⟩
  have N3 := Fr.app N2 N3q
  show own_Fin _ _ _ _ _ _ _ (T3.setTop (mkF m 15 #[rv oa, iv 0, jv vb, sS] [(.int (own_adz (own_sta HA)))]))
  refine own_retI X3 hx Bd.returns (hb hby d4_15) Bd.notSynchronized (by decide) (by decide) ?_
  rw [e3]
  exact ⟨rfl, N3, rfl⟩
theorem own_ef_iz1 (m : MethodId) (oa : Addr) (vb : Int64) : entryFrame m #[(.ref oa), (.int 1), (.long vb)] 4 = mkF m 0 #[rv oa, iv 1, jv vb, sS] [] := by first | (simp [entryFrame, mkF, argsToLocals, Value.category]; done) | rfl
def own_Q_iz1 (Z : State) (oa : Addr) (vb : Int64) (oz : Addr) (kz : ClassId) (NN : Int32) (HA : Int64) (HB : Int64) (RR : List Value) (h0 : Heap) (n0 : Nat) (v : Option Value) (h : Heap) (L : List Loc) : Prop := v = some (.int (own_ixb HA)) ∧ Fr n0 L ∧ h = h0
set_option maxRecDepth 65536 in
set_option maxHeartbeats 40000000 in
theorem own_rm_iz1 (l : Launch) (Z : State) (a0 : Array Value) (hw : ∀ d ∈ tables_1, d.before a0 Z = true) (ws : List Jvm.Cond) (oa : Addr) (vb : Int64) (oz : Addr) (kz : ClassId) (NN : Int32) (HA : Int64) (HB : Int64) (RR : List Value) (h0 : Heap) (n0 : Nat) (Z0 : n0 ≤ h0.size) (E_oa : Exa Z h0 oa own_k0) (F_oa_cells : Fld Z h0 oa own_k0 "cells" "[J" (.ref oz)) (V_oz : Arv Z h0 oz kz .long NN ((.long HA) :: (.long HB) :: RR) (.long 0)) (hN : (1 : Int32) < NN) (hl : own_lenb HA = 0) :
    MetFree l own_y7 (head1 (Jvm.Cond.code own_y7 prog_4_method_11_code 4 (some .int) :: ws) ({ frames := 3, cells := 0, slots := 0, locals := 40 } : Room)) (fun a U => a = #[(.ref oa), (.int 1), (.long vb)] ∧ Z.Warmed39 U.vm ∧ U.heap = h0) (fun _ _ _ _ _ => True) (fun _ U o U' => ∃ v L, o = .returned v ∧ own_Q_iz1 Z oa vb oz kz NN HA HB RR h0 n0 v U'.heap L ∧ FrameEnd U o U' L ({ frames := 3, cells := 0, slots := 0, locals := 40 } : Room).cells ({ frames := 3, cells := 0, slots := 0, locals := 40 } : Room).slots) := by
  refine MetFree.of_bodySF (plainFor_of_name own_pn0) hisR ?_
  intro p e s m args below meth c s₁ Bd hml0 hP hK
  obtain ⟨rfl, hZ, hh⟩ := hP
  have hx := Bd.exec
  have hby := Bd.bytes
  have hml : c.maxLocals = 4 := hml0
  have hown : s.vm.findClass own_k0 = some m.cls := findClass_of_methodNamed Bd.named
  have hnm := (name_of_methodNamed Bd.named Bd.method).1
  have X0 : Stand p l e ({ frames := 3, cells := 0, slots := 0, locals := 40 } : Room) s m #[(.ref oa), (.int 1), (.long vb)] below meth c s₁ [] 0 0 := Stand.of_body Bd
  have e0 : s₁.heap = h0 := by rw [← hh, Bd.state]; rfl
  have N0 := Fr.nil n0
  show own_Fin p e below s (own_Q_iz1 Z oa vb oz kz NN HA HB RR h0 n0) ({ frames := 3, cells := 0, slots := 0, locals := 40 } : Room).cells ({ frames := 3, cells := 0, slots := 0, locals := 40 } : Room).slots (s₁.setTop (entryFrame m #[(.ref oa), (.int 1), (.long vb)] 4))
  refine own_Fin.go (fun t k => castTop (own_ef_iz1 m oa vb) k) ?_
  refine own_Fin.go (fun t k => XS.aloadN X0.here hx rfl (hb hby d4_0) rfl rfl (XS.aloadN X0.here hx rfl (hb hby d4_1) rfl rfl (XS.iloadN X0.here hx rfl (hb hby d4_2) rfl k))) ?_
  refine own_pC X0 hx hZ hown (own_W hw 58 rfl) (own_W hw 59 rfl) (own_W hw 48 rfl) rfl (own_W hw 60 rfl) (own_W hw 61 rfl) (own_W hw 17 rfl) (by decide) (own_rm_st1 l Z a0 hw [] oa oz kz NN HA HB RR h0 n0 Z0 E_oa F_oa_cells V_oz (by assumption)) 1 (by decide) (by decide) e0 E_oa rfl (by rw [hml]; rfl) [(.int 1)] (lenOf own_pd1 rfl) rfl (Nat.le_of_eq rfl) (hb hby d4_3) rfl (by decide) (by decide) ?_
  rintro T1 Lc1 _ X1 ⟨rfl, N1q, e1⟩
  have N1 := Fr.app N0 N1q
  show own_Fin _ _ _ _ _ _ _ (T1.setTop (mkF m 6 #[rv oa, iv 1, jv vb, sS] [(.int (own_stb HA)), (.ref oa)]))
  refine own_Fin.go (fun t k => XS.aloadN X1.here hx rfl (hb hby d4_6) rfl rfl (XS.iloadN X1.here hx rfl (hb hby d4_7) rfl k)) ?_
  refine own_pC X1 hx hZ hown (own_W hw 70 rfl) (own_W hw 71 rfl) (own_W hw 48 rfl) rfl (own_W hw 72 rfl) (own_W hw 73 rfl) (own_W hw 17 rfl) (by decide) (own_rm_len1 l Z a0 hw [] oa oz kz NN HA HB RR h0 n0 Z0 F_oa_cells V_oz (by assumption)) 2 (by decide) (by decide) e1 E_oa rfl (by rw [hml]; rfl) [(.int 1)] (lenOf own_pd1 rfl) rfl (Nat.le_of_eq rfl) (hb hby d4_8) rfl (by decide) (by decide) ?_
  rintro T2 Lc2 _ X2 ⟨rfl, N2q, e2⟩
  have N2 := Fr.app N1 N2q
  show own_Fin _ _ _ _ _ _ _ (T2.setTop (mkF m 11 #[rv oa, iv 1, jv vb, sS] [(.int (own_lenb HA)), (.int (own_stb HA)), (.ref oa)]))
  rw [hl]
  refine own_Fin.go (fun t k => XS.lloadN X2.here hx rfl (hb hby d4_11) rfl k) ?_
  refine own_pC X2 hx hZ hown (own_W hw 75 rfl) (own_W hw 76 rfl) (own_W hw 48 rfl) rfl (own_W hw 77 rfl) (own_W hw 78 rfl) (own_W hw 17 rfl) (by decide) (own_rm_lb0 l Z a0 hw [] oa (own_stb HA) vb  h0 n0 Z0 ) 0 (by decide) (by decide) e2 E_oa rfl (by rw [hml]; rfl) [(.int (own_stb HA)), (.int 0), (.long vb)] (lenOf own_pd2 rfl) rfl (Nat.le_of_eq rfl) (hb hby d4_12) rfl (by decide) (by decide) ?_
  rintro T3 Lc3 _ X3 ⟨rfl, N3q, e3⟩
  have N3 := Fr.app N2 N3q
  show own_Fin _ _ _ _ _ _ _ (T3.setTop (mkF m 15 #[rv oa, iv 1, jv vb, sS] [(.int (own_adz (own_stb HA)))]))
  refine own_retI X3 hx Bd.returns (hb hby d4_15) Bd.notSynchronized (by decide) (by decide) ?_
  rw [e3]
  exact ⟨rfl, N3, rfl⟩
theorem own_ef_iz2 (m : MethodId) (oa : Addr) (vb : Int64) : entryFrame m #[(.ref oa), (.int 2), (.long vb)] 4 = mkF m 0 #[rv oa, iv 2, jv vb, sS] [] := by first | (simp [entryFrame, mkF, argsToLocals, Value.category]; done) | rfl
def own_Q_iz2 (Z : State) (oa : Addr) (vb : Int64) (oz : Addr) (kz : ClassId) (NN : Int32) (HA : Int64) (HB : Int64) (RR : List Value) (h0 : Heap) (n0 : Nat) (v : Option Value) (h : Heap) (L : List Loc) : Prop := v = some (.int (own_ixc HA)) ∧ Fr n0 L ∧ h = h0
set_option maxRecDepth 65536 in
set_option maxHeartbeats 40000000 in
theorem own_rm_iz2 (l : Launch) (Z : State) (a0 : Array Value) (hw : ∀ d ∈ tables_1, d.before a0 Z = true) (ws : List Jvm.Cond) (oa : Addr) (vb : Int64) (oz : Addr) (kz : ClassId) (NN : Int32) (HA : Int64) (HB : Int64) (RR : List Value) (h0 : Heap) (n0 : Nat) (Z0 : n0 ≤ h0.size) (E_oa : Exa Z h0 oa own_k0) (F_oa_cells : Fld Z h0 oa own_k0 "cells" "[J" (.ref oz)) (V_oz : Arv Z h0 oz kz .long NN ((.long HA) :: (.long HB) :: RR) (.long 0)) (hN : (1 : Int32) < NN) (hl : own_lena HB = 0) :
    MetFree l own_y7 (head1 (Jvm.Cond.code own_y7 prog_4_method_11_code 4 (some .int) :: ws) ({ frames := 3, cells := 0, slots := 0, locals := 40 } : Room)) (fun a U => a = #[(.ref oa), (.int 2), (.long vb)] ∧ Z.Warmed39 U.vm ∧ U.heap = h0) (fun _ _ _ _ _ => True) (fun _ U o U' => ∃ v L, o = .returned v ∧ own_Q_iz2 Z oa vb oz kz NN HA HB RR h0 n0 v U'.heap L ∧ FrameEnd U o U' L ({ frames := 3, cells := 0, slots := 0, locals := 40 } : Room).cells ({ frames := 3, cells := 0, slots := 0, locals := 40 } : Room).slots) := by
  refine MetFree.of_bodySF (plainFor_of_name own_pn0) hisR ?_
  intro p e s m args below meth c s₁ Bd hml0 hP hK
  obtain ⟨rfl, hZ, hh⟩ := hP
  have hx := Bd.exec
  have hby := Bd.bytes
  have hml : c.maxLocals = 4 := hml0
  have hown : s.vm.findClass own_k0 = some m.cls := findClass_of_methodNamed Bd.named
  have hnm := (name_of_methodNamed Bd.named Bd.method).1
  have X0 : Stand p l e ({ frames := 3, cells := 0, slots := 0, locals := 40 } : Room) s m #[(.ref oa), (.int 2), (.long vb)] below meth c s₁ [] 0 0 := Stand.of_body Bd
  have e0 : s₁.heap = h0 := by rw [← hh, Bd.state]; rfl
  have N0 := Fr.nil n0
  show own_Fin p e below s (own_Q_iz2 Z oa vb oz kz NN HA HB RR h0 n0) ({ frames := 3, cells := 0, slots := 0, locals := 40 } : Room).cells ({ frames := 3, cells := 0, slots := 0, locals := 40 } : Room).slots (s₁.setTop (entryFrame m #[(.ref oa), (.int 2), (.long vb)] 4))
  refine own_Fin.go (fun t k => castTop (own_ef_iz2 m oa vb) k) ?_
  refine own_Fin.go (fun t k => XS.aloadN X0.here hx rfl (hb hby d4_0) rfl rfl (XS.aloadN X0.here hx rfl (hb hby d4_1) rfl rfl (XS.iloadN X0.here hx rfl (hb hby d4_2) rfl k))) ?_
  refine own_pC X0 hx hZ hown (own_W hw 58 rfl) (own_W hw 59 rfl) (own_W hw 48 rfl) rfl (own_W hw 60 rfl) (own_W hw 61 rfl) (own_W hw 17 rfl) (by decide) (own_rm_st2 l Z a0 hw [] oa oz kz NN HA HB RR h0 n0 Z0 E_oa F_oa_cells V_oz (by assumption)) 1 (by decide) (by decide) e0 E_oa rfl (by rw [hml]; rfl) [(.int 2)] (lenOf own_pd1 rfl) rfl (Nat.le_of_eq rfl) (hb hby d4_3) rfl (by decide) (by decide) ?_
  rintro T1 Lc1 _ X1 ⟨rfl, N1q, e1⟩
  have N1 := Fr.app N0 N1q
  show own_Fin _ _ _ _ _ _ _ (T1.setTop (mkF m 6 #[rv oa, iv 2, jv vb, sS] [(.int (own_stc HA)), (.ref oa)]))
  refine own_Fin.go (fun t k => XS.aloadN X1.here hx rfl (hb hby d4_6) rfl rfl (XS.iloadN X1.here hx rfl (hb hby d4_7) rfl k)) ?_
  refine own_pC X1 hx hZ hown (own_W hw 70 rfl) (own_W hw 71 rfl) (own_W hw 48 rfl) rfl (own_W hw 72 rfl) (own_W hw 73 rfl) (own_W hw 17 rfl) (by decide) (own_rm_len2 l Z a0 hw [] oa oz kz NN HA HB RR h0 n0 Z0 F_oa_cells V_oz (by assumption)) 2 (by decide) (by decide) e1 E_oa rfl (by rw [hml]; rfl) [(.int 2)] (lenOf own_pd1 rfl) rfl (Nat.le_of_eq rfl) (hb hby d4_8) rfl (by decide) (by decide) ?_
  rintro T2 Lc2 _ X2 ⟨rfl, N2q, e2⟩
  have N2 := Fr.app N1 N2q
  show own_Fin _ _ _ _ _ _ _ (T2.setTop (mkF m 11 #[rv oa, iv 2, jv vb, sS] [(.int (own_lena HB)), (.int (own_stc HA)), (.ref oa)]))
  rw [hl]
  refine own_Fin.go (fun t k => XS.lloadN X2.here hx rfl (hb hby d4_11) rfl k) ?_
  refine own_pC X2 hx hZ hown (own_W hw 75 rfl) (own_W hw 76 rfl) (own_W hw 48 rfl) rfl (own_W hw 77 rfl) (own_W hw 78 rfl) (own_W hw 17 rfl) (by decide) (own_rm_lb0 l Z a0 hw [] oa (own_stc HA) vb  h0 n0 Z0 ) 0 (by decide) (by decide) e2 E_oa rfl (by rw [hml]; rfl) [(.int (own_stc HA)), (.int 0), (.long vb)] (lenOf own_pd2 rfl) rfl (Nat.le_of_eq rfl) (hb hby d4_12) rfl (by decide) (by decide) ?_
  rintro T3 Lc3 _ X3 ⟨rfl, N3q, e3⟩
  have N3 := Fr.app N2 N3q
  show own_Fin _ _ _ _ _ _ _ (T3.setTop (mkF m 15 #[rv oa, iv 2, jv vb, sS] [(.int (own_adz (own_stc HA)))]))
  refine own_retI X3 hx Bd.returns (hb hby d4_15) Bd.notSynchronized (by decide) (by decide) ?_
  rw [e3]
  exact ⟨rfl, N3, rfl⟩
theorem d9_0 : decode prog_4_method_19_code 0 = .ok (.iload_n 1, 1) := by decide +kernel
theorem d9_1 : decode prog_4_method_19_code 1 = .ok (.iconst 2, 1) := by decide +kernel
theorem d9_2 : decode prog_4_method_19_code 2 = .ok (.irem, 1) := by decide +kernel
theorem d9_3 : decode prog_4_method_19_code 3 = .ok (.bipush 30, 2) := by decide +kernel
theorem d9_5 : decode prog_4_method_19_code 5 = .ok (.imul, 1) := by decide +kernel
theorem d9_6 : decode prog_4_method_19_code 6 = .ok (.istore_n 3, 1) := by decide +kernel
theorem d9_7 : decode prog_4_method_19_code 7 = .ok (.aload_n 0, 1) := by decide +kernel
theorem d9_8 : decode prog_4_method_19_code 8 = .ok (.getfield 21, 3) := by decide +kernel
theorem d9_11 : decode prog_4_method_19_code 11 = .ok (.iload_n 1, 1) := by decide +kernel
theorem d9_12 : decode prog_4_method_19_code 12 = .ok (.iconst 2, 1) := by decide +kernel
theorem d9_13 : decode prog_4_method_19_code 13 = .ok (.idiv, 1) := by decide +kernel
theorem d9_14 : decode prog_4_method_19_code 14 = .ok (.aload_n 0, 1) := by decide +kernel
theorem d9_15 : decode prog_4_method_19_code 15 = .ok (.getfield 21, 3) := by decide +kernel
theorem d9_18 : decode prog_4_method_19_code 18 = .ok (.iload_n 1, 1) := by decide +kernel
theorem d9_19 : decode prog_4_method_19_code 19 = .ok (.iconst 2, 1) := by decide +kernel
theorem d9_20 : decode prog_4_method_19_code 20 = .ok (.idiv, 1) := by decide +kernel
theorem d9_21 : decode prog_4_method_19_code 21 = .ok (.laload, 1) := by decide +kernel
theorem d9_22 : decode prog_4_method_19_code 22 = .ok (.ldc2_w 173, 3) := by decide +kernel
theorem d9_25 : decode prog_4_method_19_code 25 = .ok (.iload_n 3, 1) := by decide +kernel
theorem d9_26 : decode prog_4_method_19_code 26 = .ok (.lshl, 1) := by decide +kernel
theorem d9_27 : decode prog_4_method_19_code 27 = .ok (.ldc2_w 175, 3) := by decide +kernel
theorem d9_30 : decode prog_4_method_19_code 30 = .ok (.lxor, 1) := by decide +kernel
theorem d9_31 : decode prog_4_method_19_code 31 = .ok (.land, 1) := by decide +kernel
theorem d9_32 : decode prog_4_method_19_code 32 = .ok (.iload_n 2, 1) := by decide +kernel
theorem d9_33 : decode prog_4_method_19_code 33 = .ok (.i2l, 1) := by decide +kernel
theorem d9_34 : decode prog_4_method_19_code 34 = .ok (.iload_n 3, 1) := by decide +kernel
theorem d9_35 : decode prog_4_method_19_code 35 = .ok (.lshl, 1) := by decide +kernel
theorem d9_36 : decode prog_4_method_19_code 36 = .ok (.lor, 1) := by decide +kernel
theorem d9_37 : decode prog_4_method_19_code 37 = .ok (.lastore, 1) := by decide +kernel
theorem d9_38 : decode prog_4_method_19_code 38 = .ok (.return_, 1) := by decide +kernel
theorem own_ef_sl0 (m : MethodId) (oa : Addr) (va : Int32) : entryFrame m #[(.ref oa), (.int 0), (.int va)] 4 = mkF m 0 #[rv oa, iv 0, iv va, uS] [] := by first | (simp [entryFrame, mkF, argsToLocals, Value.category]; done) | rfl
def own_Q_sl0 (Z : State) (oa : Addr) (va : Int32) (oz : Addr) (kz : ClassId) (NN : Int32) (HA : Int64) (HB : Int64) (RR : List Value) (h0 : Heap) (n0 : Nat) (v : Option Value) (h : Heap) (L : List Loc) : Prop := v = none ∧ Fr n0 L ∧ Keep h0 h [oz] ∧ Arv Z h oz kz .long NN ((.long (own_sla HA va)) :: (.long HB) :: RR) (.long 0)
set_option maxRecDepth 65536 in
set_option maxHeartbeats 40000000 in
theorem own_rm_sl0 (l : Launch) (Z : State) (a0 : Array Value) (hw : ∀ d ∈ tables_1, d.before a0 Z = true) (ws : List Jvm.Cond) (oa : Addr) (va : Int32) (oz : Addr) (kz : ClassId) (NN : Int32) (HA : Int64) (HB : Int64) (RR : List Value) (h0 : Heap) (n0 : Nat) (Z0 : n0 ≤ h0.size) (F_oa_cells : Fld Z h0 oa own_k0 "cells" "[J" (.ref oz)) (V_oz : Arv Z h0 oz kz .long NN ((.long HA) :: (.long HB) :: RR) (.long 0)) (hN : (1 : Int32) < NN) (g_oz : n0 ≤ oz) (ne_oa_oz : oa ≠ oz) :
    MetFree l own_y8 (head1 (Jvm.Cond.code own_y8 prog_4_method_19_code 4 none :: ws) ({ frames := 0, cells := 0, slots := 0, locals := 0 } : Room)) (fun a U => a = #[(.ref oa), (.int 0), (.int va)] ∧ Z.Warmed39 U.vm ∧ U.heap = h0) (fun _ _ _ _ _ => True) (fun _ U o U' => ∃ v L, o = .returned v ∧ own_Q_sl0 Z oa va oz kz NN HA HB RR h0 n0 v U'.heap L ∧ FrameEnd U o U' L ({ frames := 0, cells := 0, slots := 0, locals := 0 } : Room).cells ({ frames := 0, cells := 0, slots := 0, locals := 0 } : Room).slots) := by
  refine MetFree.of_bodySF (plainFor_of_name own_pn0) hisR ?_
  intro p e s m args below meth c s₁ Bd hml0 hP hK
  obtain ⟨rfl, hZ, hh⟩ := hP
  have hx := Bd.exec
  have hby := Bd.bytes
  have hml : c.maxLocals = 4 := hml0
  have hown : s.vm.findClass own_k0 = some m.cls := findClass_of_methodNamed Bd.named
  have hnm := (name_of_methodNamed Bd.named Bd.method).1
  have X0 : Stand p l e ({ frames := 0, cells := 0, slots := 0, locals := 0 } : Room) s m #[(.ref oa), (.int 0), (.int va)] below meth c s₁ [] 0 0 := Stand.of_body Bd
  have e0 : s₁.heap = h0 := by rw [← hh, Bd.state]; rfl
  have N0 := Fr.nil n0
  have K0 := Keep.refl h0 [oz]
  show own_Fin p e below s (own_Q_sl0 Z oa va oz kz NN HA HB RR h0 n0) ({ frames := 0, cells := 0, slots := 0, locals := 0 } : Room).cells ({ frames := 0, cells := 0, slots := 0, locals := 0 } : Room).slots (s₁.setTop (entryFrame m #[(.ref oa), (.int 0), (.int va)] 4))
  refine own_Fin.go (fun t k => castTop (own_ef_sl0 m oa va) k) ?_
  refine own_Fin.go (fun t k => XS.iloadN X0.here hx rfl (hb hby d9_0) rfl (XS.iconst X0.here hx rfl (hb hby d9_1) k)) ?_
  refine own_Fin.go (fun t k => iremM X0 hx rfl (hb hby d9_2) rfl (by decide) k) ?_
  show own_Fin _ _ _ _ _ _ _ (s₁.setTop (mkF m 3 #[rv oa, iv 0, iv va, uS] [(.int ((0 : Int32) % (2 : Int32)))]))
  rw [show ((0 : Int32) % (2 : Int32)) = (0 : Int32) from by decide +kernel]
  refine own_Fin.go (fun t k => XS.bipush X0.here hx rfl (hb hby d9_3) (XS.imul X0.here hx rfl (hb hby d9_5) rfl k)) ?_
  show own_Fin _ _ _ _ _ _ _ (s₁.setTop (mkF m 6 #[rv oa, iv 0, iv va, uS] [(.int ((0 : Int32) * (30 : Int32)))]))
  rw [show ((0 : Int32) * (30 : Int32)) = (0 : Int32) from by decide +kernel]
  refine own_Fin.go (fun t k => XS.istoreN X0.here hx rfl (hb hby d9_6) rfl (l' := #[rv oa, iv 0, iv va, iv 0]) rfl (XS.aloadN X0.here hx rfl (hb hby d9_7) rfl rfl k)) ?_
  refine own_gF X0 hx hZ hown (own_W hw 39 rfl) e0 F_oa_cells rfl rfl (hb hby d9_8) ?_
  intro T1 X1 e1
  refine own_Fin.go (fun t k => XS.iloadN X1.here hx rfl (hb hby d9_11) rfl (XS.iconst X1.here hx rfl (hb hby d9_12) k)) ?_
  show own_Fin _ _ _ _ _ _ _ (T1.setTop (mkF m 13 #[rv oa, iv 0, iv va, iv 0] [(.int 2), (.int 0), (.ref oz)]))
  refine own_Fin.go (fun t k => XS.idiv X1.here hx rfl (hb hby d9_13) rfl (by decide) k) ?_
  show own_Fin _ _ _ _ _ _ _ (T1.setTop (mkF m 14 #[rv oa, iv 0, iv va, iv 0] [(.int ((0 : Int32) / (2 : Int32))), (.ref oz)]))
  rw [show ((0 : Int32) / (2 : Int32)) = (0 : Int32) from by decide +kernel]
  refine own_Fin.go (fun t k => XS.aloadN X1.here hx rfl (hb hby d9_14) rfl rfl k) ?_
  refine own_gF X1 hx hZ hown (own_W hw 39 rfl) e1 F_oa_cells rfl rfl (hb hby d9_15) ?_
  intro T2 X2 e2
  refine own_Fin.go (fun t k => XS.iloadN X2.here hx rfl (hb hby d9_18) rfl (XS.iconst X2.here hx rfl (hb hby d9_19) (XS.idiv X2.here hx rfl (hb hby d9_20) rfl (by decide) k))) ?_
  show own_Fin _ _ _ _ _ _ _ (T2.setTop (mkF m 21 #[rv oa, iv 0, iv va, iv 0] [(.int ((0 : Int32) / (2 : Int32))), (.ref oz), (.int 0), (.ref oz)]))
  rw [show ((0 : Int32) / (2 : Int32)) = (0 : Int32) from by decide +kernel]
  refine own_lal X2 hx hZ e2 V_oz ⟨by decide, Int32.lt_of_le_of_lt (by decide) hN⟩ (v := HA) rfl rfl rfl (hb hby d9_21) ?_
  refine own_Fin.go (fun t k => X2.ldc2Long hx hown (mvT hZ (own_W hw 74 rfl)) (g := (mkF m 22 #[rv oa, iv 0, iv va, iv 0] [(.long HA), (.int 0), (.ref oz)])) rfl (hb hby d9_22) t k) ?_
  refine own_Fin.go (fun t k => XS.iloadN X2.here hx rfl (hb hby d9_25) rfl (XS.lshl X2.here hx rfl (hb hby d9_26) rfl k)) ?_
  show own_Fin _ _ _ _ _ _ _ (T2.setTop (mkF m 27 #[rv oa, iv 0, iv va, iv 0] [(.long ((1073741823 : Int64) <<< ((0 : Int32) &&& 0x3f).toInt64)), (.long HA), (.int 0), (.ref oz)]))
  rw [show ((1073741823 : Int64) <<< ((0 : Int32) &&& 0x3f).toInt64) = (1073741823 : Int64) from by decide +kernel]
  refine own_Fin.go (fun t k => X2.ldc2Long hx hown (mvT hZ (own_W hw 100 rfl)) (g := (mkF m 27 #[rv oa, iv 0, iv va, iv 0] [(.long 1073741823), (.long HA), (.int 0), (.ref oz)])) rfl (hb hby d9_27) t k) ?_
  refine own_Fin.go (fun t k => XS.lxor X2.here hx rfl (hb hby d9_30) rfl k) ?_
  show own_Fin _ _ _ _ _ _ _ (T2.setTop (mkF m 31 #[rv oa, iv 0, iv va, iv 0] [(.long ((1073741823 : Int64) ^^^ (-1 : Int64))), (.long HA), (.int 0), (.ref oz)]))
  rw [show ((1073741823 : Int64) ^^^ (-1 : Int64)) = (-1073741824 : Int64) from by decide +kernel]
  refine own_Fin.go (fun t k => XS.land X2.here hx rfl (hb hby d9_31) rfl (XS.iloadN X2.here hx rfl (hb hby d9_32) rfl (XS.i2l X2.here hx rfl (hb hby d9_33) rfl (XS.iloadN X2.here hx rfl (hb hby d9_34) rfl k)))) ?_
  refine own_Fin.go (fun t k => XS.lshl X2.here hx rfl (hb hby d9_35) rfl k) ?_
  show own_Fin _ _ _ _ _ _ _ (T2.setTop (mkF m 36 #[rv oa, iv 0, iv va, iv 0] [(.long ((va.toInt64) <<< ((0 : Int32) &&& 0x3f).toInt64)), (.long (HA &&& (-1073741824 : Int64))), (.int 0), (.ref oz)]))
  refine own_Fin.go (fun t k => XS.lor X2.here hx rfl (hb hby d9_36) rfl k) ?_
  obtain ⟨cl4, Ar4, q4, S4, N4l, H4, G4⟩ := (id V_oz)
  have hin4 : ¬ ((0 : Int32) < 0 ∨ cl4.slots.size ≤ ((0 : Int32)).toNatClampNeg) := inb_of S4 ⟨by decide, Int32.lt_of_le_of_lt (by decide) hN⟩
  obtain ⟨T4, h4, X4, e4, W4, st4⟩ := stJ X2 hx hZ e2 Ar4 (j := (0 : Int32)) hin4 (g := (mkF m 37 #[rv oa, iv 0, iv va, iv 0] [(.long ((HA &&& (-1073741824 : Int64)) ||| ((va.toInt64) <<< ((0 : Int32) &&& 0x3f).toInt64))), (.int 0), (.ref oz)])) rfl rfl (hb hby d9_37)
  refine own_Fin.go st4 ?_
  have V_oz_4 := Arv.set Ar4 q4 S4 N4l H4 G4 rfl W4 0 rfl (by simp)
  replace V_oz_4 : Arv Z h4 oz kz .long NN ((.long ((HA &&& (-1073741824 : Int64)) ||| ((va.toInt64) <<< ((0 : Int32) &&& 0x3f).toInt64))) :: (.long HB) :: RR) (.long 0) := V_oz_4
  have F_oa_cells_4 := Fld.other W4 F_oa_cells (Or.inl ne_oa_oz)
  have Z4 := Nat.le_trans Z0 (Keep.of_wr W4).1
  have K4 := K0.wr W4 (Or.inl (List.mem_of_getElem? (i := 0) rfl))
  have N4 := Fr.snoc X4 N0 g_oz
  show own_Fin _ _ _ _ _ _ _ (T4.setTop (mkF m 38 #[rv oa, iv 0, iv va, iv 0] []))
  refine own_ret0 X4 hx Bd.returns (hb hby d9_38) Bd.notSynchronized (by decide) (by decide) ?_
  rw [e4]
  exact ⟨rfl, N4, K4, V_oz_4⟩
theorem own_ef_sl1 (m : MethodId) (oa : Addr) (va : Int32) : entryFrame m #[(.ref oa), (.int 1), (.int va)] 4 = mkF m 0 #[rv oa, iv 1, iv va, uS] [] := by first | (simp [entryFrame, mkF, argsToLocals, Value.category]; done) | rfl
def own_Q_sl1 (Z : State) (oa : Addr) (va : Int32) (oz : Addr) (kz : ClassId) (NN : Int32) (HA : Int64) (HB : Int64) (RR : List Value) (h0 : Heap) (n0 : Nat) (v : Option Value) (h : Heap) (L : List Loc) : Prop := v = none ∧ Fr n0 L ∧ Keep h0 h [oz] ∧ Arv Z h oz kz .long NN ((.long (own_slb HA va)) :: (.long HB) :: RR) (.long 0)
set_option maxRecDepth 65536 in
set_option maxHeartbeats 40000000 in
theorem own_rm_sl1 (l : Launch) (Z : State) (a0 : Array Value) (hw : ∀ d ∈ tables_1, d.before a0 Z = true) (ws : List Jvm.Cond) (oa : Addr) (va : Int32) (oz : Addr) (kz : ClassId) (NN : Int32) (HA : Int64) (HB : Int64) (RR : List Value) (h0 : Heap) (n0 : Nat) (Z0 : n0 ≤ h0.size) (F_oa_cells : Fld Z h0 oa own_k0 "cells" "[J" (.ref oz)) (V_oz : Arv Z h0 oz kz .long NN ((.long HA) :: (.long HB) :: RR) (.long 0)) (hN : (1 : Int32) < NN) (g_oz : n0 ≤ oz) (ne_oa_oz : oa ≠ oz) :
    MetFree l own_y8 (head1 (Jvm.Cond.code own_y8 prog_4_method_19_code 4 none :: ws) ({ frames := 0, cells := 0, slots := 0, locals := 0 } : Room)) (fun a U => a = #[(.ref oa), (.int 1), (.int va)] ∧ Z.Warmed39 U.vm ∧ U.heap = h0) (fun _ _ _ _ _ => True) (fun _ U o U' => ∃ v L, o = .returned v ∧ own_Q_sl1 Z oa va oz kz NN HA HB RR h0 n0 v U'.heap L ∧ FrameEnd U o U' L ({ frames := 0, cells := 0, slots := 0, locals := 0 } : Room).cells ({ frames := 0, cells := 0, slots := 0, locals := 0 } : Room).slots) := by
  refine MetFree.of_bodySF (plainFor_of_name own_pn0) hisR ?_
  intro p e s m args below meth c s₁ Bd hml0 hP hK
  obtain ⟨rfl, hZ, hh⟩ := hP
  have hx := Bd.exec
  have hby := Bd.bytes
  have hml : c.maxLocals = 4 := hml0
  have hown : s.vm.findClass own_k0 = some m.cls := findClass_of_methodNamed Bd.named
  have hnm := (name_of_methodNamed Bd.named Bd.method).1
  have X0 : Stand p l e ({ frames := 0, cells := 0, slots := 0, locals := 0 } : Room) s m #[(.ref oa), (.int 1), (.int va)] below meth c s₁ [] 0 0 := Stand.of_body Bd
  have e0 : s₁.heap = h0 := by rw [← hh, Bd.state]; rfl
  have N0 := Fr.nil n0
  have K0 := Keep.refl h0 [oz]
  show own_Fin p e below s (own_Q_sl1 Z oa va oz kz NN HA HB RR h0 n0) ({ frames := 0, cells := 0, slots := 0, locals := 0 } : Room).cells ({ frames := 0, cells := 0, slots := 0, locals := 0 } : Room).slots (s₁.setTop (entryFrame m #[(.ref oa), (.int 1), (.int va)] 4))
  refine own_Fin.go (fun t k => castTop (own_ef_sl1 m oa va) k) ?_
  refine own_Fin.go (fun t k => XS.iloadN X0.here hx rfl (hb hby d9_0) rfl (XS.iconst X0.here hx rfl (hb hby d9_1) k)) ?_
  refine own_Fin.go (fun t k => iremM X0 hx rfl (hb hby d9_2) rfl (by decide) k) ?_
  show own_Fin _ _ _ _ _ _ _ (s₁.setTop (mkF m 3 #[rv oa, iv 1, iv va, uS] [(.int ((1 : Int32) % (2 : Int32)))]))
  rw [show ((1 : Int32) % (2 : Int32)) = (1 : Int32) from by decide +kernel]
  refine own_Fin.go (fun t k => XS.bipush X0.here hx rfl (hb hby d9_3) (XS.imul X0.here hx rfl (hb hby d9_5) rfl k)) ?_
  show own_Fin _ _ _ _ _ _ _ (s₁.setTop (mkF m 6 #[rv oa, iv 1, iv va, uS] [(.int ((1 : Int32) * (30 : Int32)))]))
  rw [show ((1 : Int32) * (30 : Int32)) = (30 : Int32) from by decide +kernel]
  refine own_Fin.go (fun t k => XS.istoreN X0.here hx rfl (hb hby d9_6) rfl (l' := #[rv oa, iv 1, iv va, iv 30]) rfl (XS.aloadN X0.here hx rfl (hb hby d9_7) rfl rfl k)) ?_
  refine own_gF X0 hx hZ hown (own_W hw 39 rfl) e0 F_oa_cells rfl rfl (hb hby d9_8) ?_
  intro T1 X1 e1
  refine own_Fin.go (fun t k => XS.iloadN X1.here hx rfl (hb hby d9_11) rfl (XS.iconst X1.here hx rfl (hb hby d9_12) k)) ?_
  show own_Fin _ _ _ _ _ _ _ (T1.setTop (mkF m 13 #[rv oa, iv 1, iv va, iv 30] [(.int 2), (.int 1), (.ref oz)]))
  refine own_Fin.go (fun t k => XS.idiv X1.here hx rfl (hb hby d9_13) rfl (by decide) k) ?_
  show own_Fin _ _ _ _ _ _ _ (T1.setTop (mkF m 14 #[rv oa, iv 1, iv va, iv 30] [(.int ((1 : Int32) / (2 : Int32))), (.ref oz)]))
  rw [show ((1 : Int32) / (2 : Int32)) = (0 : Int32) from by decide +kernel]
  refine own_Fin.go (fun t k => XS.aloadN X1.here hx rfl (hb hby d9_14) rfl rfl k) ?_
  refine own_gF X1 hx hZ hown (own_W hw 39 rfl) e1 F_oa_cells rfl rfl (hb hby d9_15) ?_
  intro T2 X2 e2
  refine own_Fin.go (fun t k => XS.iloadN X2.here hx rfl (hb hby d9_18) rfl (XS.iconst X2.here hx rfl (hb hby d9_19) (XS.idiv X2.here hx rfl (hb hby d9_20) rfl (by decide) k))) ?_
  show own_Fin _ _ _ _ _ _ _ (T2.setTop (mkF m 21 #[rv oa, iv 1, iv va, iv 30] [(.int ((1 : Int32) / (2 : Int32))), (.ref oz), (.int 0), (.ref oz)]))
  rw [show ((1 : Int32) / (2 : Int32)) = (0 : Int32) from by decide +kernel]
  refine own_lal X2 hx hZ e2 V_oz ⟨by decide, Int32.lt_of_le_of_lt (by decide) hN⟩ (v := HA) rfl rfl rfl (hb hby d9_21) ?_
  refine own_Fin.go (fun t k => X2.ldc2Long hx hown (mvT hZ (own_W hw 74 rfl)) (g := (mkF m 22 #[rv oa, iv 1, iv va, iv 30] [(.long HA), (.int 0), (.ref oz)])) rfl (hb hby d9_22) t k) ?_
  refine own_Fin.go (fun t k => XS.iloadN X2.here hx rfl (hb hby d9_25) rfl (XS.lshl X2.here hx rfl (hb hby d9_26) rfl k)) ?_
  show own_Fin _ _ _ _ _ _ _ (T2.setTop (mkF m 27 #[rv oa, iv 1, iv va, iv 30] [(.long ((1073741823 : Int64) <<< ((30 : Int32) &&& 0x3f).toInt64)), (.long HA), (.int 0), (.ref oz)]))
  rw [show ((1073741823 : Int64) <<< ((30 : Int32) &&& 0x3f).toInt64) = (1152921503533105152 : Int64) from by decide +kernel]
  refine own_Fin.go (fun t k => X2.ldc2Long hx hown (mvT hZ (own_W hw 100 rfl)) (g := (mkF m 27 #[rv oa, iv 1, iv va, iv 30] [(.long 1152921503533105152), (.long HA), (.int 0), (.ref oz)])) rfl (hb hby d9_27) t k) ?_
  refine own_Fin.go (fun t k => XS.lxor X2.here hx rfl (hb hby d9_30) rfl k) ?_
  show own_Fin _ _ _ _ _ _ _ (T2.setTop (mkF m 31 #[rv oa, iv 1, iv va, iv 30] [(.long ((1152921503533105152 : Int64) ^^^ (-1 : Int64))), (.long HA), (.int 0), (.ref oz)]))
  rw [show ((1152921503533105152 : Int64) ^^^ (-1 : Int64)) = (-1152921503533105153 : Int64) from by decide +kernel]
  refine own_Fin.go (fun t k => XS.land X2.here hx rfl (hb hby d9_31) rfl (XS.iloadN X2.here hx rfl (hb hby d9_32) rfl (XS.i2l X2.here hx rfl (hb hby d9_33) rfl (XS.iloadN X2.here hx rfl (hb hby d9_34) rfl k)))) ?_
  refine own_Fin.go (fun t k => XS.lshl X2.here hx rfl (hb hby d9_35) rfl k) ?_
  show own_Fin _ _ _ _ _ _ _ (T2.setTop (mkF m 36 #[rv oa, iv 1, iv va, iv 30] [(.long ((va.toInt64) <<< ((30 : Int32) &&& 0x3f).toInt64)), (.long (HA &&& (-1152921503533105153 : Int64))), (.int 0), (.ref oz)]))
  refine own_Fin.go (fun t k => XS.lor X2.here hx rfl (hb hby d9_36) rfl k) ?_
  obtain ⟨cl4, Ar4, q4, S4, N4l, H4, G4⟩ := (id V_oz)
  have hin4 : ¬ ((0 : Int32) < 0 ∨ cl4.slots.size ≤ ((0 : Int32)).toNatClampNeg) := inb_of S4 ⟨by decide, Int32.lt_of_le_of_lt (by decide) hN⟩
  obtain ⟨T4, h4, X4, e4, W4, st4⟩ := stJ X2 hx hZ e2 Ar4 (j := (0 : Int32)) hin4 (g := (mkF m 37 #[rv oa, iv 1, iv va, iv 30] [(.long ((HA &&& (-1152921503533105153 : Int64)) ||| ((va.toInt64) <<< ((30 : Int32) &&& 0x3f).toInt64))), (.int 0), (.ref oz)])) rfl rfl (hb hby d9_37)
  refine own_Fin.go st4 ?_
  have V_oz_4 := Arv.set Ar4 q4 S4 N4l H4 G4 rfl W4 0 rfl (by simp)
  replace V_oz_4 : Arv Z h4 oz kz .long NN ((.long ((HA &&& (-1152921503533105153 : Int64)) ||| ((va.toInt64) <<< ((30 : Int32) &&& 0x3f).toInt64))) :: (.long HB) :: RR) (.long 0) := V_oz_4
  have F_oa_cells_4 := Fld.other W4 F_oa_cells (Or.inl ne_oa_oz)
  have Z4 := Nat.le_trans Z0 (Keep.of_wr W4).1
  have K4 := K0.wr W4 (Or.inl (List.mem_of_getElem? (i := 0) rfl))
  have N4 := Fr.snoc X4 N0 g_oz
  show own_Fin _ _ _ _ _ _ _ (T4.setTop (mkF m 38 #[rv oa, iv 1, iv va, iv 30] []))
  refine own_ret0 X4 hx Bd.returns (hb hby d9_38) Bd.notSynchronized (by decide) (by decide) ?_
  rw [e4]
  exact ⟨rfl, N4, K4, V_oz_4⟩
theorem own_ef_sl2 (m : MethodId) (oa : Addr) (va : Int32) : entryFrame m #[(.ref oa), (.int 2), (.int va)] 4 = mkF m 0 #[rv oa, iv 2, iv va, uS] [] := by first | (simp [entryFrame, mkF, argsToLocals, Value.category]; done) | rfl
def own_Q_sl2 (Z : State) (oa : Addr) (va : Int32) (oz : Addr) (kz : ClassId) (NN : Int32) (HA : Int64) (HB : Int64) (RR : List Value) (h0 : Heap) (n0 : Nat) (v : Option Value) (h : Heap) (L : List Loc) : Prop := v = none ∧ Fr n0 L ∧ Keep h0 h [oz] ∧ Arv Z h oz kz .long NN ((.long HA) :: (.long (own_sla HB va)) :: RR) (.long 0)
set_option maxRecDepth 65536 in
set_option maxHeartbeats 40000000 in
theorem own_rm_sl2 (l : Launch) (Z : State) (a0 : Array Value) (hw : ∀ d ∈ tables_1, d.before a0 Z = true) (ws : List Jvm.Cond) (oa : Addr) (va : Int32) (oz : Addr) (kz : ClassId) (NN : Int32) (HA : Int64) (HB : Int64) (RR : List Value) (h0 : Heap) (n0 : Nat) (Z0 : n0 ≤ h0.size) (F_oa_cells : Fld Z h0 oa own_k0 "cells" "[J" (.ref oz)) (V_oz : Arv Z h0 oz kz .long NN ((.long HA) :: (.long HB) :: RR) (.long 0)) (hN : (1 : Int32) < NN) (g_oz : n0 ≤ oz) (ne_oa_oz : oa ≠ oz) :
    MetFree l own_y8 (head1 (Jvm.Cond.code own_y8 prog_4_method_19_code 4 none :: ws) ({ frames := 0, cells := 0, slots := 0, locals := 0 } : Room)) (fun a U => a = #[(.ref oa), (.int 2), (.int va)] ∧ Z.Warmed39 U.vm ∧ U.heap = h0) (fun _ _ _ _ _ => True) (fun _ U o U' => ∃ v L, o = .returned v ∧ own_Q_sl2 Z oa va oz kz NN HA HB RR h0 n0 v U'.heap L ∧ FrameEnd U o U' L ({ frames := 0, cells := 0, slots := 0, locals := 0 } : Room).cells ({ frames := 0, cells := 0, slots := 0, locals := 0 } : Room).slots) := by
  refine MetFree.of_bodySF (plainFor_of_name own_pn0) hisR ?_
  intro p e s m args below meth c s₁ Bd hml0 hP hK
  obtain ⟨rfl, hZ, hh⟩ := hP
  have hx := Bd.exec
  have hby := Bd.bytes
  have hml : c.maxLocals = 4 := hml0
  have hown : s.vm.findClass own_k0 = some m.cls := findClass_of_methodNamed Bd.named
  have hnm := (name_of_methodNamed Bd.named Bd.method).1
  have X0 : Stand p l e ({ frames := 0, cells := 0, slots := 0, locals := 0 } : Room) s m #[(.ref oa), (.int 2), (.int va)] below meth c s₁ [] 0 0 := Stand.of_body Bd
  have e0 : s₁.heap = h0 := by rw [← hh, Bd.state]; rfl
  have N0 := Fr.nil n0
  have K0 := Keep.refl h0 [oz]
  show own_Fin p e below s (own_Q_sl2 Z oa va oz kz NN HA HB RR h0 n0) ({ frames := 0, cells := 0, slots := 0, locals := 0 } : Room).cells ({ frames := 0, cells := 0, slots := 0, locals := 0 } : Room).slots (s₁.setTop (entryFrame m #[(.ref oa), (.int 2), (.int va)] 4))
  refine own_Fin.go (fun t k => castTop (own_ef_sl2 m oa va) k) ?_
  refine own_Fin.go (fun t k => XS.iloadN X0.here hx rfl (hb hby d9_0) rfl (XS.iconst X0.here hx rfl (hb hby d9_1) k)) ?_
  refine own_Fin.go (fun t k => iremM X0 hx rfl (hb hby d9_2) rfl (by decide) k) ?_
  show own_Fin _ _ _ _ _ _ _ (s₁.setTop (mkF m 3 #[rv oa, iv 2, iv va, uS] [(.int ((2 : Int32) % (2 : Int32)))]))
  rw [show ((2 : Int32) % (2 : Int32)) = (0 : Int32) from by decide +kernel]
  refine own_Fin.go (fun t k => XS.bipush X0.here hx rfl (hb hby d9_3) (XS.imul X0.here hx rfl (hb hby d9_5) rfl k)) ?_
  show own_Fin _ _ _ _ _ _ _ (s₁.setTop (mkF m 6 #[rv oa, iv 2, iv va, uS] [(.int ((0 : Int32) * (30 : Int32)))]))
  rw [show ((0 : Int32) * (30 : Int32)) = (0 : Int32) from by decide +kernel]
  refine own_Fin.go (fun t k => XS.istoreN X0.here hx rfl (hb hby d9_6) rfl (l' := #[rv oa, iv 2, iv va, iv 0]) rfl (XS.aloadN X0.here hx rfl (hb hby d9_7) rfl rfl k)) ?_
  refine own_gF X0 hx hZ hown (own_W hw 39 rfl) e0 F_oa_cells rfl rfl (hb hby d9_8) ?_
  intro T1 X1 e1
  refine own_Fin.go (fun t k => XS.iloadN X1.here hx rfl (hb hby d9_11) rfl (XS.iconst X1.here hx rfl (hb hby d9_12) k)) ?_
  show own_Fin _ _ _ _ _ _ _ (T1.setTop (mkF m 13 #[rv oa, iv 2, iv va, iv 0] [(.int 2), (.int 2), (.ref oz)]))
  refine own_Fin.go (fun t k => XS.idiv X1.here hx rfl (hb hby d9_13) rfl (by decide) k) ?_
  show own_Fin _ _ _ _ _ _ _ (T1.setTop (mkF m 14 #[rv oa, iv 2, iv va, iv 0] [(.int ((2 : Int32) / (2 : Int32))), (.ref oz)]))
  rw [show ((2 : Int32) / (2 : Int32)) = (1 : Int32) from by decide +kernel]
  refine own_Fin.go (fun t k => XS.aloadN X1.here hx rfl (hb hby d9_14) rfl rfl k) ?_
  refine own_gF X1 hx hZ hown (own_W hw 39 rfl) e1 F_oa_cells rfl rfl (hb hby d9_15) ?_
  intro T2 X2 e2
  refine own_Fin.go (fun t k => XS.iloadN X2.here hx rfl (hb hby d9_18) rfl (XS.iconst X2.here hx rfl (hb hby d9_19) (XS.idiv X2.here hx rfl (hb hby d9_20) rfl (by decide) k))) ?_
  show own_Fin _ _ _ _ _ _ _ (T2.setTop (mkF m 21 #[rv oa, iv 2, iv va, iv 0] [(.int ((2 : Int32) / (2 : Int32))), (.ref oz), (.int 1), (.ref oz)]))
  rw [show ((2 : Int32) / (2 : Int32)) = (1 : Int32) from by decide +kernel]
  refine own_lal X2 hx hZ e2 V_oz ⟨by decide, Int32.lt_of_le_of_lt (by decide) hN⟩ (v := HB) rfl rfl rfl (hb hby d9_21) ?_
  refine own_Fin.go (fun t k => X2.ldc2Long hx hown (mvT hZ (own_W hw 74 rfl)) (g := (mkF m 22 #[rv oa, iv 2, iv va, iv 0] [(.long HB), (.int 1), (.ref oz)])) rfl (hb hby d9_22) t k) ?_
  refine own_Fin.go (fun t k => XS.iloadN X2.here hx rfl (hb hby d9_25) rfl (XS.lshl X2.here hx rfl (hb hby d9_26) rfl k)) ?_
  show own_Fin _ _ _ _ _ _ _ (T2.setTop (mkF m 27 #[rv oa, iv 2, iv va, iv 0] [(.long ((1073741823 : Int64) <<< ((0 : Int32) &&& 0x3f).toInt64)), (.long HB), (.int 1), (.ref oz)]))
  rw [show ((1073741823 : Int64) <<< ((0 : Int32) &&& 0x3f).toInt64) = (1073741823 : Int64) from by decide +kernel]
  refine own_Fin.go (fun t k => X2.ldc2Long hx hown (mvT hZ (own_W hw 100 rfl)) (g := (mkF m 27 #[rv oa, iv 2, iv va, iv 0] [(.long 1073741823), (.long HB), (.int 1), (.ref oz)])) rfl (hb hby d9_27) t k) ?_
  refine own_Fin.go (fun t k => XS.lxor X2.here hx rfl (hb hby d9_30) rfl k) ?_
  show own_Fin _ _ _ _ _ _ _ (T2.setTop (mkF m 31 #[rv oa, iv 2, iv va, iv 0] [(.long ((1073741823 : Int64) ^^^ (-1 : Int64))), (.long HB), (.int 1), (.ref oz)]))
  rw [show ((1073741823 : Int64) ^^^ (-1 : Int64)) = (-1073741824 : Int64) from by decide +kernel]
  refine own_Fin.go (fun t k => XS.land X2.here hx rfl (hb hby d9_31) rfl (XS.iloadN X2.here hx rfl (hb hby d9_32) rfl (XS.i2l X2.here hx rfl (hb hby d9_33) rfl (XS.iloadN X2.here hx rfl (hb hby d9_34) rfl k)))) ?_
  refine own_Fin.go (fun t k => XS.lshl X2.here hx rfl (hb hby d9_35) rfl k) ?_
  show own_Fin _ _ _ _ _ _ _ (T2.setTop (mkF m 36 #[rv oa, iv 2, iv va, iv 0] [(.long ((va.toInt64) <<< ((0 : Int32) &&& 0x3f).toInt64)), (.long (HB &&& (-1073741824 : Int64))), (.int 1), (.ref oz)]))
  refine own_Fin.go (fun t k => XS.lor X2.here hx rfl (hb hby d9_36) rfl k) ?_
  obtain ⟨cl4, Ar4, q4, S4, N4l, H4, G4⟩ := (id V_oz)
  have hin4 : ¬ ((1 : Int32) < 0 ∨ cl4.slots.size ≤ ((1 : Int32)).toNatClampNeg) := inb_of S4 ⟨by decide, Int32.lt_of_le_of_lt (by decide) hN⟩
  obtain ⟨T4, h4, X4, e4, W4, st4⟩ := stJ X2 hx hZ e2 Ar4 (j := (1 : Int32)) hin4 (g := (mkF m 37 #[rv oa, iv 2, iv va, iv 0] [(.long ((HB &&& (-1073741824 : Int64)) ||| ((va.toInt64) <<< ((0 : Int32) &&& 0x3f).toInt64))), (.int 1), (.ref oz)])) rfl rfl (hb hby d9_37)
  refine own_Fin.go st4 ?_
  have V_oz_4 := Arv.set Ar4 q4 S4 N4l H4 G4 rfl W4 1 rfl (by simp)
  replace V_oz_4 : Arv Z h4 oz kz .long NN ((.long HA) :: (.long ((HB &&& (-1073741824 : Int64)) ||| ((va.toInt64) <<< ((0 : Int32) &&& 0x3f).toInt64))) :: RR) (.long 0) := V_oz_4
  have F_oa_cells_4 := Fld.other W4 F_oa_cells (Or.inl ne_oa_oz)
  have Z4 := Nat.le_trans Z0 (Keep.of_wr W4).1
  have K4 := K0.wr W4 (Or.inl (List.mem_of_getElem? (i := 0) rfl))
  have N4 := Fr.snoc X4 N0 g_oz
  show own_Fin _ _ _ _ _ _ _ (T4.setTop (mkF m 38 #[rv oa, iv 2, iv va, iv 0] []))
  refine own_ret0 X4 hx Bd.returns (hb hby d9_38) Bd.notSynchronized (by decide) (by decide) ?_
  rw [e4]
  exact ⟨rfl, N4, K4, V_oz_4⟩
theorem d8_0 : decode prog_4_method_20_code 0 = .ok (.lload_n 0, 1) := by decide +kernel
theorem d8_1 : decode prog_4_method_20_code 1 = .ok (.lload_n 2, 1) := by decide +kernel
theorem d8_2 : decode prog_4_method_20_code 2 = .ok (.ladd, 1) := by decide +kernel
theorem d8_3 : decode prog_4_method_20_code 3 = .ok (.lstore 4, 2) := by decide +kernel
theorem d8_5 : decode prog_4_method_20_code 5 = .ok (.lload 4, 2) := by decide +kernel
theorem d8_7 : decode prog_4_method_20_code 7 = .ok (.lconst 0, 1) := by decide +kernel
theorem d8_8 : decode prog_4_method_20_code 8 = .ok (.lcmp, 1) := by decide +kernel
theorem d8_9 : decode prog_4_method_20_code 9 = .ok (.ifCond .ge 9, 3) := by decide +kernel
theorem d8_12 : decode prog_4_method_20_code 12 = .ok (.ldc2_w 177, 3) := by decide +kernel
theorem d8_15 : decode prog_4_method_20_code 15 = .ok (.goto 5, 3) := by decide +kernel
theorem d8_18 : decode prog_4_method_20_code 18 = .ok (.lload 4, 2) := by decide +kernel
theorem d8_20 : decode prog_4_method_20_code 20 = .ok (.lreturn, 1) := by decide +kernel
theorem own_ef_sat (m : MethodId) (va : Int64) (vb : Int64) : entryFrame m #[(.long va), (.long vb)] 6 = mkF m 0 #[jv va, sS, jv vb, sS, uS, uS] [] := by first | (simp [entryFrame, mkF, argsToLocals, Value.category]; done) | rfl
def own_Q_sat (Z : State) (va : Int64) (vb : Int64) (h0 : Heap) (n0 : Nat) (v : Option Value) (h : Heap) (L : List Loc) : Prop := v = some (.long (own_sat va vb)) ∧ Fr n0 L ∧ h = h0
set_option maxRecDepth 65536 in
set_option maxHeartbeats 40000000 in
theorem own_rm_sat (l : Launch) (Z : State) (a0 : Array Value) (hw : ∀ d ∈ tables_1, d.before a0 Z = true) (ws : List Jvm.Cond) (va : Int64) (vb : Int64) (h0 : Heap) (n0 : Nat) (Z0 : n0 ≤ h0.size) :
    MetFree l own_y9 (head1 (Jvm.Cond.code own_y9 prog_4_method_20_code 6 (some .long) :: ws) ({ frames := 0, cells := 0, slots := 0, locals := 0 } : Room)) (fun a U => a = #[(.long va), (.long vb)] ∧ Z.Warmed39 U.vm ∧ U.heap = h0) (fun _ _ _ _ _ => True) (fun _ U o U' => ∃ v L, o = .returned v ∧ own_Q_sat Z va vb h0 n0 v U'.heap L ∧ FrameEnd U o U' L ({ frames := 0, cells := 0, slots := 0, locals := 0 } : Room).cells ({ frames := 0, cells := 0, slots := 0, locals := 0 } : Room).slots) := by
  refine MetFree.of_bodySF (plainFor_of_name own_pn0) hisR ?_
  intro p e s m args below meth c s₁ Bd hml0 hP hK
  obtain ⟨rfl, hZ, hh⟩ := hP
  have hx := Bd.exec
  have hby := Bd.bytes
  have hml : c.maxLocals = 6 := hml0
  have hown : s.vm.findClass own_k0 = some m.cls := findClass_of_methodNamed Bd.named
  have hnm := (name_of_methodNamed Bd.named Bd.method).1
  have X0 : Stand p l e ({ frames := 0, cells := 0, slots := 0, locals := 0 } : Room) s m #[(.long va), (.long vb)] below meth c s₁ [] 0 0 := Stand.of_body Bd
  have e0 : s₁.heap = h0 := by rw [← hh, Bd.state]; rfl
  have N0 := Fr.nil n0
  show own_Fin p e below s (own_Q_sat Z va vb h0 n0) ({ frames := 0, cells := 0, slots := 0, locals := 0 } : Room).cells ({ frames := 0, cells := 0, slots := 0, locals := 0 } : Room).slots (s₁.setTop (entryFrame m #[(.long va), (.long vb)] 6))
  refine own_Fin.go (fun t k => castTop (own_ef_sat m va vb) k) ?_
  refine own_Fin.go (fun t k => XS.lloadN X0.here hx rfl (hb hby d8_0) rfl (XS.lloadN X0.here hx rfl (hb hby d8_1) rfl (XS.ladd X0.here hx rfl (hb hby d8_2) rfl (XS.lstore X0.here hx rfl (hb hby d8_3) rfl (l' := #[jv va, sS, jv vb, sS, .val (.long (va + vb)), sS]) rfl k)))) ?_
  show own_Fin _ _ _ _ _ _ _ (s₁.setTop (mkF m 5 #[jv va, sS, jv vb, sS, .val (.long (va + vb)), sS] []))
  refine own_Fin.go (fun t k => XS.lload X0.here hx rfl (hb hby d8_5) rfl (XS.lconst X0.here hx rfl (hb hby d8_7) (XS.lcmp X0.here hx rfl (hb hby d8_8) rfl k))) ?_
  show own_Fin _ _ _ _ _ _ _ (s₁.setTop (mkF m 9 #[jv va, sS, jv vb, sS, .val (.long (va + vb)), sS] [(.int (lcmpW (va + vb) (0 : Int64)))]))
  by_cases hc9 : (va + vb) < (0 : Int64)
  · refine own_Fin.go (fun t k => XS.ifNo X0.here hx rfl (hb hby d8_9) rfl (Jvm.Free.XT.ll_ge_f hc9) k) ?_
    show own_Fin _ _ _ _ _ _ _ (s₁.setTop (mkF m 12 #[jv va, sS, jv vb, sS, .val (.long (va + vb)), sS] []))
    refine own_Fin.go (fun t k => X0.ldc2Long hx hown (mvT hZ (own_W hw 114 rfl)) (g := (mkF m 12 #[jv va, sS, jv vb, sS, .val (.long (va + vb)), sS] [])) rfl (hb hby d8_12) t k) ?_
    refine own_Fin.go (fun t k => XS.goto X0.here hx rfl (pc0 := 15) (pc' := 20) rfl (hb hby d8_15) (by decide) (by decide) k) ?_
    show own_Fin _ _ _ _ _ _ _ (s₁.setTop (mkF m 20 #[jv va, sS, jv vb, sS, .val (.long (va + vb)), sS] [(.long 9223372036854775807)]))
    refine own_retJ X0 hx Bd.returns (hb hby d8_20) Bd.notSynchronized (by decide) (by decide) ?_
    rw [e0]
    exact ⟨by simp only [own_sat, if_pos hc9], N0, rfl⟩
  · refine own_Fin.go (fun t k => XS.ifYes X0.here hx rfl (pc0 := 9) (pc' := 18) rfl (hb hby d8_9) rfl (Jvm.Free.XT.ll_ge_t hc9) (by decide) (by decide) k) ?_
    show own_Fin _ _ _ _ _ _ _ (s₁.setTop (mkF m 18 #[jv va, sS, jv vb, sS, .val (.long (va + vb)), sS] []))
    refine own_Fin.go (fun t k => XS.lload X0.here hx rfl (hb hby d8_18) rfl k) ?_
    show own_Fin _ _ _ _ _ _ _ (s₁.setTop (mkF m 20 #[jv va, sS, jv vb, sS, .val (.long (va + vb)), sS] [(.long (va + vb))]))
    refine own_retJ X0 hx Bd.returns (hb hby d8_20) Bd.notSynchronized (by decide) (by decide) ?_
    rw [e0]
    exact ⟨by simp only [own_sat, if_neg hc9], N0, rfl⟩
theorem d14_0 : decode method_4_code 0 = .ok (.lload_n 0, 1) := by decide +kernel
theorem d14_1 : decode method_4_code 1 = .ok (.ldc2_w 45, 3) := by decide +kernel
theorem d14_4 : decode method_4_code 4 = .ok (.lload_n 2, 1) := by decide +kernel
theorem d14_5 : decode method_4_code 5 = .ok (.lsub, 1) := by decide +kernel
theorem d14_6 : decode method_4_code 6 = .ok (.lcmp, 1) := by decide +kernel
theorem d14_7 : decode method_4_code 7 = .ok (.ifCond .le 9, 3) := by decide +kernel
theorem d14_10 : decode method_4_code 10 = .ok (.ldc2_w 45, 3) := by decide +kernel
theorem d14_13 : decode method_4_code 13 = .ok (.goto 6, 3) := by decide +kernel
theorem d14_16 : decode method_4_code 16 = .ok (.lload_n 0, 1) := by decide +kernel
theorem d14_17 : decode method_4_code 17 = .ok (.lload_n 2, 1) := by decide +kernel
theorem d14_18 : decode method_4_code 18 = .ok (.ladd, 1) := by decide +kernel
theorem d14_19 : decode method_4_code 19 = .ok (.lreturn, 1) := by decide +kernel
theorem own_pn1 : plainName "com/example/inrush/inrush/engine/CounterSumPinLaw" = true := by first | (simp [plainName, overriddenIn]; done) | decide +kernel
theorem own_ef_cap (m : MethodId) (va : Int64) (vb : Int64) : entryFrame m #[(.long va), (.long vb)] 4 = mkF m 0 #[jv va, sS, jv vb, sS] [] := by first | (simp [entryFrame, mkF, argsToLocals, Value.category]; done) | rfl
def own_Q_cap (Z : State) (va : Int64) (vb : Int64) (h0 : Heap) (n0 : Nat) (v : Option Value) (h : Heap) (L : List Loc) : Prop := v = some (.long (own_cap va vb)) ∧ Fr n0 L ∧ h = h0
set_option maxRecDepth 65536 in
set_option maxHeartbeats 40000000 in
theorem own_rm_cap (l : Launch) (Z : State) (a0 : Array Value) (hw : ∀ d ∈ tables_1, d.before a0 Z = true) (ws : List Jvm.Cond) (va : Int64) (vb : Int64) (h0 : Heap) (n0 : Nat) (Z0 : n0 ≤ h0.size) :
    MetFree l own_y10 (head1 (Jvm.Cond.code own_y10 method_4_code 4 (some .long) :: ws) ({ frames := 0, cells := 0, slots := 0, locals := 0 } : Room)) (fun a U => a = #[(.long va), (.long vb)] ∧ Z.Warmed39 U.vm ∧ U.heap = h0) (fun _ _ _ _ _ => True) (fun _ U o U' => ∃ v L, o = .returned v ∧ own_Q_cap Z va vb h0 n0 v U'.heap L ∧ FrameEnd U o U' L ({ frames := 0, cells := 0, slots := 0, locals := 0 } : Room).cells ({ frames := 0, cells := 0, slots := 0, locals := 0 } : Room).slots) := by
  refine MetFree.of_bodySF (plainFor_of_name own_pn1) hisR ?_
  intro p e s m args below meth c s₁ Bd hml0 hP hK
  obtain ⟨rfl, hZ, hh⟩ := hP
  have hx := Bd.exec
  have hby := Bd.bytes
  have hml : c.maxLocals = 4 := hml0
  have hown : s.vm.findClass own_k1 = some m.cls := findClass_of_methodNamed Bd.named
  have hnm := (name_of_methodNamed Bd.named Bd.method).1
  have X0 : Stand p l e ({ frames := 0, cells := 0, slots := 0, locals := 0 } : Room) s m #[(.long va), (.long vb)] below meth c s₁ [] 0 0 := Stand.of_body Bd
  have e0 : s₁.heap = h0 := by rw [← hh, Bd.state]; rfl
  have N0 := Fr.nil n0
  show own_Fin p e below s (own_Q_cap Z va vb h0 n0) ({ frames := 0, cells := 0, slots := 0, locals := 0 } : Room).cells ({ frames := 0, cells := 0, slots := 0, locals := 0 } : Room).slots (s₁.setTop (entryFrame m #[(.long va), (.long vb)] 4))
  refine own_Fin.go (fun t k => castTop (own_ef_cap m va vb) k) ?_
  refine own_Fin.go (fun t k => XS.lloadN X0.here hx rfl (hb hby d14_0) rfl k) ?_
  refine own_Fin.go (fun t k => X0.ldc2Long hx hown (mvT hZ (own_W hw 4 rfl)) (g := (mkF m 1 #[jv va, sS, jv vb, sS] [(.long va)])) rfl (hb hby d14_1) t k) ?_
  refine own_Fin.go (fun t k => XS.lloadN X0.here hx rfl (hb hby d14_4) rfl (XS.lsub X0.here hx rfl (hb hby d14_5) rfl k)) ?_
  show own_Fin _ _ _ _ _ _ _ (s₁.setTop (mkF m 6 #[jv va, sS, jv vb, sS] [(.long ((9223372036854775807 : Int64) - vb)), (.long va)]))
  refine own_Fin.go (fun t k => XS.lcmp X0.here hx rfl (hb hby d14_6) rfl k) ?_
  show own_Fin _ _ _ _ _ _ _ (s₁.setTop (mkF m 7 #[jv va, sS, jv vb, sS] [(.int (lcmpW va ((9223372036854775807 : Int64) - vb)))]))
  by_cases hc7 : ((9223372036854775807 : Int64) - vb) < va
  · refine own_Fin.go (fun t k => XS.ifNo X0.here hx rfl (hb hby d14_7) rfl (Jvm.Free.XT.ll_le_f hc7) k) ?_
    show own_Fin _ _ _ _ _ _ _ (s₁.setTop (mkF m 10 #[jv va, sS, jv vb, sS] []))
    refine own_Fin.go (fun t k => X0.ldc2Long hx hown (mvT hZ (own_W hw 4 rfl)) (g := (mkF m 10 #[jv va, sS, jv vb, sS] [])) rfl (hb hby d14_10) t k) ?_
    refine own_Fin.go (fun t k => XS.goto X0.here hx rfl (pc0 := 13) (pc' := 19) rfl (hb hby d14_13) (by decide) (by decide) k) ?_
    show own_Fin _ _ _ _ _ _ _ (s₁.setTop (mkF m 19 #[jv va, sS, jv vb, sS] [(.long 9223372036854775807)]))
    refine own_retJ X0 hx Bd.returns (hb hby d14_19) Bd.notSynchronized (by decide) (by decide) ?_
    rw [e0]
    exact ⟨by simp only [own_cap, if_pos hc7], N0, rfl⟩
  · refine own_Fin.go (fun t k => XS.ifYes X0.here hx rfl (pc0 := 7) (pc' := 16) rfl (hb hby d14_7) rfl (Jvm.Free.XT.ll_le_t hc7) (by decide) (by decide) k) ?_
    show own_Fin _ _ _ _ _ _ _ (s₁.setTop (mkF m 16 #[jv va, sS, jv vb, sS] []))
    refine own_Fin.go (fun t k => XS.lloadN X0.here hx rfl (hb hby d14_16) rfl (XS.lloadN X0.here hx rfl (hb hby d14_17) rfl (XS.ladd X0.here hx rfl (hb hby d14_18) rfl k))) ?_
    show own_Fin _ _ _ _ _ _ _ (s₁.setTop (mkF m 19 #[jv va, sS, jv vb, sS] [(.long (va + vb))]))
    refine own_retJ X0 hx Bd.returns (hb hby d14_19) Bd.notSynchronized (by decide) (by decide) ?_
    rw [e0]
    exact ⟨by simp only [own_cap, if_neg hc7], N0, rfl⟩
theorem d15_0 : decode method_3_code 0 = .ok (.lload_n 0, 1) := by decide +kernel
theorem d15_1 : decode method_3_code 1 = .ok (.ldc2_w 45, 3) := by decide +kernel
theorem d15_4 : decode method_3_code 4 = .ok (.land, 1) := by decide +kernel
theorem d15_5 : decode method_3_code 5 = .ok (.lstore_n 2, 1) := by decide +kernel
theorem d15_6 : decode method_3_code 6 = .ok (.lload_n 2, 1) := by decide +kernel
theorem d15_7 : decode method_3_code 7 = .ok (.lconst 0, 1) := by decide +kernel
theorem d15_8 : decode method_3_code 8 = .ok (.lcmp, 1) := by decide +kernel
theorem d15_9 : decode method_3_code 9 = .ok (.ifCond .ne 7, 3) := by decide +kernel
theorem d15_12 : decode method_3_code 12 = .ok (.lconst 1, 1) := by decide +kernel
theorem d15_13 : decode method_3_code 13 = .ok (.goto 4, 3) := by decide +kernel
theorem d15_16 : decode method_3_code 16 = .ok (.lload_n 2, 1) := by decide +kernel
theorem d15_17 : decode method_3_code 17 = .ok (.lreturn, 1) := by decide +kernel
theorem own_ef_pos (m : MethodId) (va : Int64) : entryFrame m #[(.long va)] 4 = mkF m 0 #[jv va, sS, uS, uS] [] := by first | (simp [entryFrame, mkF, argsToLocals, Value.category]; done) | rfl
def own_Q_pos (Z : State) (va : Int64) (h0 : Heap) (n0 : Nat) (v : Option Value) (h : Heap) (L : List Loc) : Prop := v = some (.long (own_pos va)) ∧ Fr n0 L ∧ h = h0
set_option maxRecDepth 65536 in
set_option maxHeartbeats 40000000 in
theorem own_rm_pos (l : Launch) (Z : State) (a0 : Array Value) (hw : ∀ d ∈ tables_1, d.before a0 Z = true) (ws : List Jvm.Cond) (va : Int64) (h0 : Heap) (n0 : Nat) (Z0 : n0 ≤ h0.size) :
    MetFree l own_y11 (head1 (Jvm.Cond.code own_y11 method_3_code 4 (some .long) :: ws) ({ frames := 0, cells := 0, slots := 0, locals := 0 } : Room)) (fun a U => a = #[(.long va)] ∧ Z.Warmed39 U.vm ∧ U.heap = h0) (fun _ _ _ _ _ => True) (fun _ U o U' => ∃ v L, o = .returned v ∧ own_Q_pos Z va h0 n0 v U'.heap L ∧ FrameEnd U o U' L ({ frames := 0, cells := 0, slots := 0, locals := 0 } : Room).cells ({ frames := 0, cells := 0, slots := 0, locals := 0 } : Room).slots) := by
  refine MetFree.of_bodySF (plainFor_of_name own_pn1) hisR ?_
  intro p e s m args below meth c s₁ Bd hml0 hP hK
  obtain ⟨rfl, hZ, hh⟩ := hP
  have hx := Bd.exec
  have hby := Bd.bytes
  have hml : c.maxLocals = 4 := hml0
  have hown : s.vm.findClass own_k1 = some m.cls := findClass_of_methodNamed Bd.named
  have hnm := (name_of_methodNamed Bd.named Bd.method).1
  have X0 : Stand p l e ({ frames := 0, cells := 0, slots := 0, locals := 0 } : Room) s m #[(.long va)] below meth c s₁ [] 0 0 := Stand.of_body Bd
  have e0 : s₁.heap = h0 := by rw [← hh, Bd.state]; rfl
  have N0 := Fr.nil n0
  show own_Fin p e below s (own_Q_pos Z va h0 n0) ({ frames := 0, cells := 0, slots := 0, locals := 0 } : Room).cells ({ frames := 0, cells := 0, slots := 0, locals := 0 } : Room).slots (s₁.setTop (entryFrame m #[(.long va)] 4))
  refine own_Fin.go (fun t k => castTop (own_ef_pos m va) k) ?_
  refine own_Fin.go (fun t k => XS.lloadN X0.here hx rfl (hb hby d15_0) rfl k) ?_
  refine own_Fin.go (fun t k => X0.ldc2Long hx hown (mvT hZ (own_W hw 4 rfl)) (g := (mkF m 1 #[jv va, sS, uS, uS] [(.long va)])) rfl (hb hby d15_1) t k) ?_
  refine own_Fin.go (fun t k => XS.land X0.here hx rfl (hb hby d15_4) rfl (XS.lstoreN X0.here hx rfl (hb hby d15_5) rfl (l' := #[jv va, sS, .val (.long (va &&& (9223372036854775807 : Int64))), sS]) rfl k)) ?_
  show own_Fin _ _ _ _ _ _ _ (s₁.setTop (mkF m 6 #[jv va, sS, .val (.long (va &&& (9223372036854775807 : Int64))), sS] []))
  refine own_Fin.go (fun t k => XS.lloadN X0.here hx rfl (hb hby d15_6) rfl (XS.lconst X0.here hx rfl (hb hby d15_7) (XS.lcmp X0.here hx rfl (hb hby d15_8) rfl k))) ?_
  show own_Fin _ _ _ _ _ _ _ (s₁.setTop (mkF m 9 #[jv va, sS, .val (.long (va &&& (9223372036854775807 : Int64))), sS] [(.int (lcmpW (va &&& (9223372036854775807 : Int64)) (0 : Int64)))]))
  by_cases hc9 : (va &&& (9223372036854775807 : Int64)) = (0 : Int64)
  · refine own_Fin.go (fun t k => XS.ifNo X0.here hx rfl (hb hby d15_9) rfl (Jvm.Free.XT.ll_ne_f hc9) k) ?_
    show own_Fin _ _ _ _ _ _ _ (s₁.setTop (mkF m 12 #[jv va, sS, .val (.long (va &&& (9223372036854775807 : Int64))), sS] []))
    refine own_Fin.go (fun t k => XS.lconst X0.here hx rfl (hb hby d15_12) (XS.goto X0.here hx rfl (pc0 := 13) (pc' := 17) rfl (hb hby d15_13) (by decide) (by decide) k)) ?_
    show own_Fin _ _ _ _ _ _ _ (s₁.setTop (mkF m 17 #[jv va, sS, .val (.long (va &&& (9223372036854775807 : Int64))), sS] [(.long 1)]))
    refine own_retJ X0 hx Bd.returns (hb hby d15_17) Bd.notSynchronized (by decide) (by decide) ?_
    rw [e0]
    exact ⟨by simp only [own_pos, if_pos hc9], N0, rfl⟩
  · refine own_Fin.go (fun t k => XS.ifYes X0.here hx rfl (pc0 := 9) (pc' := 16) rfl (hb hby d15_9) rfl (Jvm.Free.XT.ll_ne_t hc9) (by decide) (by decide) k) ?_
    show own_Fin _ _ _ _ _ _ _ (s₁.setTop (mkF m 16 #[jv va, sS, .val (.long (va &&& (9223372036854775807 : Int64))), sS] []))
    refine own_Fin.go (fun t k => XS.lloadN X0.here hx rfl (hb hby d15_16) rfl k) ?_
    show own_Fin _ _ _ _ _ _ _ (s₁.setTop (mkF m 17 #[jv va, sS, .val (.long (va &&& (9223372036854775807 : Int64))), sS] [(.long (va &&& (9223372036854775807 : Int64)))]))
    refine own_retJ X0 hx Bd.returns (hb hby d15_17) Bd.notSynchronized (by decide) (by decide) ?_
    rw [e0]
    exact ⟨by simp only [own_pos, if_neg hc9], N0, rfl⟩
theorem d17_0 : decode jdk_29_method_69_code 0 = .ok (.iload_n 0, 1) := by decide +kernel
theorem d17_1 : decode jdk_29_method_69_code 1 = .ok (.iload_n 1, 1) := by decide +kernel
theorem d17_2 : decode jdk_29_method_69_code 2 = .ok (.if_icmp .gt 7, 3) := by decide +kernel
theorem d17_5 : decode jdk_29_method_69_code 5 = .ok (.iload_n 0, 1) := by decide +kernel
theorem d17_6 : decode jdk_29_method_69_code 6 = .ok (.goto 4, 3) := by decide +kernel
theorem d17_9 : decode jdk_29_method_69_code 9 = .ok (.iload_n 1, 1) := by decide +kernel
theorem d17_10 : decode jdk_29_method_69_code 10 = .ok (.ireturn, 1) := by decide +kernel
theorem own_ef_mn (m : MethodId) (va : Int32) (vb : Int32) : entryFrame m #[(.int va), (.int vb)] 2 = mkF m 0 #[iv va, iv vb] [] := by first | (simp [entryFrame, mkF, argsToLocals, Value.category]; done) | rfl
def own_Q_mn (Z : State) (va : Int32) (vb : Int32) (h0 : Heap) (n0 : Nat) (v : Option Value) (h : Heap) (L : List Loc) : Prop := v = some (.int (own_mn va vb)) ∧ Fr n0 L ∧ h = h0
set_option maxRecDepth 65536 in
set_option maxHeartbeats 40000000 in
theorem own_rm_mn (l : Launch) (Z : State) (a0 : Array Value) (hw : ∀ d ∈ tables_1, d.before a0 Z = true) (ws : List Jvm.Cond) (va : Int32) (vb : Int32) (h0 : Heap) (n0 : Nat) (Z0 : n0 ≤ h0.size) :
    MetFree l own_y12 (head1 (Jvm.Cond.code own_y12 jdk_29_method_69_code 2 (some .int) :: ws) ({ frames := 0, cells := 0, slots := 0, locals := 0 } : Room)) (fun a U => a = #[(.int va), (.int vb)] ∧ Z.Warmed39 U.vm ∧ U.heap = h0) (fun _ _ _ _ _ => True) (fun _ U o U' => ∃ v L, o = .returned v ∧ own_Q_mn Z va vb h0 n0 v U'.heap L ∧ FrameEnd U o U' L ({ frames := 0, cells := 0, slots := 0, locals := 0 } : Room).cells ({ frames := 0, cells := 0, slots := 0, locals := 0 } : Room).slots) := by
  refine MetFree.of_bodySF (Jvm.Free.JP.mathPlain rfl (by decide +kernel)) hisR ?_
  intro p e s m args below meth c s₁ Bd hml0 hP hK
  obtain ⟨rfl, hZ, hh⟩ := hP
  have hx := Bd.exec
  have hby := Bd.bytes
  have hml : c.maxLocals = 2 := hml0
  have hown : s.vm.findClass "java/lang/Math" = some m.cls := findClass_of_methodNamed Bd.named
  have hnm := (name_of_methodNamed Bd.named Bd.method).1
  have X0 : Stand p l e ({ frames := 0, cells := 0, slots := 0, locals := 0 } : Room) s m #[(.int va), (.int vb)] below meth c s₁ [] 0 0 := Stand.of_body Bd
  have e0 : s₁.heap = h0 := by rw [← hh, Bd.state]; rfl
  have N0 := Fr.nil n0
  show own_Fin p e below s (own_Q_mn Z va vb h0 n0) ({ frames := 0, cells := 0, slots := 0, locals := 0 } : Room).cells ({ frames := 0, cells := 0, slots := 0, locals := 0 } : Room).slots (s₁.setTop (entryFrame m #[(.int va), (.int vb)] 2))
  refine own_Fin.go (fun t k => castTop (own_ef_mn m va vb) k) ?_
  refine own_Fin.go (fun t k => XS.iloadN X0.here hx rfl (hb hby d17_0) rfl (XS.iloadN X0.here hx rfl (hb hby d17_1) rfl k)) ?_
  show own_Fin _ _ _ _ _ _ _ (s₁.setTop (mkF m 2 #[iv va, iv vb] [(.int vb), (.int va)]))
  by_cases hc2 : vb < va
  · refine own_Fin.go (fun t k => XS.icmpYes X0.here hx rfl (pc0 := 2) (pc' := 9) rfl (hb hby d17_2) rfl (Jvm.Free.XT.ii_gt_t hc2) (by decide) (by decide) k) ?_
    show own_Fin _ _ _ _ _ _ _ (s₁.setTop (mkF m 9 #[iv va, iv vb] []))
    refine own_Fin.go (fun t k => XS.iloadN X0.here hx rfl (hb hby d17_9) rfl k) ?_
    show own_Fin _ _ _ _ _ _ _ (s₁.setTop (mkF m 10 #[iv va, iv vb] [(.int vb)]))
    refine own_retI X0 hx Bd.returns (hb hby d17_10) Bd.notSynchronized (by decide) (by decide) ?_
    rw [e0]
    exact ⟨by simp only [own_mn, if_pos hc2], N0, rfl⟩
  · refine own_Fin.go (fun t k => XS.icmpNo X0.here hx rfl (hb hby d17_2) rfl (Jvm.Free.XT.ii_gt_f hc2) k) ?_
    show own_Fin _ _ _ _ _ _ _ (s₁.setTop (mkF m 5 #[iv va, iv vb] []))
    refine own_Fin.go (fun t k => XS.iloadN X0.here hx rfl (hb hby d17_5) rfl (XS.goto X0.here hx rfl (pc0 := 6) (pc' := 10) rfl (hb hby d17_6) (by decide) (by decide) k)) ?_
    show own_Fin _ _ _ _ _ _ _ (s₁.setTop (mkF m 10 #[iv va, iv vb] [(.int va)]))
    refine own_retI X0 hx Bd.returns (hb hby d17_10) Bd.notSynchronized (by decide) (by decide) ?_
    rw [e0]
    exact ⟨by simp only [own_mn, if_neg hc2], N0, rfl⟩
theorem d16_0 : decode prog_40_method_1_code 0 = .ok (.aload_n 0, 1) := by decide +kernel
theorem d16_1 : decode prog_40_method_1_code 1 = .ok (.invokespecial 1, 3) := by decide +kernel
theorem d16_4 : decode prog_40_method_1_code 4 = .ok (.return_, 1) := by decide +kernel
theorem own_pn2 : plainName "com/example/inrush/inrush/engine/Tally" = true := by first | (simp [plainName, overriddenIn]; done) | decide +kernel
theorem own_ef_tal (m : MethodId) (oa : Addr) : entryFrame m #[(.ref oa)] 1 = mkF m 0 #[rv oa] [] := by first | (simp [entryFrame, mkF, argsToLocals, Value.category]; done) | rfl
def own_Q_tal (Z : State) (oa : Addr) (h0 : Heap) (n0 : Nat) (v : Option Value) (h : Heap) (L : List Loc) : Prop := v = none ∧ Fr n0 L ∧ h = h0
set_option maxRecDepth 65536 in
set_option maxHeartbeats 40000000 in
theorem own_rm_tal (l : Launch) (Z : State) (a0 : Array Value) (hw : ∀ d ∈ tables_1, d.before a0 Z = true) (ws : List Jvm.Cond) (oa : Addr) (h0 : Heap) (n0 : Nat) (Z0 : n0 ≤ h0.size) :
    MetFree l own_y13 (head1 (Jvm.Cond.code own_y13 prog_40_method_1_code 1 none :: ws) ({ frames := 1, cells := 0, slots := 0, locals := 12 } : Room)) (fun a U => a = #[(.ref oa)] ∧ Z.Warmed39 U.vm ∧ U.heap = h0) (fun _ _ _ _ _ => True) (fun _ U o U' => ∃ v L, o = .returned v ∧ own_Q_tal Z oa h0 n0 v U'.heap L ∧ FrameEnd U o U' L ({ frames := 1, cells := 0, slots := 0, locals := 12 } : Room).cells ({ frames := 1, cells := 0, slots := 0, locals := 12 } : Room).slots) := by
  refine MetFree.of_bodySF (plainFor_of_name own_pn2) hisR ?_
  intro p e s m args below meth c s₁ Bd hml0 hP hK
  obtain ⟨rfl, hZ, hh⟩ := hP
  have hx := Bd.exec
  have hby := Bd.bytes
  have hml : c.maxLocals = 1 := hml0
  have hown : s.vm.findClass own_k2 = some m.cls := findClass_of_methodNamed Bd.named
  have hnm := (name_of_methodNamed Bd.named Bd.method).1
  have X0 : Stand p l e ({ frames := 1, cells := 0, slots := 0, locals := 12 } : Room) s m #[(.ref oa)] below meth c s₁ [] 0 0 := Stand.of_body Bd
  have e0 : s₁.heap = h0 := by rw [← hh, Bd.state]; rfl
  have N0 := Fr.nil n0
  show own_Fin p e below s (own_Q_tal Z oa h0 n0) ({ frames := 1, cells := 0, slots := 0, locals := 12 } : Room).cells ({ frames := 1, cells := 0, slots := 0, locals := 12 } : Room).slots (s₁.setTop (entryFrame m #[(.ref oa)] 1))
  refine own_Fin.go (fun t k => castTop (own_ef_tal m oa) k) ?_
  refine own_Fin.go (fun t k => XS.aloadN X0.here hx rfl (hb hby d16_0) rfl rfl k) ?_
  obtain ⟨T1, X1, e1, st1⟩ := initO X0 hx hZ hown (own_W hw 12 rfl) (own_W hw 13 rfl) (own_W hw 14 rfl) e0 (g := (mkF m 1 #[rv oa] [(.ref oa)])) rfl (by rw [hml]; rfl) rfl (hb hby d16_1) (by decide) (W := 0) (Nat.le_of_eq rfl) (by decide)
  refine own_Fin.go st1 ?_
  show own_Fin _ _ _ _ _ _ _ (T1.setTop (mkF m 4 #[rv oa] []))
  refine own_ret0 X1 hx Bd.returns (hb hby d16_4) Bd.notSynchronized (by decide) (by decide) ?_
  rw [e1]
  exact ⟨rfl, N0, rfl⟩
theorem own_pd3 : parseMethodDescriptor "(II)I" = some ⟨[.int, .int], some .int⟩ := by decide +kernel
theorem d19_0 : decode jdk_65_method_124_code 0 = .ok (.iload_n 1, 1) := by decide +kernel
theorem d19_1 : decode jdk_65_method_124_code 1 = .ok (.aload_n 0, 1) := by decide +kernel
theorem d19_2 : decode jdk_65_method_124_code 2 = .ok (.arraylength, 1) := by decide +kernel
theorem d19_3 : decode jdk_65_method_124_code 3 = .ok (.if_icmp .ne 11, 3) := by decide +kernel
theorem d19_14 : decode jdk_65_method_124_code 14 = .ok (.iload_n 1, 1) := by decide +kernel
theorem d19_15 : decode jdk_65_method_124_code 15 = .ok (.newarray .long, 2) := by decide +kernel
theorem d19_17 : decode jdk_65_method_124_code 17 = .ok (.astore_n 2, 1) := by decide +kernel
theorem d19_18 : decode jdk_65_method_124_code 18 = .ok (.aload_n 0, 1) := by decide +kernel
theorem d19_19 : decode jdk_65_method_124_code 19 = .ok (.iconst 0, 1) := by decide +kernel
theorem d19_20 : decode jdk_65_method_124_code 20 = .ok (.aload_n 2, 1) := by decide +kernel
theorem d19_21 : decode jdk_65_method_124_code 21 = .ok (.iconst 0, 1) := by decide +kernel
theorem d19_22 : decode jdk_65_method_124_code 22 = .ok (.aload_n 0, 1) := by decide +kernel
theorem d19_23 : decode jdk_65_method_124_code 23 = .ok (.arraylength, 1) := by decide +kernel
theorem d19_24 : decode jdk_65_method_124_code 24 = .ok (.iload_n 1, 1) := by decide +kernel
theorem d19_25 : decode jdk_65_method_124_code 25 = .ok (.invokestatic 304, 3) := by decide +kernel
theorem d19_28 : decode jdk_65_method_124_code 28 = .ok (.invokestatic 150, 3) := by decide +kernel
theorem d19_31 : decode jdk_65_method_124_code 31 = .ok (.aload_n 2, 1) := by decide +kernel
theorem d19_32 : decode jdk_65_method_124_code 32 = .ok (.areturn, 1) := by decide +kernel
theorem own_pn3 : plainName "java/util/Arrays" = true := by first | (simp [plainName, overriddenIn]; done) | decide +kernel
theorem own_ef_cpy2 (m : MethodId) (ra : Addr) : entryFrame m #[(.ref ra), (.int 4)] 3 = mkF m 0 #[rv ra, iv 4, uS] [] := by first | (simp [entryFrame, mkF, argsToLocals, Value.category]; done) | rfl
def own_Q_cpy2 (Z : State) (ra : Addr) (ka : ClassId) (ea : Int64) (eb : Int64) (h0 : Heap) (n0 : Nat) (v : Option Value) (h : Heap) (L : List Loc) : Prop := ∃ ob : Addr, ∃ kb : ClassId, v = some (.ref ob) ∧ Fr n0 L ∧ Keep h0 h [] ∧ Arv Z h ob kb .long (4 : Int32) [(.long ea), (.long eb), (.long 0), (.long 0)] (.long 0) ∧ h0.size ≤ ob
set_option maxRecDepth 65536 in
set_option maxHeartbeats 40000000 in
theorem own_rm_cpy2 (l : Launch) (Z : State) (a0 : Array Value) (hw : ∀ d ∈ tables_1, d.before a0 Z = true) (ws : List Jvm.Cond) (ra : Addr) (ka : ClassId) (ea : Int64) (eb : Int64) (h0 : Heap) (n0 : Nat) (Z0 : n0 ≤ h0.size) (V_ra : Arv Z h0 ra ka .long (2 : Int32) [(.long ea), (.long eb)] (.long 0)) :
    MetFree l own_y14 (head1 (Jvm.Cond.code own_y14 jdk_65_method_124_code 3 (some (.array .long)) :: ws) ({ frames := 1, cells := 1, slots := 4, locals := 18 } : Room)) (fun a U => a = #[(.ref ra), (.int 4)] ∧ Z.Warmed39 U.vm ∧ U.heap = h0) (fun _ _ _ _ _ => True) (fun _ U o U' => ∃ v L, o = .returned v ∧ own_Q_cpy2 Z ra ka ea eb h0 n0 v U'.heap L ∧ FrameEnd U o U' L ({ frames := 1, cells := 1, slots := 4, locals := 18 } : Room).cells ({ frames := 1, cells := 1, slots := 4, locals := 18 } : Room).slots) := by
  refine MetFree.of_bodySF (plainFor_of_name own_pn3) hisR ?_
  intro p e s m args below meth c s₁ Bd hml0 hP hK
  obtain ⟨rfl, hZ, hh⟩ := hP
  have hx := Bd.exec
  have hby := Bd.bytes
  have hml : c.maxLocals = 3 := hml0
  have hown : s.vm.findClass "java/util/Arrays" = some m.cls := findClass_of_methodNamed Bd.named
  have hnm := (name_of_methodNamed Bd.named Bd.method).1
  have X0 : Stand p l e ({ frames := 1, cells := 1, slots := 4, locals := 18 } : Room) s m #[(.ref ra), (.int 4)] below meth c s₁ [] 0 0 := Stand.of_body Bd
  have e0 : s₁.heap = h0 := by rw [← hh, Bd.state]; rfl
  have N0 := Fr.nil n0
  have K0 := Keep.refl h0 []
  show own_Fin p e below s (own_Q_cpy2 Z ra ka ea eb h0 n0) ({ frames := 1, cells := 1, slots := 4, locals := 18 } : Room).cells ({ frames := 1, cells := 1, slots := 4, locals := 18 } : Room).slots (s₁.setTop (entryFrame m #[(.ref ra), (.int 4)] 3))
  refine own_Fin.go (fun t k => castTop (own_ef_cpy2 m ra) k) ?_
  refine own_Fin.go (fun t k => XS.iloadN X0.here hx rfl (hb hby d19_0) rfl (XS.aloadN X0.here hx rfl (hb hby d19_1) rfl rfl k)) ?_
  obtain ⟨cl1, Ar1, -, S1, N1l, -, -⟩ := (id V_ra)
  refine own_Fin.go (fun t k => X0.arraylength hx (by rw [e0]; exact Ar1.1) (State.isArrayOf_alike hZ.alike Ar1.2.1) (g := (mkF m 2 #[rv ra, iv 4, uS] [(.ref ra), (.int 4)])) rfl rfl (hb hby d19_2) t k) ?_
  rw [len_of S1 N1l]
  refine own_Fin.go (fun t k => XS.icmpYes X0.here hx rfl (pc0 := 3) (pc' := 14) rfl (hb hby d19_3) rfl (by decide) (by decide) (by decide) k) ?_
  show own_Fin _ _ _ _ _ _ _ (s₁.setTop (mkF m 14 #[rv ra, iv 4, uS] []))
  refine own_Fin.go (fun t k => XS.iloadN X0.here hx rfl (hb hby d19_14) rfl k) ?_
  obtain ⟨T2, h2, k2, X2, e2, E2, A2, st2⟩ := newP X0 hx hZ (own_W hw 38 rfl) e0 (g := (mkF m 15 #[rv ra, iv 4, uS] [(.int 4)])) rfl (hb hby d19_15) rfl (by decide) (cap := 4) (by decide) (by decide) (by decide) (by decide)
  obtain ⟨b2, g2⟩ : ∃ z, z = h0.size := ⟨_, rfl⟩
  rw [← g2] at A2 st2
  refine own_Fin.go st2 ?_
  have g_b2 : n0 ≤ b2 := Nat.le_trans Z0 (Nat.le_of_eq g2.symm)
  have sz_b2 : h0.size ≤ b2 := Nat.le_trans K0.1 (Nat.le_of_eq g2.symm)
  have ne_ra_b2 : ra ≠ b2 := Nat.ne_of_lt (Nat.lt_of_lt_of_le V_ra.lt (Nat.le_of_eq g2.symm))
  have V_ra_2 := V_ra.ext E2
  have Z2 := Nat.le_trans Z0 E2.1
  have K2 := K0.ext E2
  have V_b2 : Arv Z h2 b2 k2 .long (4 : Int32) [(.long 0), (.long 0), (.long 0), (.long 0)] (.long 0) := (Arv.new A2 (by decide)).pad (pad_rep [] (.long 0) 4)
  refine own_Fin.go (fun t k => XS.astoreN X2.here hx rfl (hb hby d19_17) rfl rfl (l' := #[rv ra, iv 4, rv b2]) rfl (XS.aloadN X2.here hx rfl (hb hby d19_18) rfl rfl (XS.iconst X2.here hx rfl (hb hby d19_19) k))) ?_
  show own_Fin _ _ _ _ _ _ _ (T2.setTop (mkF m 20 #[rv ra, iv 4, rv b2] [(.int 0), (.ref ra)]))
  refine own_Fin.go (fun t k => XS.aloadN X2.here hx rfl (hb hby d19_20) rfl rfl (XS.iconst X2.here hx rfl (hb hby d19_21) (XS.aloadN X2.here hx rfl (hb hby d19_22) rfl rfl k))) ?_
  obtain ⟨cl3, Ar3, -, S3, N3l, -, -⟩ := (id V_ra_2)
  refine own_Fin.go (fun t k => X2.arraylength hx (by rw [e2]; exact Ar3.1) (State.isArrayOf_alike hZ.alike Ar3.2.1) (g := (mkF m 23 #[rv ra, iv 4, rv b2] [(.ref ra), (.int 0), (.ref b2), (.int 0), (.ref ra)])) rfl rfl (hb hby d19_23) t k) ?_
  rw [len_of S3 N3l]
  refine own_Fin.go (fun t k => XS.iloadN X2.here hx rfl (hb hby d19_24) rfl k) ?_
  show own_Fin _ _ _ _ _ _ _ (T2.setTop (mkF m 25 #[rv ra, iv 4, rv b2] [(.int 4), (.int 2), (.int 0), (.ref b2), (.int 0), (.ref ra)]))
  refine own_sC X2 hx hZ hown (own_W hw 87 rfl) (own_W hw 88 rfl) (own_W hw 89 rfl) (own_W hw 90 rfl) (by decide) (own_rm_mn l Z a0 hw [] (2 : Int32) (4 : Int32)  h2 n0 Z2 ) 4 (by decide) (by decide) e2 rfl (by rw [hml]; rfl) [(.int 2), (.int 4)] [(.int 0), (.ref b2), (.int 0), (.ref ra)] (lenOf own_pd3 rfl) rfl (Nat.le_of_eq rfl) (hb hby d19_25) rfl (by decide) (by decide) ?_
  rintro T4 Lc4 _ X4 ⟨rfl, N4q, e4⟩
  have N4 := Fr.app N0 N4q
  show own_Fin _ _ _ _ _ _ _ (T4.setTop (mkF m 28 #[rv ra, iv 4, rv b2] [(.int (own_mn (2 : Int32) (4 : Int32))), (.int 0), (.ref b2), (.int 0), (.ref ra)]))
  rw [show (own_mn (2 : Int32) (4 : Int32)) = (2 : Int32) from by decide +kernel]
  obtain ⟨T5, h5, L5, X5, e5, N5, K5q, V5c, st5⟩ := cpA X4 hx hZ hown (own_W hw 91 rfl) (own_W hw 94 rfl) (own_W hw 92 rfl) (own_W hw 93 rfl) e4 V_ra_2 V_b2 (us := [(.long ea), (.long eb)]) (Or.inl ⟨rfl, rfl⟩) (by decide) (by decide) (by decide) (by decide) (by decide) rfl (Nat.le_of_ble_eq_true rfl) N4 g_b2 (g := (mkF m 28 #[rv ra, iv 4, rv b2] [(.int 2), (.int 0), (.ref b2), (.int 0), (.ref ra)])) rfl (by rw [hml]; rfl) rfl (hb hby d19_28) (by decide) (W := 0) (Nat.le_of_eq rfl) (by decide)
  refine own_Fin.go st5 ?_
  have V_b2_5 : Arv Z h5 b2 k2 .long (4 : Int32) [(.long ea), (.long eb), (.long 0), (.long 0)] (.long 0) := V5c
  have V_ra_5 := V_ra_2.keep K5q (ninS ne_ra_b2 nin0)
  have Z5 := Nat.le_trans Z2 K5q.1
  have K5 := K2.trans K5q (allS (Or.inr sz_b2) all0)
  refine own_Fin.go (fun t k => XS.aloadN X5.here hx rfl (hb hby d19_31) rfl rfl k) ?_
  show own_Fin _ _ _ _ _ _ _ (T5.setTop (mkF m 32 #[rv ra, iv 4, rv b2] [(.ref b2)]))
  refine own_retA X5 hx Bd.returns rfl (hb hby d19_32) Bd.notSynchronized (by decide) (by decide) ?_
  rw [e5]
  exact ⟨b2, k2, rfl, N5, K5, V_b2_5, sz_b2⟩
theorem own_ef_cpy4 (m : MethodId) (ra : Addr) : entryFrame m #[(.ref ra), (.int 6)] 3 = mkF m 0 #[rv ra, iv 6, uS] [] := by first | (simp [entryFrame, mkF, argsToLocals, Value.category]; done) | rfl
def own_Q_cpy4 (Z : State) (ra : Addr) (ka : ClassId) (ea : Int64) (eb : Int64) (ec : Int64) (ed : Int64) (h0 : Heap) (n0 : Nat) (v : Option Value) (h : Heap) (L : List Loc) : Prop := ∃ ob : Addr, ∃ kb : ClassId, v = some (.ref ob) ∧ Fr n0 L ∧ Keep h0 h [] ∧ Arv Z h ob kb .long (6 : Int32) [(.long ea), (.long eb), (.long ec), (.long ed), (.long 0), (.long 0)] (.long 0) ∧ h0.size ≤ ob
set_option maxRecDepth 65536 in
set_option maxHeartbeats 40000000 in
theorem own_rm_cpy4 (l : Launch) (Z : State) (a0 : Array Value) (hw : ∀ d ∈ tables_1, d.before a0 Z = true) (ws : List Jvm.Cond) (ra : Addr) (ka : ClassId) (ea : Int64) (eb : Int64) (ec : Int64) (ed : Int64) (h0 : Heap) (n0 : Nat) (Z0 : n0 ≤ h0.size) (V_ra : Arv Z h0 ra ka .long (4 : Int32) [(.long ea), (.long eb), (.long ec), (.long ed)] (.long 0)) :
    MetFree l own_y14 (head1 (Jvm.Cond.code own_y14 jdk_65_method_124_code 3 (some (.array .long)) :: ws) ({ frames := 1, cells := 1, slots := 6, locals := 18 } : Room)) (fun a U => a = #[(.ref ra), (.int 6)] ∧ Z.Warmed39 U.vm ∧ U.heap = h0) (fun _ _ _ _ _ => True) (fun _ U o U' => ∃ v L, o = .returned v ∧ own_Q_cpy4 Z ra ka ea eb ec ed h0 n0 v U'.heap L ∧ FrameEnd U o U' L ({ frames := 1, cells := 1, slots := 6, locals := 18 } : Room).cells ({ frames := 1, cells := 1, slots := 6, locals := 18 } : Room).slots) := by
  refine MetFree.of_bodySF (plainFor_of_name own_pn3) hisR ?_
  intro p e s m args below meth c s₁ Bd hml0 hP hK
  obtain ⟨rfl, hZ, hh⟩ := hP
  have hx := Bd.exec
  have hby := Bd.bytes
  have hml : c.maxLocals = 3 := hml0
  have hown : s.vm.findClass "java/util/Arrays" = some m.cls := findClass_of_methodNamed Bd.named
  have hnm := (name_of_methodNamed Bd.named Bd.method).1
  have X0 : Stand p l e ({ frames := 1, cells := 1, slots := 6, locals := 18 } : Room) s m #[(.ref ra), (.int 6)] below meth c s₁ [] 0 0 := Stand.of_body Bd
  have e0 : s₁.heap = h0 := by rw [← hh, Bd.state]; rfl
  have N0 := Fr.nil n0
  have K0 := Keep.refl h0 []
  show own_Fin p e below s (own_Q_cpy4 Z ra ka ea eb ec ed h0 n0) ({ frames := 1, cells := 1, slots := 6, locals := 18 } : Room).cells ({ frames := 1, cells := 1, slots := 6, locals := 18 } : Room).slots (s₁.setTop (entryFrame m #[(.ref ra), (.int 6)] 3))
  refine own_Fin.go (fun t k => castTop (own_ef_cpy4 m ra) k) ?_
  refine own_Fin.go (fun t k => XS.iloadN X0.here hx rfl (hb hby d19_0) rfl (XS.aloadN X0.here hx rfl (hb hby d19_1) rfl rfl k)) ?_
  obtain ⟨cl1, Ar1, -, S1, N1l, -, -⟩ := (id V_ra)
  refine own_Fin.go (fun t k => X0.arraylength hx (by rw [e0]; exact Ar1.1) (State.isArrayOf_alike hZ.alike Ar1.2.1) (g := (mkF m 2 #[rv ra, iv 6, uS] [(.ref ra), (.int 6)])) rfl rfl (hb hby d19_2) t k) ?_
  rw [len_of S1 N1l]
  refine own_Fin.go (fun t k => XS.icmpYes X0.here hx rfl (pc0 := 3) (pc' := 14) rfl (hb hby d19_3) rfl (by decide) (by decide) (by decide) k) ?_
  show own_Fin _ _ _ _ _ _ _ (s₁.setTop (mkF m 14 #[rv ra, iv 6, uS] []))
  refine own_Fin.go (fun t k => XS.iloadN X0.here hx rfl (hb hby d19_14) rfl k) ?_
  obtain ⟨T2, h2, k2, X2, e2, E2, A2, st2⟩ := newP X0 hx hZ (own_W hw 38 rfl) e0 (g := (mkF m 15 #[rv ra, iv 6, uS] [(.int 6)])) rfl (hb hby d19_15) rfl (by decide) (cap := 6) (by decide) (by decide) (by decide) (by decide)
  obtain ⟨b2, g2⟩ : ∃ z, z = h0.size := ⟨_, rfl⟩
  rw [← g2] at A2 st2
  refine own_Fin.go st2 ?_
  have g_b2 : n0 ≤ b2 := Nat.le_trans Z0 (Nat.le_of_eq g2.symm)
  have sz_b2 : h0.size ≤ b2 := Nat.le_trans K0.1 (Nat.le_of_eq g2.symm)
  have ne_ra_b2 : ra ≠ b2 := Nat.ne_of_lt (Nat.lt_of_lt_of_le V_ra.lt (Nat.le_of_eq g2.symm))
  have V_ra_2 := V_ra.ext E2
  have Z2 := Nat.le_trans Z0 E2.1
  have K2 := K0.ext E2
  have V_b2 : Arv Z h2 b2 k2 .long (6 : Int32) [(.long 0), (.long 0), (.long 0), (.long 0), (.long 0), (.long 0)] (.long 0) := (Arv.new A2 (by decide)).pad (pad_rep [] (.long 0) 6)
  refine own_Fin.go (fun t k => XS.astoreN X2.here hx rfl (hb hby d19_17) rfl rfl (l' := #[rv ra, iv 6, rv b2]) rfl (XS.aloadN X2.here hx rfl (hb hby d19_18) rfl rfl (XS.iconst X2.here hx rfl (hb hby d19_19) k))) ?_
  show own_Fin _ _ _ _ _ _ _ (T2.setTop (mkF m 20 #[rv ra, iv 6, rv b2] [(.int 0), (.ref ra)]))
  refine own_Fin.go (fun t k => XS.aloadN X2.here hx rfl (hb hby d19_20) rfl rfl (XS.iconst X2.here hx rfl (hb hby d19_21) (XS.aloadN X2.here hx rfl (hb hby d19_22) rfl rfl k))) ?_
  obtain ⟨cl3, Ar3, -, S3, N3l, -, -⟩ := (id V_ra_2)
  refine own_Fin.go (fun t k => X2.arraylength hx (by rw [e2]; exact Ar3.1) (State.isArrayOf_alike hZ.alike Ar3.2.1) (g := (mkF m 23 #[rv ra, iv 6, rv b2] [(.ref ra), (.int 0), (.ref b2), (.int 0), (.ref ra)])) rfl rfl (hb hby d19_23) t k) ?_
  rw [len_of S3 N3l]
  refine own_Fin.go (fun t k => XS.iloadN X2.here hx rfl (hb hby d19_24) rfl k) ?_
  show own_Fin _ _ _ _ _ _ _ (T2.setTop (mkF m 25 #[rv ra, iv 6, rv b2] [(.int 6), (.int 4), (.int 0), (.ref b2), (.int 0), (.ref ra)]))
  refine own_sC X2 hx hZ hown (own_W hw 87 rfl) (own_W hw 88 rfl) (own_W hw 89 rfl) (own_W hw 90 rfl) (by decide) (own_rm_mn l Z a0 hw [] (4 : Int32) (6 : Int32)  h2 n0 Z2 ) 4 (by decide) (by decide) e2 rfl (by rw [hml]; rfl) [(.int 4), (.int 6)] [(.int 0), (.ref b2), (.int 0), (.ref ra)] (lenOf own_pd3 rfl) rfl (Nat.le_of_eq rfl) (hb hby d19_25) rfl (by decide) (by decide) ?_
  rintro T4 Lc4 _ X4 ⟨rfl, N4q, e4⟩
  have N4 := Fr.app N0 N4q
  show own_Fin _ _ _ _ _ _ _ (T4.setTop (mkF m 28 #[rv ra, iv 6, rv b2] [(.int (own_mn (4 : Int32) (6 : Int32))), (.int 0), (.ref b2), (.int 0), (.ref ra)]))
  rw [show (own_mn (4 : Int32) (6 : Int32)) = (4 : Int32) from by decide +kernel]
  obtain ⟨T5, h5, L5, X5, e5, N5, K5q, V5c, st5⟩ := cpA X4 hx hZ hown (own_W hw 91 rfl) (own_W hw 94 rfl) (own_W hw 92 rfl) (own_W hw 93 rfl) e4 V_ra_2 V_b2 (us := [(.long ea), (.long eb), (.long ec), (.long ed)]) (Or.inl ⟨rfl, rfl⟩) (by decide) (by decide) (by decide) (by decide) (by decide) rfl (Nat.le_of_ble_eq_true rfl) N4 g_b2 (g := (mkF m 28 #[rv ra, iv 6, rv b2] [(.int 4), (.int 0), (.ref b2), (.int 0), (.ref ra)])) rfl (by rw [hml]; rfl) rfl (hb hby d19_28) (by decide) (W := 0) (Nat.le_of_eq rfl) (by decide)
  refine own_Fin.go st5 ?_
  have V_b2_5 : Arv Z h5 b2 k2 .long (6 : Int32) [(.long ea), (.long eb), (.long ec), (.long ed), (.long 0), (.long 0)] (.long 0) := V5c
  have V_ra_5 := V_ra_2.keep K5q (ninS ne_ra_b2 nin0)
  have Z5 := Nat.le_trans Z2 K5q.1
  have K5 := K2.trans K5q (allS (Or.inr sz_b2) all0)
  refine own_Fin.go (fun t k => XS.aloadN X5.here hx rfl (hb hby d19_31) rfl rfl k) ?_
  show own_Fin _ _ _ _ _ _ _ (T5.setTop (mkF m 32 #[rv ra, iv 6, rv b2] [(.ref b2)]))
  refine own_retA X5 hx Bd.returns rfl (hb hby d19_32) Bd.notSynchronized (by decide) (by decide) ?_
  rw [e5]
  exact ⟨b2, k2, rfl, N5, K5, V_b2_5, sz_b2⟩
theorem own_ef_cpy6 (m : MethodId) (ra : Addr) : entryFrame m #[(.ref ra), (.int 8)] 3 = mkF m 0 #[rv ra, iv 8, uS] [] := by first | (simp [entryFrame, mkF, argsToLocals, Value.category]; done) | rfl
def own_Q_cpy6 (Z : State) (ra : Addr) (ka : ClassId) (ea : Int64) (eb : Int64) (ec : Int64) (ed : Int64) (ee : Int64) (ef : Int64) (h0 : Heap) (n0 : Nat) (v : Option Value) (h : Heap) (L : List Loc) : Prop := ∃ ob : Addr, ∃ kb : ClassId, v = some (.ref ob) ∧ Fr n0 L ∧ Keep h0 h [] ∧ Arv Z h ob kb .long (8 : Int32) [(.long ea), (.long eb), (.long ec), (.long ed), (.long ee), (.long ef), (.long 0), (.long 0)] (.long 0) ∧ h0.size ≤ ob
set_option maxRecDepth 65536 in
set_option maxHeartbeats 40000000 in
theorem own_rm_cpy6 (l : Launch) (Z : State) (a0 : Array Value) (hw : ∀ d ∈ tables_1, d.before a0 Z = true) (ws : List Jvm.Cond) (ra : Addr) (ka : ClassId) (ea : Int64) (eb : Int64) (ec : Int64) (ed : Int64) (ee : Int64) (ef : Int64) (h0 : Heap) (n0 : Nat) (Z0 : n0 ≤ h0.size) (V_ra : Arv Z h0 ra ka .long (6 : Int32) [(.long ea), (.long eb), (.long ec), (.long ed), (.long ee), (.long ef)] (.long 0)) :
    MetFree l own_y14 (head1 (Jvm.Cond.code own_y14 jdk_65_method_124_code 3 (some (.array .long)) :: ws) ({ frames := 1, cells := 1, slots := 8, locals := 18 } : Room)) (fun a U => a = #[(.ref ra), (.int 8)] ∧ Z.Warmed39 U.vm ∧ U.heap = h0) (fun _ _ _ _ _ => True) (fun _ U o U' => ∃ v L, o = .returned v ∧ own_Q_cpy6 Z ra ka ea eb ec ed ee ef h0 n0 v U'.heap L ∧ FrameEnd U o U' L ({ frames := 1, cells := 1, slots := 8, locals := 18 } : Room).cells ({ frames := 1, cells := 1, slots := 8, locals := 18 } : Room).slots) := by
  refine MetFree.of_bodySF (plainFor_of_name own_pn3) hisR ?_
  intro p e s m args below meth c s₁ Bd hml0 hP hK
  obtain ⟨rfl, hZ, hh⟩ := hP
  have hx := Bd.exec
  have hby := Bd.bytes
  have hml : c.maxLocals = 3 := hml0
  have hown : s.vm.findClass "java/util/Arrays" = some m.cls := findClass_of_methodNamed Bd.named
  have hnm := (name_of_methodNamed Bd.named Bd.method).1
  have X0 : Stand p l e ({ frames := 1, cells := 1, slots := 8, locals := 18 } : Room) s m #[(.ref ra), (.int 8)] below meth c s₁ [] 0 0 := Stand.of_body Bd
  have e0 : s₁.heap = h0 := by rw [← hh, Bd.state]; rfl
  have N0 := Fr.nil n0
  have K0 := Keep.refl h0 []
  show own_Fin p e below s (own_Q_cpy6 Z ra ka ea eb ec ed ee ef h0 n0) ({ frames := 1, cells := 1, slots := 8, locals := 18 } : Room).cells ({ frames := 1, cells := 1, slots := 8, locals := 18 } : Room).slots (s₁.setTop (entryFrame m #[(.ref ra), (.int 8)] 3))
  refine own_Fin.go (fun t k => castTop (own_ef_cpy6 m ra) k) ?_
  refine own_Fin.go (fun t k => XS.iloadN X0.here hx rfl (hb hby d19_0) rfl (XS.aloadN X0.here hx rfl (hb hby d19_1) rfl rfl k)) ?_
  obtain ⟨cl1, Ar1, -, S1, N1l, -, -⟩ := (id V_ra)
  refine own_Fin.go (fun t k => X0.arraylength hx (by rw [e0]; exact Ar1.1) (State.isArrayOf_alike hZ.alike Ar1.2.1) (g := (mkF m 2 #[rv ra, iv 8, uS] [(.ref ra), (.int 8)])) rfl rfl (hb hby d19_2) t k) ?_
  rw [len_of S1 N1l]
  refine own_Fin.go (fun t k => XS.icmpYes X0.here hx rfl (pc0 := 3) (pc' := 14) rfl (hb hby d19_3) rfl (by decide) (by decide) (by decide) k) ?_
  show own_Fin _ _ _ _ _ _ _ (s₁.setTop (mkF m 14 #[rv ra, iv 8, uS] []))
  refine own_Fin.go (fun t k => XS.iloadN X0.here hx rfl (hb hby d19_14) rfl k) ?_
  obtain ⟨T2, h2, k2, X2, e2, E2, A2, st2⟩ := newP X0 hx hZ (own_W hw 38 rfl) e0 (g := (mkF m 15 #[rv ra, iv 8, uS] [(.int 8)])) rfl (hb hby d19_15) rfl (by decide) (cap := 8) (by decide) (by decide) (by decide) (by decide)
  obtain ⟨b2, g2⟩ : ∃ z, z = h0.size := ⟨_, rfl⟩
  rw [← g2] at A2 st2
  refine own_Fin.go st2 ?_
  have g_b2 : n0 ≤ b2 := Nat.le_trans Z0 (Nat.le_of_eq g2.symm)
  have sz_b2 : h0.size ≤ b2 := Nat.le_trans K0.1 (Nat.le_of_eq g2.symm)
  have ne_ra_b2 : ra ≠ b2 := Nat.ne_of_lt (Nat.lt_of_lt_of_le V_ra.lt (Nat.le_of_eq g2.symm))
  have V_ra_2 := V_ra.ext E2
  have Z2 := Nat.le_trans Z0 E2.1
  have K2 := K0.ext E2
  have V_b2 : Arv Z h2 b2 k2 .long (8 : Int32) [(.long 0), (.long 0), (.long 0), (.long 0), (.long 0), (.long 0), (.long 0), (.long 0)] (.long 0) := (Arv.new A2 (by decide)).pad (pad_rep [] (.long 0) 8)
  refine own_Fin.go (fun t k => XS.astoreN X2.here hx rfl (hb hby d19_17) rfl rfl (l' := #[rv ra, iv 8, rv b2]) rfl (XS.aloadN X2.here hx rfl (hb hby d19_18) rfl rfl (XS.iconst X2.here hx rfl (hb hby d19_19) k))) ?_
  show own_Fin _ _ _ _ _ _ _ (T2.setTop (mkF m 20 #[rv ra, iv 8, rv b2] [(.int 0), (.ref ra)]))
  refine own_Fin.go (fun t k => XS.aloadN X2.here hx rfl (hb hby d19_20) rfl rfl (XS.iconst X2.here hx rfl (hb hby d19_21) (XS.aloadN X2.here hx rfl (hb hby d19_22) rfl rfl k))) ?_
  obtain ⟨cl3, Ar3, -, S3, N3l, -, -⟩ := (id V_ra_2)
  refine own_Fin.go (fun t k => X2.arraylength hx (by rw [e2]; exact Ar3.1) (State.isArrayOf_alike hZ.alike Ar3.2.1) (g := (mkF m 23 #[rv ra, iv 8, rv b2] [(.ref ra), (.int 0), (.ref b2), (.int 0), (.ref ra)])) rfl rfl (hb hby d19_23) t k) ?_
  rw [len_of S3 N3l]
  refine own_Fin.go (fun t k => XS.iloadN X2.here hx rfl (hb hby d19_24) rfl k) ?_
  show own_Fin _ _ _ _ _ _ _ (T2.setTop (mkF m 25 #[rv ra, iv 8, rv b2] [(.int 8), (.int 6), (.int 0), (.ref b2), (.int 0), (.ref ra)]))
  refine own_sC X2 hx hZ hown (own_W hw 87 rfl) (own_W hw 88 rfl) (own_W hw 89 rfl) (own_W hw 90 rfl) (by decide) (own_rm_mn l Z a0 hw [] (6 : Int32) (8 : Int32)  h2 n0 Z2 ) 4 (by decide) (by decide) e2 rfl (by rw [hml]; rfl) [(.int 6), (.int 8)] [(.int 0), (.ref b2), (.int 0), (.ref ra)] (lenOf own_pd3 rfl) rfl (Nat.le_of_eq rfl) (hb hby d19_25) rfl (by decide) (by decide) ?_
  rintro T4 Lc4 _ X4 ⟨rfl, N4q, e4⟩
  have N4 := Fr.app N0 N4q
  show own_Fin _ _ _ _ _ _ _ (T4.setTop (mkF m 28 #[rv ra, iv 8, rv b2] [(.int (own_mn (6 : Int32) (8 : Int32))), (.int 0), (.ref b2), (.int 0), (.ref ra)]))
  rw [show (own_mn (6 : Int32) (8 : Int32)) = (6 : Int32) from by decide +kernel]
  obtain ⟨T5, h5, L5, X5, e5, N5, K5q, V5c, st5⟩ := cpA X4 hx hZ hown (own_W hw 91 rfl) (own_W hw 94 rfl) (own_W hw 92 rfl) (own_W hw 93 rfl) e4 V_ra_2 V_b2 (us := [(.long ea), (.long eb), (.long ec), (.long ed), (.long ee), (.long ef)]) (Or.inl ⟨rfl, rfl⟩) (by decide) (by decide) (by decide) (by decide) (by decide) rfl (Nat.le_of_ble_eq_true rfl) N4 g_b2 (g := (mkF m 28 #[rv ra, iv 8, rv b2] [(.int 6), (.int 0), (.ref b2), (.int 0), (.ref ra)])) rfl (by rw [hml]; rfl) rfl (hb hby d19_28) (by decide) (W := 0) (Nat.le_of_eq rfl) (by decide)
  refine own_Fin.go st5 ?_
  have V_b2_5 : Arv Z h5 b2 k2 .long (8 : Int32) [(.long ea), (.long eb), (.long ec), (.long ed), (.long ee), (.long ef), (.long 0), (.long 0)] (.long 0) := V5c
  have V_ra_5 := V_ra_2.keep K5q (ninS ne_ra_b2 nin0)
  have Z5 := Nat.le_trans Z2 K5q.1
  have K5 := K2.trans K5q (allS (Or.inr sz_b2) all0)
  refine own_Fin.go (fun t k => XS.aloadN X5.here hx rfl (hb hby d19_31) rfl rfl k) ?_
  show own_Fin _ _ _ _ _ _ _ (T5.setTop (mkF m 32 #[rv ra, iv 8, rv b2] [(.ref b2)]))
  refine own_retA X5 hx Bd.returns rfl (hb hby d19_32) Bd.notSynchronized (by decide) (by decide) ?_
  rw [e5]
  exact ⟨b2, k2, rfl, N5, K5, V_b2_5, sz_b2⟩
theorem own_ef_cpy8 (m : MethodId) (ra : Addr) : entryFrame m #[(.ref ra), (.int 10)] 3 = mkF m 0 #[rv ra, iv 10, uS] [] := by first | (simp [entryFrame, mkF, argsToLocals, Value.category]; done) | rfl
def own_Q_cpy8 (Z : State) (ra : Addr) (ka : ClassId) (ea : Int64) (eb : Int64) (ec : Int64) (ed : Int64) (ee : Int64) (ef : Int64) (eg : Int64) (eh : Int64) (h0 : Heap) (n0 : Nat) (v : Option Value) (h : Heap) (L : List Loc) : Prop := ∃ ob : Addr, ∃ kb : ClassId, v = some (.ref ob) ∧ Fr n0 L ∧ Keep h0 h [] ∧ Arv Z h ob kb .long (10 : Int32) [(.long ea), (.long eb), (.long ec), (.long ed), (.long ee), (.long ef), (.long eg), (.long eh), (.long 0), (.long 0)] (.long 0) ∧ h0.size ≤ ob
set_option maxRecDepth 65536 in
set_option maxHeartbeats 40000000 in
theorem own_rm_cpy8 (l : Launch) (Z : State) (a0 : Array Value) (hw : ∀ d ∈ tables_1, d.before a0 Z = true) (ws : List Jvm.Cond) (ra : Addr) (ka : ClassId) (ea : Int64) (eb : Int64) (ec : Int64) (ed : Int64) (ee : Int64) (ef : Int64) (eg : Int64) (eh : Int64) (h0 : Heap) (n0 : Nat) (Z0 : n0 ≤ h0.size) (V_ra : Arv Z h0 ra ka .long (8 : Int32) [(.long ea), (.long eb), (.long ec), (.long ed), (.long ee), (.long ef), (.long eg), (.long eh)] (.long 0)) :
    MetFree l own_y14 (head1 (Jvm.Cond.code own_y14 jdk_65_method_124_code 3 (some (.array .long)) :: ws) ({ frames := 1, cells := 1, slots := 10, locals := 18 } : Room)) (fun a U => a = #[(.ref ra), (.int 10)] ∧ Z.Warmed39 U.vm ∧ U.heap = h0) (fun _ _ _ _ _ => True) (fun _ U o U' => ∃ v L, o = .returned v ∧ own_Q_cpy8 Z ra ka ea eb ec ed ee ef eg eh h0 n0 v U'.heap L ∧ FrameEnd U o U' L ({ frames := 1, cells := 1, slots := 10, locals := 18 } : Room).cells ({ frames := 1, cells := 1, slots := 10, locals := 18 } : Room).slots) := by
  refine MetFree.of_bodySF (plainFor_of_name own_pn3) hisR ?_
  intro p e s m args below meth c s₁ Bd hml0 hP hK
  obtain ⟨rfl, hZ, hh⟩ := hP
  have hx := Bd.exec
  have hby := Bd.bytes
  have hml : c.maxLocals = 3 := hml0
  have hown : s.vm.findClass "java/util/Arrays" = some m.cls := findClass_of_methodNamed Bd.named
  have hnm := (name_of_methodNamed Bd.named Bd.method).1
  have X0 : Stand p l e ({ frames := 1, cells := 1, slots := 10, locals := 18 } : Room) s m #[(.ref ra), (.int 10)] below meth c s₁ [] 0 0 := Stand.of_body Bd
  have e0 : s₁.heap = h0 := by rw [← hh, Bd.state]; rfl
  have N0 := Fr.nil n0
  have K0 := Keep.refl h0 []
  show own_Fin p e below s (own_Q_cpy8 Z ra ka ea eb ec ed ee ef eg eh h0 n0) ({ frames := 1, cells := 1, slots := 10, locals := 18 } : Room).cells ({ frames := 1, cells := 1, slots := 10, locals := 18 } : Room).slots (s₁.setTop (entryFrame m #[(.ref ra), (.int 10)] 3))
  refine own_Fin.go (fun t k => castTop (own_ef_cpy8 m ra) k) ?_
  refine own_Fin.go (fun t k => XS.iloadN X0.here hx rfl (hb hby d19_0) rfl (XS.aloadN X0.here hx rfl (hb hby d19_1) rfl rfl k)) ?_
  obtain ⟨cl1, Ar1, -, S1, N1l, -, -⟩ := (id V_ra)
  refine own_Fin.go (fun t k => X0.arraylength hx (by rw [e0]; exact Ar1.1) (State.isArrayOf_alike hZ.alike Ar1.2.1) (g := (mkF m 2 #[rv ra, iv 10, uS] [(.ref ra), (.int 10)])) rfl rfl (hb hby d19_2) t k) ?_
  rw [len_of S1 N1l]
  refine own_Fin.go (fun t k => XS.icmpYes X0.here hx rfl (pc0 := 3) (pc' := 14) rfl (hb hby d19_3) rfl (by decide) (by decide) (by decide) k) ?_
  show own_Fin _ _ _ _ _ _ _ (s₁.setTop (mkF m 14 #[rv ra, iv 10, uS] []))
  refine own_Fin.go (fun t k => XS.iloadN X0.here hx rfl (hb hby d19_14) rfl k) ?_
  obtain ⟨T2, h2, k2, X2, e2, E2, A2, st2⟩ := newP X0 hx hZ (own_W hw 38 rfl) e0 (g := (mkF m 15 #[rv ra, iv 10, uS] [(.int 10)])) rfl (hb hby d19_15) rfl (by decide) (cap := 10) (by decide) (by decide) (by decide) (by decide)
  obtain ⟨b2, g2⟩ : ∃ z, z = h0.size := ⟨_, rfl⟩
  rw [← g2] at A2 st2
  refine own_Fin.go st2 ?_
  have g_b2 : n0 ≤ b2 := Nat.le_trans Z0 (Nat.le_of_eq g2.symm)
  have sz_b2 : h0.size ≤ b2 := Nat.le_trans K0.1 (Nat.le_of_eq g2.symm)
  have ne_ra_b2 : ra ≠ b2 := Nat.ne_of_lt (Nat.lt_of_lt_of_le V_ra.lt (Nat.le_of_eq g2.symm))
  have V_ra_2 := V_ra.ext E2
  have Z2 := Nat.le_trans Z0 E2.1
  have K2 := K0.ext E2
  have V_b2 : Arv Z h2 b2 k2 .long (10 : Int32) [(.long 0), (.long 0), (.long 0), (.long 0), (.long 0), (.long 0), (.long 0), (.long 0), (.long 0), (.long 0)] (.long 0) := (Arv.new A2 (by decide)).pad (pad_rep [] (.long 0) 10)
  refine own_Fin.go (fun t k => XS.astoreN X2.here hx rfl (hb hby d19_17) rfl rfl (l' := #[rv ra, iv 10, rv b2]) rfl (XS.aloadN X2.here hx rfl (hb hby d19_18) rfl rfl (XS.iconst X2.here hx rfl (hb hby d19_19) k))) ?_
  show own_Fin _ _ _ _ _ _ _ (T2.setTop (mkF m 20 #[rv ra, iv 10, rv b2] [(.int 0), (.ref ra)]))
  refine own_Fin.go (fun t k => XS.aloadN X2.here hx rfl (hb hby d19_20) rfl rfl (XS.iconst X2.here hx rfl (hb hby d19_21) (XS.aloadN X2.here hx rfl (hb hby d19_22) rfl rfl k))) ?_
  obtain ⟨cl3, Ar3, -, S3, N3l, -, -⟩ := (id V_ra_2)
  refine own_Fin.go (fun t k => X2.arraylength hx (by rw [e2]; exact Ar3.1) (State.isArrayOf_alike hZ.alike Ar3.2.1) (g := (mkF m 23 #[rv ra, iv 10, rv b2] [(.ref ra), (.int 0), (.ref b2), (.int 0), (.ref ra)])) rfl rfl (hb hby d19_23) t k) ?_
  rw [len_of S3 N3l]
  refine own_Fin.go (fun t k => XS.iloadN X2.here hx rfl (hb hby d19_24) rfl k) ?_
  show own_Fin _ _ _ _ _ _ _ (T2.setTop (mkF m 25 #[rv ra, iv 10, rv b2] [(.int 10), (.int 8), (.int 0), (.ref b2), (.int 0), (.ref ra)]))
  refine own_sC X2 hx hZ hown (own_W hw 87 rfl) (own_W hw 88 rfl) (own_W hw 89 rfl) (own_W hw 90 rfl) (by decide) (own_rm_mn l Z a0 hw [] (8 : Int32) (10 : Int32)  h2 n0 Z2 ) 4 (by decide) (by decide) e2 rfl (by rw [hml]; rfl) [(.int 8), (.int 10)] [(.int 0), (.ref b2), (.int 0), (.ref ra)] (lenOf own_pd3 rfl) rfl (Nat.le_of_eq rfl) (hb hby d19_25) rfl (by decide) (by decide) ?_
  rintro T4 Lc4 _ X4 ⟨rfl, N4q, e4⟩
  have N4 := Fr.app N0 N4q
  show own_Fin _ _ _ _ _ _ _ (T4.setTop (mkF m 28 #[rv ra, iv 10, rv b2] [(.int (own_mn (8 : Int32) (10 : Int32))), (.int 0), (.ref b2), (.int 0), (.ref ra)]))
  rw [show (own_mn (8 : Int32) (10 : Int32)) = (8 : Int32) from by decide +kernel]
  obtain ⟨T5, h5, L5, X5, e5, N5, K5q, V5c, st5⟩ := cpA X4 hx hZ hown (own_W hw 91 rfl) (own_W hw 94 rfl) (own_W hw 92 rfl) (own_W hw 93 rfl) e4 V_ra_2 V_b2 (us := [(.long ea), (.long eb), (.long ec), (.long ed), (.long ee), (.long ef), (.long eg), (.long eh)]) (Or.inl ⟨rfl, rfl⟩) (by decide) (by decide) (by decide) (by decide) (by decide) rfl (Nat.le_of_ble_eq_true rfl) N4 g_b2 (g := (mkF m 28 #[rv ra, iv 10, rv b2] [(.int 8), (.int 0), (.ref b2), (.int 0), (.ref ra)])) rfl (by rw [hml]; rfl) rfl (hb hby d19_28) (by decide) (W := 0) (Nat.le_of_eq rfl) (by decide)
  refine own_Fin.go st5 ?_
  have V_b2_5 : Arv Z h5 b2 k2 .long (10 : Int32) [(.long ea), (.long eb), (.long ec), (.long ed), (.long ee), (.long ef), (.long eg), (.long eh), (.long 0), (.long 0)] (.long 0) := V5c
  have V_ra_5 := V_ra_2.keep K5q (ninS ne_ra_b2 nin0)
  have Z5 := Nat.le_trans Z2 K5q.1
  have K5 := K2.trans K5q (allS (Or.inr sz_b2) all0)
  refine own_Fin.go (fun t k => XS.aloadN X5.here hx rfl (hb hby d19_31) rfl rfl k) ?_
  show own_Fin _ _ _ _ _ _ _ (T5.setTop (mkF m 32 #[rv ra, iv 10, rv b2] [(.ref b2)]))
  refine own_retA X5 hx Bd.returns rfl (hb hby d19_32) Bd.notSynchronized (by decide) (by decide) ?_
  rw [e5]
  exact ⟨b2, k2, rfl, N5, K5, V_b2_5, sz_b2⟩
theorem own_ef_cpy10 (m : MethodId) (ra : Addr) : entryFrame m #[(.ref ra), (.int 12)] 3 = mkF m 0 #[rv ra, iv 12, uS] [] := by first | (simp [entryFrame, mkF, argsToLocals, Value.category]; done) | rfl
def own_Q_cpy10 (Z : State) (ra : Addr) (ka : ClassId) (ea : Int64) (eb : Int64) (ec : Int64) (ed : Int64) (ee : Int64) (ef : Int64) (eg : Int64) (eh : Int64) (ei : Int64) (ej : Int64) (h0 : Heap) (n0 : Nat) (v : Option Value) (h : Heap) (L : List Loc) : Prop := ∃ ob : Addr, ∃ kb : ClassId, v = some (.ref ob) ∧ Fr n0 L ∧ Keep h0 h [] ∧ Arv Z h ob kb .long (12 : Int32) [(.long ea), (.long eb), (.long ec), (.long ed), (.long ee), (.long ef), (.long eg), (.long eh), (.long ei), (.long ej), (.long 0), (.long 0)] (.long 0) ∧ h0.size ≤ ob
set_option maxRecDepth 65536 in
set_option maxHeartbeats 40000000 in
theorem own_rm_cpy10 (l : Launch) (Z : State) (a0 : Array Value) (hw : ∀ d ∈ tables_1, d.before a0 Z = true) (ws : List Jvm.Cond) (ra : Addr) (ka : ClassId) (ea : Int64) (eb : Int64) (ec : Int64) (ed : Int64) (ee : Int64) (ef : Int64) (eg : Int64) (eh : Int64) (ei : Int64) (ej : Int64) (h0 : Heap) (n0 : Nat) (Z0 : n0 ≤ h0.size) (V_ra : Arv Z h0 ra ka .long (10 : Int32) [(.long ea), (.long eb), (.long ec), (.long ed), (.long ee), (.long ef), (.long eg), (.long eh), (.long ei), (.long ej)] (.long 0)) :
    MetFree l own_y14 (head1 (Jvm.Cond.code own_y14 jdk_65_method_124_code 3 (some (.array .long)) :: ws) ({ frames := 1, cells := 1, slots := 12, locals := 18 } : Room)) (fun a U => a = #[(.ref ra), (.int 12)] ∧ Z.Warmed39 U.vm ∧ U.heap = h0) (fun _ _ _ _ _ => True) (fun _ U o U' => ∃ v L, o = .returned v ∧ own_Q_cpy10 Z ra ka ea eb ec ed ee ef eg eh ei ej h0 n0 v U'.heap L ∧ FrameEnd U o U' L ({ frames := 1, cells := 1, slots := 12, locals := 18 } : Room).cells ({ frames := 1, cells := 1, slots := 12, locals := 18 } : Room).slots) := by
  refine MetFree.of_bodySF (plainFor_of_name own_pn3) hisR ?_
  intro p e s m args below meth c s₁ Bd hml0 hP hK
  obtain ⟨rfl, hZ, hh⟩ := hP
  have hx := Bd.exec
  have hby := Bd.bytes
  have hml : c.maxLocals = 3 := hml0
  have hown : s.vm.findClass "java/util/Arrays" = some m.cls := findClass_of_methodNamed Bd.named
  have hnm := (name_of_methodNamed Bd.named Bd.method).1
  have X0 : Stand p l e ({ frames := 1, cells := 1, slots := 12, locals := 18 } : Room) s m #[(.ref ra), (.int 12)] below meth c s₁ [] 0 0 := Stand.of_body Bd
  have e0 : s₁.heap = h0 := by rw [← hh, Bd.state]; rfl
  have N0 := Fr.nil n0
  have K0 := Keep.refl h0 []
  show own_Fin p e below s (own_Q_cpy10 Z ra ka ea eb ec ed ee ef eg eh ei ej h0 n0) ({ frames := 1, cells := 1, slots := 12, locals := 18 } : Room).cells ({ frames := 1, cells := 1, slots := 12, locals := 18 } : Room).slots (s₁.setTop (entryFrame m #[(.ref ra), (.int 12)] 3))
  refine own_Fin.go (fun t k => castTop (own_ef_cpy10 m ra) k) ?_
  refine own_Fin.go (fun t k => XS.iloadN X0.here hx rfl (hb hby d19_0) rfl (XS.aloadN X0.here hx rfl (hb hby d19_1) rfl rfl k)) ?_
  obtain ⟨cl1, Ar1, -, S1, N1l, -, -⟩ := (id V_ra)
  refine own_Fin.go (fun t k => X0.arraylength hx (by rw [e0]; exact Ar1.1) (State.isArrayOf_alike hZ.alike Ar1.2.1) (g := (mkF m 2 #[rv ra, iv 12, uS] [(.ref ra), (.int 12)])) rfl rfl (hb hby d19_2) t k) ?_
  rw [len_of S1 N1l]
  refine own_Fin.go (fun t k => XS.icmpYes X0.here hx rfl (pc0 := 3) (pc' := 14) rfl (hb hby d19_3) rfl (by decide) (by decide) (by decide) k) ?_
  show own_Fin _ _ _ _ _ _ _ (s₁.setTop (mkF m 14 #[rv ra, iv 12, uS] []))
  refine own_Fin.go (fun t k => XS.iloadN X0.here hx rfl (hb hby d19_14) rfl k) ?_
  obtain ⟨T2, h2, k2, X2, e2, E2, A2, st2⟩ := newP X0 hx hZ (own_W hw 38 rfl) e0 (g := (mkF m 15 #[rv ra, iv 12, uS] [(.int 12)])) rfl (hb hby d19_15) rfl (by decide) (cap := 12) (by decide) (by decide) (by decide) (by decide)
  obtain ⟨b2, g2⟩ : ∃ z, z = h0.size := ⟨_, rfl⟩
  rw [← g2] at A2 st2
  refine own_Fin.go st2 ?_
  have g_b2 : n0 ≤ b2 := Nat.le_trans Z0 (Nat.le_of_eq g2.symm)
  have sz_b2 : h0.size ≤ b2 := Nat.le_trans K0.1 (Nat.le_of_eq g2.symm)
  have ne_ra_b2 : ra ≠ b2 := Nat.ne_of_lt (Nat.lt_of_lt_of_le V_ra.lt (Nat.le_of_eq g2.symm))
  have V_ra_2 := V_ra.ext E2
  have Z2 := Nat.le_trans Z0 E2.1
  have K2 := K0.ext E2
  have V_b2 : Arv Z h2 b2 k2 .long (12 : Int32) [(.long 0), (.long 0), (.long 0), (.long 0), (.long 0), (.long 0), (.long 0), (.long 0), (.long 0), (.long 0), (.long 0), (.long 0)] (.long 0) := (Arv.new A2 (by decide)).pad (pad_rep [] (.long 0) 12)
  refine own_Fin.go (fun t k => XS.astoreN X2.here hx rfl (hb hby d19_17) rfl rfl (l' := #[rv ra, iv 12, rv b2]) rfl (XS.aloadN X2.here hx rfl (hb hby d19_18) rfl rfl (XS.iconst X2.here hx rfl (hb hby d19_19) k))) ?_
  show own_Fin _ _ _ _ _ _ _ (T2.setTop (mkF m 20 #[rv ra, iv 12, rv b2] [(.int 0), (.ref ra)]))
  refine own_Fin.go (fun t k => XS.aloadN X2.here hx rfl (hb hby d19_20) rfl rfl (XS.iconst X2.here hx rfl (hb hby d19_21) (XS.aloadN X2.here hx rfl (hb hby d19_22) rfl rfl k))) ?_
  obtain ⟨cl3, Ar3, -, S3, N3l, -, -⟩ := (id V_ra_2)
  refine own_Fin.go (fun t k => X2.arraylength hx (by rw [e2]; exact Ar3.1) (State.isArrayOf_alike hZ.alike Ar3.2.1) (g := (mkF m 23 #[rv ra, iv 12, rv b2] [(.ref ra), (.int 0), (.ref b2), (.int 0), (.ref ra)])) rfl rfl (hb hby d19_23) t k) ?_
  rw [len_of S3 N3l]
  refine own_Fin.go (fun t k => XS.iloadN X2.here hx rfl (hb hby d19_24) rfl k) ?_
  show own_Fin _ _ _ _ _ _ _ (T2.setTop (mkF m 25 #[rv ra, iv 12, rv b2] [(.int 12), (.int 10), (.int 0), (.ref b2), (.int 0), (.ref ra)]))
  refine own_sC X2 hx hZ hown (own_W hw 87 rfl) (own_W hw 88 rfl) (own_W hw 89 rfl) (own_W hw 90 rfl) (by decide) (own_rm_mn l Z a0 hw [] (10 : Int32) (12 : Int32)  h2 n0 Z2 ) 4 (by decide) (by decide) e2 rfl (by rw [hml]; rfl) [(.int 10), (.int 12)] [(.int 0), (.ref b2), (.int 0), (.ref ra)] (lenOf own_pd3 rfl) rfl (Nat.le_of_eq rfl) (hb hby d19_25) rfl (by decide) (by decide) ?_
  rintro T4 Lc4 _ X4 ⟨rfl, N4q, e4⟩
  have N4 := Fr.app N0 N4q
  show own_Fin _ _ _ _ _ _ _ (T4.setTop (mkF m 28 #[rv ra, iv 12, rv b2] [(.int (own_mn (10 : Int32) (12 : Int32))), (.int 0), (.ref b2), (.int 0), (.ref ra)]))
  rw [show (own_mn (10 : Int32) (12 : Int32)) = (10 : Int32) from by decide +kernel]
  obtain ⟨T5, h5, L5, X5, e5, N5, K5q, V5c, st5⟩ := cpA X4 hx hZ hown (own_W hw 91 rfl) (own_W hw 94 rfl) (own_W hw 92 rfl) (own_W hw 93 rfl) e4 V_ra_2 V_b2 (us := [(.long ea), (.long eb), (.long ec), (.long ed), (.long ee), (.long ef), (.long eg), (.long eh), (.long ei), (.long ej)]) (Or.inl ⟨rfl, rfl⟩) (by decide) (by decide) (by decide) (by decide) (by decide) rfl (Nat.le_of_ble_eq_true rfl) N4 g_b2 (g := (mkF m 28 #[rv ra, iv 12, rv b2] [(.int 10), (.int 0), (.ref b2), (.int 0), (.ref ra)])) rfl (by rw [hml]; rfl) rfl (hb hby d19_28) (by decide) (W := 0) (Nat.le_of_eq rfl) (by decide)
  refine own_Fin.go st5 ?_
  have V_b2_5 : Arv Z h5 b2 k2 .long (12 : Int32) [(.long ea), (.long eb), (.long ec), (.long ed), (.long ee), (.long ef), (.long eg), (.long eh), (.long ei), (.long ej), (.long 0), (.long 0)] (.long 0) := V5c
  have V_ra_5 := V_ra_2.keep K5q (ninS ne_ra_b2 nin0)
  have Z5 := Nat.le_trans Z2 K5q.1
  have K5 := K2.trans K5q (allS (Or.inr sz_b2) all0)
  refine own_Fin.go (fun t k => XS.aloadN X5.here hx rfl (hb hby d19_31) rfl rfl k) ?_
  show own_Fin _ _ _ _ _ _ _ (T5.setTop (mkF m 32 #[rv ra, iv 12, rv b2] [(.ref b2)]))
  refine own_retA X5 hx Bd.returns rfl (hb hby d19_32) Bd.notSynchronized (by decide) (by decide) ?_
  rw [e5]
  exact ⟨b2, k2, rfl, N5, K5, V_b2_5, sz_b2⟩
theorem d0_0 : decode prog_4_method_1_code 0 = .ok (.aload_n 0, 1) := by decide +kernel
theorem d0_1 : decode prog_4_method_1_code 1 = .ok (.invokespecial 7, 3) := by decide +kernel
theorem d0_4 : decode prog_4_method_1_code 4 = .ok (.aload_n 0, 1) := by decide +kernel
theorem d0_5 : decode prog_4_method_1_code 5 = .ok (.aload_n 1, 1) := by decide +kernel
theorem d0_6 : decode prog_4_method_1_code 6 = .ok (.putfield 13, 3) := by decide +kernel
theorem d0_9 : decode prog_4_method_1_code 9 = .ok (.aload_n 0, 1) := by decide +kernel
theorem d0_10 : decode prog_4_method_1_code 10 = .ok (.iload_n 3, 1) := by decide +kernel
theorem d0_11 : decode prog_4_method_1_code 11 = .ok (.invokestatic 17, 3) := by decide +kernel
theorem d0_14 : decode prog_4_method_1_code 14 = .ok (.newarray .long, 2) := by decide +kernel
theorem d0_16 : decode prog_4_method_1_code 16 = .ok (.putfield 21, 3) := by decide +kernel
theorem d0_19 : decode prog_4_method_1_code 19 = .ok (.aload_n 0, 1) := by decide +kernel
theorem d0_20 : decode prog_4_method_1_code 20 = .ok (.getfield 21, 3) := by decide +kernel
theorem d0_23 : decode prog_4_method_1_code 23 = .ok (.iconst 0, 1) := by decide +kernel
theorem d0_24 : decode prog_4_method_1_code 24 = .ok (.iload_n 3, 1) := by decide +kernel
theorem d0_25 : decode prog_4_method_1_code 25 = .ok (.i2l, 1) := by decide +kernel
theorem d0_26 : decode prog_4_method_1_code 26 = .ok (.bipush 60, 2) := by decide +kernel
theorem d0_28 : decode prog_4_method_1_code 28 = .ok (.lshl, 1) := by decide +kernel
theorem d0_29 : decode prog_4_method_1_code 29 = .ok (.lastore, 1) := by decide +kernel
theorem d0_30 : decode prog_4_method_1_code 30 = .ok (.aload_n 0, 1) := by decide +kernel
theorem d0_31 : decode prog_4_method_1_code 31 = .ok (.aload_n 2, 1) := by decide +kernel
theorem d0_32 : decode prog_4_method_1_code 32 = .ok (.getstatic 25, 3) := by decide +kernel
theorem d0_35 : decode prog_4_method_1_code 35 = .ok (.if_acmp .ne 9, 3) := by decide +kernel
theorem d0_44 : decode prog_4_method_1_code 44 = .ok (.aconst_null, 1) := by decide +kernel
theorem d0_45 : decode prog_4_method_1_code 45 = .ok (.putfield 35, 3) := by decide +kernel
theorem d0_48 : decode prog_4_method_1_code 48 = .ok (.return_, 1) := by decide +kernel
theorem own_ef_cou (m : MethodId) (oa : Addr) (on : Addr) (ok : Addr) : entryFrame m #[(.ref oa), (.ref on), (.ref ok), (.int 3)] 4 = mkF m 0 #[rv oa, rv on, rv ok, iv 3] [] := by first | (simp [entryFrame, mkF, argsToLocals, Value.category]; done) | rfl
def own_Q_cou (Z : State) (oa : Addr) (on : Addr) (ok : Addr) (ou : Addr) (h0 : Heap) (n0 : Nat) (v : Option Value) (h : Heap) (L : List Loc) : Prop := ∃ ob : Addr, ∃ kb : ClassId, v = none ∧ Fr n0 L ∧ Keep h0 h [oa] ∧ Exa Z h oa own_k0 ∧ Fld Z h oa own_k0 "cells" "[J" (.ref ob) ∧ Fld Z h oa own_k0 "sets" "[Ljava/lang/Object;" .null ∧ Arv Z h ob kb .long (2 : Int32) [(.long 3458764513820540928), (.long 0)] (.long 0) ∧ h0.size ≤ ob ∧ oa ≠ ob
set_option maxRecDepth 65536 in
set_option maxHeartbeats 40000000 in
theorem own_rm_cou (l : Launch) (Z : State) (a0 : Array Value) (hw : ∀ d ∈ tables_1, d.before a0 Z = true) (ws : List Jvm.Cond) (oa : Addr) (on : Addr) (ok : Addr) (ou : Addr) (h0 : Heap) (n0 : Nat) (Z0 : n0 ≤ h0.size) (E_oa : Exa Z h0 oa own_k0) (F_oa_name : Fld Z h0 oa own_k0 "name" "Ljava/lang/String;" .null) (F_oa_cells : Fld Z h0 oa own_k0 "cells" "[J" .null) (F_oa_sets : Fld Z h0 oa own_k0 "sets" "[Ljava/lang/Object;" .null) (g_oa : n0 ≤ oa) (S_UNIQUE : Sta Z h0 own_k3 "UNIQUE" own_k4 (.ref ou)) (ne_ok_ou : ok ≠ ou) :
    MetFree l own_y15 (head1 (Jvm.Cond.code own_y15 prog_4_method_1_code 4 none :: ws) ({ frames := 1, cells := 1, slots := 2, locals := 13 } : Room)) (fun a U => a = #[(.ref oa), (.ref on), (.ref ok), (.int 3)] ∧ Z.Warmed39 U.vm ∧ U.heap = h0) (fun _ _ _ _ _ => True) (fun _ U o U' => ∃ v L, o = .returned v ∧ own_Q_cou Z oa on ok ou h0 n0 v U'.heap L ∧ FrameEnd U o U' L ({ frames := 1, cells := 1, slots := 2, locals := 13 } : Room).cells ({ frames := 1, cells := 1, slots := 2, locals := 13 } : Room).slots) := by
  refine MetFree.of_bodySF (plainFor_of_name own_pn0) hisR ?_
  intro p e s m args below meth c s₁ Bd hml0 hP hK
  obtain ⟨rfl, hZ, hh⟩ := hP
  have hx := Bd.exec
  have hby := Bd.bytes
  have hml : c.maxLocals = 4 := hml0
  have hown : s.vm.findClass own_k0 = some m.cls := findClass_of_methodNamed Bd.named
  have hnm := (name_of_methodNamed Bd.named Bd.method).1
  have X0 : Stand p l e ({ frames := 1, cells := 1, slots := 2, locals := 13 } : Room) s m #[(.ref oa), (.ref on), (.ref ok), (.int 3)] below meth c s₁ [] 0 0 := Stand.of_body Bd
  have e0 : s₁.heap = h0 := by rw [← hh, Bd.state]; rfl
  have N0 := Fr.nil n0
  have K0 := Keep.refl h0 [oa]
  show own_Fin p e below s (own_Q_cou Z oa on ok ou h0 n0) ({ frames := 1, cells := 1, slots := 2, locals := 13 } : Room).cells ({ frames := 1, cells := 1, slots := 2, locals := 13 } : Room).slots (s₁.setTop (entryFrame m #[(.ref oa), (.ref on), (.ref ok), (.int 3)] 4))
  refine own_Fin.go (fun t k => castTop (own_ef_cou m oa on ok) k) ?_
  refine own_Fin.go (fun t k => XS.aloadN X0.here hx rfl (hb hby d0_0) rfl rfl k) ?_
  obtain ⟨T1, X1, e1, st1⟩ := initO X0 hx hZ hown (own_W hw 32 rfl) (own_W hw 13 rfl) (own_W hw 14 rfl) e0 (g := (mkF m 1 #[rv oa, rv on, rv ok, iv 3] [(.ref oa)])) rfl (by rw [hml]; rfl) rfl (hb hby d0_1) (by decide) (W := 0) (Nat.le_of_eq rfl) (by decide)
  refine own_Fin.go st1 ?_
  refine own_Fin.go (fun t k => XS.aloadN X1.here hx rfl (hb hby d0_4) rfl rfl (XS.aloadN X1.here hx rfl (hb hby d0_5) rfl rfl k)) ?_
  show own_Fin _ _ _ _ _ _ _ (T1.setTop (mkF m 6 #[rv oa, rv on, rv ok, iv 3] [(.ref on), (.ref oa)]))
  obtain ⟨T2, h2, X2, e2, W2, st2⟩ := putF X1 hx hZ hown (host := "") (Or.inl (own_W hw 33 rfl)) Via.refl e1 F_oa_name E_oa (Or.inr ⟨(own_W hw 34 rfl), rfl, hnm⟩) (own_W hw 16 rfl) (ty := (.object "java/lang/String")) (by decide) rfl rfl (g := (mkF m 6 #[rv oa, rv on, rv ok, iv 3] [(.ref on), (.ref oa)])) rfl rfl (hb hby d0_6)
  refine own_Fin.go st2 ?_
  have F_oa_name_2 := Fld.same W2 F_oa_name
  have E_oa_2 := Exa.wr W2 E_oa
  have F_oa_cells_2 := Fld.other W2 F_oa_cells (Or.inr (slot_ne (Or.inl (own_W hw 40 rfl)) (Or.inr (own_W hw 34 rfl)) (by decide) (t := (.array .long)) (t' := (.object "java/lang/String")) (by decide) (by decide)))
  have F_oa_sets_2 := Fld.other W2 F_oa_sets (Or.inr (slot_ne (Or.inl (own_W hw 44 rfl)) (Or.inr (own_W hw 34 rfl)) (by decide) (t := (.array (.object "java/lang/Object"))) (t' := (.object "java/lang/String")) (by decide) (by decide)))
  have S_UNIQUE_2 := Sta.wr W2 S_UNIQUE
  have Z2 := Nat.le_trans Z0 (Keep.of_wr W2).1
  have K2 := K0.wr W2 (Or.inl (List.mem_of_getElem? (i := 0) rfl))
  have N2 := Fr.snoc X2 N0 g_oa
  refine own_Fin.go (fun t k => XS.aloadN X2.here hx rfl (hb hby d0_9) rfl rfl (XS.iloadN X2.here hx rfl (hb hby d0_10) rfl k)) ?_
  refine own_sC X2 hx hZ hown (own_W hw 35 rfl) (own_W hw 36 rfl) (own_W hw 17 rfl) (own_W hw 37 rfl) (by decide) (own_rm_hli l Z a0 hw [] (3 : Int32)  h2 n0 Z2 ) 1 (by decide) (by decide) e2 rfl (by rw [hml]; rfl) [(.int 3)] [(.ref oa)] (lenOf own_pd1 rfl) rfl (Nat.le_of_eq rfl) (hb hby d0_11) rfl (by decide) (by decide) ?_
  rintro T3 Lc3 _ X3 ⟨rfl, N3q, e3⟩
  have N3 := Fr.app N2 N3q
  show own_Fin _ _ _ _ _ _ _ (T3.setTop (mkF m 14 #[rv oa, rv on, rv ok, iv 3] [(.int (own_hl (3 : Int32))), (.ref oa)]))
  rw [show (own_hl (3 : Int32)) = (2 : Int32) from by decide +kernel]
  obtain ⟨T4, h4, k4, X4, e4, E4, A4, st4⟩ := newP X3 hx hZ (own_W hw 38 rfl) e3 (g := (mkF m 14 #[rv oa, rv on, rv ok, iv 3] [(.int 2), (.ref oa)])) rfl (hb hby d0_14) rfl (by decide) (cap := 2) (by decide) (by decide) (by decide) (by decide)
  obtain ⟨b4, g4⟩ : ∃ z, z = h2.size := ⟨_, rfl⟩
  rw [← g4] at A4 st4
  refine own_Fin.go st4 ?_
  have g_b4 : n0 ≤ b4 := Nat.le_trans Z2 (Nat.le_of_eq g4.symm)
  have sz_b4 : h0.size ≤ b4 := Nat.le_trans K2.1 (Nat.le_of_eq g4.symm)
  have ne_oa_b4 : oa ≠ b4 := Nat.ne_of_lt (Nat.lt_of_lt_of_le F_oa_sets_2.lt (Nat.le_of_eq g4.symm))
  have E_oa_4 := Exa.ext E4 E_oa_2
  have F_oa_cells_4 := Fld.ext E4 F_oa_cells_2
  have F_oa_sets_4 := Fld.ext E4 F_oa_sets_2
  have S_UNIQUE_4 := Sta.ext E4 S_UNIQUE_2
  have Z4 := Nat.le_trans Z2 E4.1
  have K4 := K2.ext E4
  have V_b4 : Arv Z h4 b4 k4 .long (2 : Int32) [(.long 0), (.long 0)] (.long 0) := (Arv.new A4 (by decide)).pad (pad_rep [] (.long 0) 2)
  obtain ⟨T5, h5, X5, e5, W5, st5⟩ := putF X4 hx hZ hown (host := "") (Or.inl (own_W hw 39 rfl)) Via.refl e4 F_oa_cells_4 E_oa_4 (Or.inl (own_W hw 40 rfl)) (own_W hw 16 rfl) (ty := (.array .long)) (by decide) rfl rfl (g := (mkF m 16 #[rv oa, rv on, rv ok, iv 3] [(.ref b4), (.ref oa)])) rfl rfl (hb hby d0_16)
  refine own_Fin.go st5 ?_
  have F_oa_cells_5 := Fld.same W5 F_oa_cells_4
  have E_oa_5 := Exa.wr W5 E_oa_4
  have F_oa_sets_5 := Fld.other W5 F_oa_sets_4 (Or.inr (slot_ne (Or.inl (own_W hw 44 rfl)) (Or.inl (own_W hw 40 rfl)) (by decide) (t := (.array (.object "java/lang/Object"))) (t' := (.array .long)) (by decide) (by decide)))
  have S_UNIQUE_5 := Sta.wr W5 S_UNIQUE_4
  have V_b4_5 := Arv.other V_b4 W5 (Ne.symm ne_oa_b4)
  have Z5 := Nat.le_trans Z4 (Keep.of_wr W5).1
  have K5 := K4.wr W5 (Or.inl (List.mem_of_getElem? (i := 0) rfl))
  have N5 := Fr.snoc X5 N3 g_oa
  refine own_Fin.go (fun t k => XS.aloadN X5.here hx rfl (hb hby d0_19) rfl rfl k) ?_
  refine own_gF X5 hx hZ hown (own_W hw 39 rfl) e5 F_oa_cells_5 rfl rfl (hb hby d0_20) ?_
  intro T6 X6 e6
  refine own_Fin.go (fun t k => XS.iconst X6.here hx rfl (hb hby d0_23) k) ?_
  show own_Fin _ _ _ _ _ _ _ (T6.setTop (mkF m 24 #[rv oa, rv on, rv ok, iv 3] [(.int 0), (.ref b4)]))
  refine own_Fin.go (fun t k => XS.iloadN X6.here hx rfl (hb hby d0_24) rfl (XS.i2l X6.here hx rfl (hb hby d0_25) rfl k)) ?_
  show own_Fin _ _ _ _ _ _ _ (T6.setTop (mkF m 26 #[rv oa, rv on, rv ok, iv 3] [(.long ((3 : Int32).toInt64)), (.int 0), (.ref b4)]))
  rw [show ((3 : Int32).toInt64) = (3 : Int64) from by decide +kernel]
  refine own_Fin.go (fun t k => XS.bipush X6.here hx rfl (hb hby d0_26) (XS.lshl X6.here hx rfl (hb hby d0_28) rfl k)) ?_
  show own_Fin _ _ _ _ _ _ _ (T6.setTop (mkF m 29 #[rv oa, rv on, rv ok, iv 3] [(.long ((3 : Int64) <<< ((60 : Int32) &&& 0x3f).toInt64)), (.int 0), (.ref b4)]))
  rw [show ((3 : Int64) <<< ((60 : Int32) &&& 0x3f).toInt64) = (3458764513820540928 : Int64) from by decide +kernel]
  obtain ⟨cl7, Ar7, q7, S7, N7l, H7, G7⟩ := (id V_b4_5)
  have hin7 : ¬ ((0 : Int32) < 0 ∨ cl7.slots.size ≤ ((0 : Int32)).toNatClampNeg) := inb_of S7 ⟨by decide, by decide⟩
  obtain ⟨T7, h7, X7, e7, W7, st7⟩ := stJ X6 hx hZ e6 Ar7 (j := (0 : Int32)) hin7 (g := (mkF m 29 #[rv oa, rv on, rv ok, iv 3] [(.long 3458764513820540928), (.int 0), (.ref b4)])) rfl rfl (hb hby d0_29)
  refine own_Fin.go st7 ?_
  have V_b4_7 := Arv.set Ar7 q7 S7 N7l H7 G7 rfl W7 0 rfl (Nat.le_of_ble_eq_true rfl)
  replace V_b4_7 : Arv Z h7 b4 k4 .long (2 : Int32) [(.long 3458764513820540928), (.long 0)] (.long 0) := V_b4_7
  have E_oa_7 := Exa.wr W7 E_oa_5
  have F_oa_cells_7 := Fld.other W7 F_oa_cells_5 (Or.inl ne_oa_b4)
  have F_oa_sets_7 := Fld.other W7 F_oa_sets_5 (Or.inl ne_oa_b4)
  have S_UNIQUE_7 := Sta.wr W7 S_UNIQUE_5
  have Z7 := Nat.le_trans Z5 (Keep.of_wr W7).1
  have K7 := K5.wr W7 (Or.inr sz_b4)
  have N7 := Fr.snoc X7 N5 g_b4
  refine own_Fin.go (fun t k => XS.aloadN X7.here hx rfl (hb hby d0_30) rfl rfl (XS.aloadN X7.here hx rfl (hb hby d0_31) rfl rfl k)) ?_
  obtain ⟨T8, X8, e8, st8⟩ := getS2 X7 hx hZ hown (host := "") (Or.inl (own_W hw 41 rfl)) Via.refl e7 S_UNIQUE_7 (g := (mkF m 32 #[rv oa, rv on, rv ok, iv 3] [(.ref ok), (.ref oa)])) rfl (hb hby d0_32)
  refine own_Fin.go st8 ?_
  refine own_Fin.go (fun t k => Jvm.RoadKit.acmp (g := (mkF m 35 #[rv oa, rv on, rv ok, iv 3] [(.ref ou), (.ref ok), (.ref oa)])) X8 hx rfl rfl rfl (pc0 := 35) (pc' := 44) (same := false) rfl (hb hby d0_35) rfl (decide_eq_false fun q => absurd (Value.ref.inj q) (ne_ok_ou)) (by decide) (by decide) k) ?_
  show own_Fin _ _ _ _ _ _ _ (T8.setTop (mkF m 44 #[rv oa, rv on, rv ok, iv 3] [(.ref oa)]))
  refine own_Fin.go (fun t k => XS.aconstNull X8.here hx rfl (hb hby d0_44) k) ?_
  obtain ⟨T9, h9, X9, e9, W9, st9⟩ := putF X8 hx hZ hown (host := "") (Or.inl (own_W hw 43 rfl)) Via.refl e8 F_oa_sets_7 E_oa_7 (Or.inl (own_W hw 44 rfl)) (own_W hw 16 rfl) (ty := (.array (.object "java/lang/Object"))) (by decide) rfl rfl (g := (mkF m 45 #[rv oa, rv on, rv ok, iv 3] [.null, (.ref oa)])) rfl rfl (hb hby d0_45)
  refine own_Fin.go st9 ?_
  have F_oa_sets_9 := Fld.same W9 F_oa_sets_7
  have E_oa_9 := Exa.wr W9 E_oa_7
  have F_oa_cells_9 := Fld.other W9 F_oa_cells_7 (Or.inr (slot_ne (Or.inl (own_W hw 40 rfl)) (Or.inl (own_W hw 44 rfl)) (by decide) (t := (.array .long)) (t' := (.array (.object "java/lang/Object"))) (by decide) (by decide)))
  have S_UNIQUE_9 := Sta.wr W9 S_UNIQUE_7
  have V_b4_9 := Arv.other V_b4_7 W9 (Ne.symm ne_oa_b4)
  have Z9 := Nat.le_trans Z7 (Keep.of_wr W9).1
  have K9 := K7.wr W9 (Or.inl (List.mem_of_getElem? (i := 0) rfl))
  have N9 := Fr.snoc X9 N7 g_oa
  show own_Fin _ _ _ _ _ _ _ (T9.setTop (mkF m 48 #[rv oa, rv on, rv ok, iv 3] []))
  refine own_ret0 X9 hx Bd.returns (hb hby d0_48) Bd.notSynchronized (by decide) (by decide) ?_
  rw [e9]
  exact ⟨b4, k4, rfl, N9, K9, E_oa_9, F_oa_cells_9, F_oa_sets_9, V_b4_9, sz_b4, ne_oa_b4⟩
theorem own_pd4 : parseMethodDescriptor "(IJ)I" = some ⟨[.int, .long], some .int⟩ := by decide +kernel
theorem own_pd5 : parseMethodDescriptor "([JI)[J" = some ⟨[(.array .long), .int], some (.array .long)⟩ := by decide +kernel
theorem own_pd6 : parseMethodDescriptor "(II)V" = some ⟨[.int, .int], none⟩ := by decide +kernel
theorem d10_0 : decode prog_4_method_10_code 0 = .ok (.aload_n 0, 1) := by decide +kernel
theorem d10_1 : decode prog_4_method_10_code 1 = .ok (.iload_n 1, 1) := by decide +kernel
theorem d10_2 : decode prog_4_method_10_code 2 = .ok (.lload_n 2, 1) := by decide +kernel
theorem d10_3 : decode prog_4_method_10_code 3 = .ok (.invokevirtual 83, 3) := by decide +kernel
theorem d10_6 : decode prog_4_method_10_code 6 = .ok (.istore 5, 2) := by decide +kernel
theorem d10_8 : decode prog_4_method_10_code 8 = .ok (.aload_n 0, 1) := by decide +kernel
theorem d10_9 : decode prog_4_method_10_code 9 = .ok (.iload_n 1, 1) := by decide +kernel
theorem d10_10 : decode prog_4_method_10_code 10 = .ok (.invokevirtual 77, 3) := by decide +kernel
theorem d10_13 : decode prog_4_method_10_code 13 = .ok (.iconst 2, 1) := by decide +kernel
theorem d10_14 : decode prog_4_method_10_code 14 = .ok (.aload_n 0, 1) := by decide +kernel
theorem d10_15 : decode prog_4_method_10_code 15 = .ok (.iload_n 1, 1) := by decide +kernel
theorem d10_16 : decode prog_4_method_10_code 16 = .ok (.invokevirtual 80, 3) := by decide +kernel
theorem d10_19 : decode prog_4_method_10_code 19 = .ok (.imul, 1) := by decide +kernel
theorem d10_20 : decode prog_4_method_10_code 20 = .ok (.iadd, 1) := by decide +kernel
theorem d10_21 : decode prog_4_method_10_code 21 = .ok (.istore 6, 2) := by decide +kernel
theorem d10_23 : decode prog_4_method_10_code 23 = .ok (.iload 5, 2) := by decide +kernel
theorem d10_25 : decode prog_4_method_10_code 25 = .ok (.iload 6, 2) := by decide +kernel
theorem d10_27 : decode prog_4_method_10_code 27 = .ok (.if_icmp .ge 18, 3) := by decide +kernel
theorem d10_45 : decode prog_4_method_10_code 45 = .ok (.aload_n 0, 1) := by decide +kernel
theorem d10_46 : decode prog_4_method_10_code 46 = .ok (.invokevirtual 170, 3) := by decide +kernel
theorem d10_49 : decode prog_4_method_10_code 49 = .ok (.istore 7, 2) := by decide +kernel
theorem d10_51 : decode prog_4_method_10_code 51 = .ok (.iload 7, 2) := by decide +kernel
theorem d10_53 : decode prog_4_method_10_code 53 = .ok (.iconst 2, 1) := by decide +kernel
theorem d10_54 : decode prog_4_method_10_code 54 = .ok (.iadd, 1) := by decide +kernel
theorem d10_55 : decode prog_4_method_10_code 55 = .ok (.aload_n 0, 1) := by decide +kernel
theorem d10_56 : decode prog_4_method_10_code 56 = .ok (.getfield 21, 3) := by decide +kernel
theorem d10_59 : decode prog_4_method_10_code 59 = .ok (.arraylength, 1) := by decide +kernel
theorem d10_60 : decode prog_4_method_10_code 60 = .ok (.if_icmp .le 25, 3) := by decide +kernel
theorem d10_63 : decode prog_4_method_10_code 63 = .ok (.aload_n 0, 1) := by decide +kernel
theorem d10_64 : decode prog_4_method_10_code 64 = .ok (.aload_n 0, 1) := by decide +kernel
theorem d10_65 : decode prog_4_method_10_code 65 = .ok (.getfield 21, 3) := by decide +kernel
theorem d10_68 : decode prog_4_method_10_code 68 = .ok (.iload 7, 2) := by decide +kernel
theorem d10_70 : decode prog_4_method_10_code 70 = .ok (.iconst 2, 1) := by decide +kernel
theorem d10_71 : decode prog_4_method_10_code 71 = .ok (.iadd, 1) := by decide +kernel
theorem d10_72 : decode prog_4_method_10_code 72 = .ok (.iload 7, 2) := by decide +kernel
theorem d10_74 : decode prog_4_method_10_code 74 = .ok (.iconst 4, 1) := by decide +kernel
theorem d10_75 : decode prog_4_method_10_code 75 = .ok (.iushr, 1) := by decide +kernel
theorem d10_76 : decode prog_4_method_10_code 76 = .ok (.iconst 1, 1) := by decide +kernel
theorem d10_77 : decode prog_4_method_10_code 77 = .ok (.ishl, 1) := by decide +kernel
theorem d10_78 : decode prog_4_method_10_code 78 = .ok (.iadd, 1) := by decide +kernel
theorem d10_79 : decode prog_4_method_10_code 79 = .ok (.invokestatic 124, 3) := by decide +kernel
theorem d10_82 : decode prog_4_method_10_code 82 = .ok (.putfield 21, 3) := by decide +kernel
theorem d10_85 : decode prog_4_method_10_code 85 = .ok (.aload_n 0, 1) := by decide +kernel
theorem d10_86 : decode prog_4_method_10_code 86 = .ok (.getfield 21, 3) := by decide +kernel
theorem d10_89 : decode prog_4_method_10_code 89 = .ok (.iload 5, 2) := by decide +kernel
theorem d10_91 : decode prog_4_method_10_code 91 = .ok (.aload_n 0, 1) := by decide +kernel
theorem d10_92 : decode prog_4_method_10_code 92 = .ok (.getfield 21, 3) := by decide +kernel
theorem d10_95 : decode prog_4_method_10_code 95 = .ok (.iload 5, 2) := by decide +kernel
theorem d10_97 : decode prog_4_method_10_code 97 = .ok (.iconst 2, 1) := by decide +kernel
theorem d10_98 : decode prog_4_method_10_code 98 = .ok (.iadd, 1) := by decide +kernel
theorem d10_99 : decode prog_4_method_10_code 99 = .ok (.iload 7, 2) := by decide +kernel
theorem d10_101 : decode prog_4_method_10_code 101 = .ok (.iload 5, 2) := by decide +kernel
theorem d10_103 : decode prog_4_method_10_code 103 = .ok (.isub, 1) := by decide +kernel
theorem d10_104 : decode prog_4_method_10_code 104 = .ok (.invokestatic 105, 3) := by decide +kernel
theorem d10_107 : decode prog_4_method_10_code 107 = .ok (.aload_n 0, 1) := by decide +kernel
theorem d10_108 : decode prog_4_method_10_code 108 = .ok (.getfield 21, 3) := by decide +kernel
theorem d10_111 : decode prog_4_method_10_code 111 = .ok (.iload 5, 2) := by decide +kernel
theorem d10_113 : decode prog_4_method_10_code 113 = .ok (.lload_n 2, 1) := by decide +kernel
theorem d10_114 : decode prog_4_method_10_code 114 = .ok (.lastore, 1) := by decide +kernel
theorem d10_115 : decode prog_4_method_10_code 115 = .ok (.aload_n 0, 1) := by decide +kernel
theorem d10_116 : decode prog_4_method_10_code 116 = .ok (.getfield 21, 3) := by decide +kernel
theorem d10_119 : decode prog_4_method_10_code 119 = .ok (.iload 5, 2) := by decide +kernel
theorem d10_121 : decode prog_4_method_10_code 121 = .ok (.iconst 1, 1) := by decide +kernel
theorem d10_122 : decode prog_4_method_10_code 122 = .ok (.iadd, 1) := by decide +kernel
theorem d10_123 : decode prog_4_method_10_code 123 = .ok (.lconst 0, 1) := by decide +kernel
theorem d10_124 : decode prog_4_method_10_code 124 = .ok (.lastore, 1) := by decide +kernel
theorem d10_125 : decode prog_4_method_10_code 125 = .ok (.aload_n 0, 1) := by decide +kernel
theorem d10_126 : decode prog_4_method_10_code 126 = .ok (.getfield 35, 3) := by decide +kernel
theorem d10_129 : decode prog_4_method_10_code 129 = .ok (.ifnull 87, 3) := by decide +kernel
theorem d10_216 : decode prog_4_method_10_code 216 = .ok (.aload_n 0, 1) := by decide +kernel
theorem d10_217 : decode prog_4_method_10_code 217 = .ok (.iload_n 1, 1) := by decide +kernel
theorem d10_218 : decode prog_4_method_10_code 218 = .ok (.aload_n 0, 1) := by decide +kernel
theorem d10_219 : decode prog_4_method_10_code 219 = .ok (.iload_n 1, 1) := by decide +kernel
theorem d10_220 : decode prog_4_method_10_code 220 = .ok (.invokevirtual 80, 3) := by decide +kernel
theorem d10_223 : decode prog_4_method_10_code 223 = .ok (.iconst 1, 1) := by decide +kernel
theorem d10_224 : decode prog_4_method_10_code 224 = .ok (.iadd, 1) := by decide +kernel
theorem d10_225 : decode prog_4_method_10_code 225 = .ok (.invokevirtual 114, 3) := by decide +kernel
theorem d10_228 : decode prog_4_method_10_code 228 = .ok (.aload 4, 2) := by decide +kernel
theorem d10_230 : decode prog_4_method_10_code 230 = .ok (.dup, 1) := by decide +kernel
theorem d10_231 : decode prog_4_method_10_code 231 = .ok (.getfield 111, 3) := by decide +kernel
theorem d10_234 : decode prog_4_method_10_code 234 = .ok (.lconst 1, 1) := by decide +kernel
theorem d10_235 : decode prog_4_method_10_code 235 = .ok (.ladd, 1) := by decide +kernel
theorem d10_236 : decode prog_4_method_10_code 236 = .ok (.putfield 111, 3) := by decide +kernel
theorem d10_239 : decode prog_4_method_10_code 239 = .ok (.iload 5, 2) := by decide +kernel
theorem d10_241 : decode prog_4_method_10_code 241 = .ok (.ireturn, 1) := by decide +kernel
theorem own_ef_soA (m : MethodId) (oa : Addr) (vb : Int64) (ot : Addr) : entryFrame m #[(.ref oa), (.int 0), (.long vb), (.ref ot)] 10 = mkF m 0 #[rv oa, iv 0, jv vb, sS, rv ot, uS, uS, uS, uS, uS] [] := by first | (simp [entryFrame, mkF, argsToLocals, Value.category]; done) | rfl
def own_Q_soA (Z : State) (oa : Addr) (vb : Int64) (ot : Addr) (oz : Addr) (kz : ClassId) (ub : Int64) (h0 : Heap) (n0 : Nat) (v : Option Value) (h : Heap) (L : List Loc) : Prop := ∃ ob : Addr, ∃ kb : ClassId, v = some (.int 2) ∧ Fr n0 L ∧ Keep h0 h [oa, ot, oz] ∧ Exa Z h oa own_k0 ∧ Fld Z h oa own_k0 "cells" "[J" (.ref ob) ∧ Fld Z h oa own_k0 "sets" "[Ljava/lang/Object;" .null ∧ Arv Z h ob kb .long (4 : Int32) [(.long 3458764513820540929), (.long 0), (.long vb), (.long 0)] (.long 0) ∧ Exa Z h ot own_k2 ∧ Fld Z h ot own_k2 "buckets" "J" (.long (ub + (1 : Int64))) ∧ h0.size ≤ ob ∧ oa ≠ ob ∧ ot ≠ ob
set_option maxRecDepth 65536 in
set_option maxHeartbeats 40000000 in
theorem own_rm_soA (l : Launch) (Z : State) (a0 : Array Value) (hw : ∀ d ∈ tables_1, d.before a0 Z = true) (ws : List Jvm.Cond) (oa : Addr) (vb : Int64) (ot : Addr) (oz : Addr) (kz : ClassId) (ub : Int64) (h0 : Heap) (n0 : Nat) (Z0 : n0 ≤ h0.size) (E_oa : Exa Z h0 oa own_k0) (F_oa_cells : Fld Z h0 oa own_k0 "cells" "[J" (.ref oz)) (F_oa_sets : Fld Z h0 oa own_k0 "sets" "[Ljava/lang/Object;" .null) (V_oz : Arv Z h0 oz kz .long (2 : Int32) [(.long 3458764513820540928), (.long 0)] (.long 0)) (E_ot : Exa Z h0 ot own_k2) (F_ot_buckets : Fld Z h0 ot own_k2 "buckets" "J" (.long ub)) (g_oa : n0 ≤ oa) (g_oz : n0 ≤ oz) (g_ot : n0 ≤ ot) (ne_oa_ot : oa ≠ ot) (ne_oa_oz : oa ≠ oz) (ne_ot_oz : ot ≠ oz) :
    MetFree l own_y16 (head1 (Jvm.Cond.code own_y16 prog_4_method_10_code 10 (some .int) :: ws) ({ frames := 4, cells := 1, slots := 4, locals := 55 } : Room)) (fun a U => a = #[(.ref oa), (.int 0), (.long vb), (.ref ot)] ∧ Z.Warmed39 U.vm ∧ U.heap = h0) (fun _ _ _ _ _ => True) (fun _ U o U' => ∃ v L, o = .returned v ∧ own_Q_soA Z oa vb ot oz kz ub h0 n0 v U'.heap L ∧ FrameEnd U o U' L ({ frames := 4, cells := 1, slots := 4, locals := 55 } : Room).cells ({ frames := 4, cells := 1, slots := 4, locals := 55 } : Room).slots) := by
  refine MetFree.of_bodySF (plainFor_of_name own_pn0) hisR ?_
  intro p e s m args below meth c s₁ Bd hml0 hP hK
  obtain ⟨rfl, hZ, hh⟩ := hP
  have hx := Bd.exec
  have hby := Bd.bytes
  have hml : c.maxLocals = 10 := hml0
  have hown : s.vm.findClass own_k0 = some m.cls := findClass_of_methodNamed Bd.named
  have hnm := (name_of_methodNamed Bd.named Bd.method).1
  have X0 : Stand p l e ({ frames := 4, cells := 1, slots := 4, locals := 55 } : Room) s m #[(.ref oa), (.int 0), (.long vb), (.ref ot)] below meth c s₁ [] 0 0 := Stand.of_body Bd
  have e0 : s₁.heap = h0 := by rw [← hh, Bd.state]; rfl
  have N0 := Fr.nil n0
  have K0 := Keep.refl h0 [oa, ot, oz]
  show own_Fin p e below s (own_Q_soA Z oa vb ot oz kz ub h0 n0) ({ frames := 4, cells := 1, slots := 4, locals := 55 } : Room).cells ({ frames := 4, cells := 1, slots := 4, locals := 55 } : Room).slots (s₁.setTop (entryFrame m #[(.ref oa), (.int 0), (.long vb), (.ref ot)] 10))
  refine own_Fin.go (fun t k => castTop (own_ef_soA m oa vb ot) k) ?_
  refine own_Fin.go (fun t k => XS.aloadN X0.here hx rfl (hb hby d10_0) rfl rfl (XS.iloadN X0.here hx rfl (hb hby d10_1) rfl (XS.lloadN X0.here hx rfl (hb hby d10_2) rfl k))) ?_
  refine own_pC X0 hx hZ hown (own_W hw 54 rfl) (own_W hw 55 rfl) (own_W hw 48 rfl) rfl (own_W hw 56 rfl) (own_W hw 57 rfl) (own_W hw 17 rfl) (by decide) (own_rm_iz0 l Z a0 hw [] oa vb oz kz (2 : Int32) (3458764513820540928 : Int64) (0 : Int64) ([]) h0 n0 Z0 E_oa F_oa_cells V_oz (by decide) (by decide)) 0 (by decide) (by decide) e0 E_oa rfl (by rw [hml]; rfl) [(.int 0), (.long vb)] (lenOf own_pd4 rfl) rfl (Nat.le_of_eq rfl) (hb hby d10_3) rfl (by decide) (by decide) ?_
  rintro T1 Lc1 _ X1 ⟨rfl, N1q, e1⟩
  have N1 := Fr.app N0 N1q
  show own_Fin _ _ _ _ _ _ _ (T1.setTop (mkF m 6 #[rv oa, iv 0, jv vb, sS, rv ot, uS, uS, uS, uS, uS] [(.int (own_ixa (3458764513820540928 : Int64)))]))
  rw [show (own_ixa (3458764513820540928 : Int64)) = (2 : Int32) from by decide +kernel]
  refine own_Fin.go (fun t k => XS.istore X1.here hx rfl (hb hby d10_6) rfl (l' := #[rv oa, iv 0, jv vb, sS, rv ot, iv 2, uS, uS, uS, uS]) rfl (XS.aloadN X1.here hx rfl (hb hby d10_8) rfl rfl (XS.iloadN X1.here hx rfl (hb hby d10_9) rfl k))) ?_
  refine own_pC X1 hx hZ hown (own_W hw 58 rfl) (own_W hw 59 rfl) (own_W hw 48 rfl) rfl (own_W hw 60 rfl) (own_W hw 61 rfl) (own_W hw 17 rfl) (by decide) (own_rm_st0 l Z a0 hw [] oa oz kz (2 : Int32) (3458764513820540928 : Int64) (0 : Int64) ([]) h0 n0 Z0 E_oa F_oa_cells V_oz (by decide)) 0 (by decide) (by decide) e1 E_oa rfl (by rw [hml]; rfl) [(.int 0)] (lenOf own_pd1 rfl) rfl (Nat.le_of_eq rfl) (hb hby d10_10) rfl (by decide) (by decide) ?_
  rintro T2 Lc2 _ X2 ⟨rfl, N2q, e2⟩
  have N2 := Fr.app N1 N2q
  show own_Fin _ _ _ _ _ _ _ (T2.setTop (mkF m 13 #[rv oa, iv 0, jv vb, sS, rv ot, iv 2, uS, uS, uS, uS] [(.int (own_sta (3458764513820540928 : Int64)))]))
  rw [show (own_sta (3458764513820540928 : Int64)) = (2 : Int32) from by decide +kernel]
  refine own_Fin.go (fun t k => XS.iconst X2.here hx rfl (hb hby d10_13) (XS.aloadN X2.here hx rfl (hb hby d10_14) rfl rfl (XS.iloadN X2.here hx rfl (hb hby d10_15) rfl k))) ?_
  refine own_pC X2 hx hZ hown (own_W hw 70 rfl) (own_W hw 71 rfl) (own_W hw 48 rfl) rfl (own_W hw 72 rfl) (own_W hw 73 rfl) (own_W hw 17 rfl) (by decide) (own_rm_len0 l Z a0 hw [] oa oz kz (2 : Int32) (3458764513820540928 : Int64) (0 : Int64) ([]) h0 n0 Z0 F_oa_cells V_oz (by decide)) 2 (by decide) (by decide) e2 E_oa rfl (by rw [hml]; rfl) [(.int 0)] (lenOf own_pd1 rfl) rfl (Nat.le_of_eq rfl) (hb hby d10_16) rfl (by decide) (by decide) ?_
  rintro T3 Lc3 _ X3 ⟨rfl, N3q, e3⟩
  have N3 := Fr.app N2 N3q
  show own_Fin _ _ _ _ _ _ _ (T3.setTop (mkF m 19 #[rv oa, iv 0, jv vb, sS, rv ot, iv 2, uS, uS, uS, uS] [(.int (own_lena (3458764513820540928 : Int64))), (.int 2), (.int 2)]))
  rw [show (own_lena (3458764513820540928 : Int64)) = (0 : Int32) from by decide +kernel]
  refine own_Fin.go (fun t k => XS.imul X3.here hx rfl (hb hby d10_19) rfl k) ?_
  show own_Fin _ _ _ _ _ _ _ (T3.setTop (mkF m 20 #[rv oa, iv 0, jv vb, sS, rv ot, iv 2, uS, uS, uS, uS] [(.int ((2 : Int32) * (0 : Int32))), (.int 2)]))
  rw [show ((2 : Int32) * (0 : Int32)) = (0 : Int32) from by decide +kernel]
  refine own_Fin.go (fun t k => XS.iadd X3.here hx rfl (hb hby d10_20) rfl k) ?_
  show own_Fin _ _ _ _ _ _ _ (T3.setTop (mkF m 21 #[rv oa, iv 0, jv vb, sS, rv ot, iv 2, uS, uS, uS, uS] [(.int ((2 : Int32) + (0 : Int32)))]))
  rw [show ((2 : Int32) + (0 : Int32)) = (2 : Int32) from by decide +kernel]
  refine own_Fin.go (fun t k => XS.istore X3.here hx rfl (hb hby d10_21) rfl (l' := #[rv oa, iv 0, jv vb, sS, rv ot, iv 2, iv 2, uS, uS, uS]) rfl (XS.iload X3.here hx rfl (hb hby d10_23) rfl (XS.iload X3.here hx rfl (hb hby d10_25) rfl (XS.icmpYes X3.here hx rfl (pc0 := 27) (pc' := 45) rfl (hb hby d10_27) rfl (by decide) (by decide) (by decide) k)))) ?_
  refine own_Fin.go (fun t k => XS.aloadN X3.here hx rfl (hb hby d10_45) rfl rfl k) ?_
  refine own_pC X3 hx hZ hown (own_W hw 79 rfl) (own_W hw 80 rfl) (own_W hw 48 rfl) rfl (own_W hw 81 rfl) (own_W hw 82 rfl) (own_W hw 17 rfl) (by decide) (own_rm_used l Z a0 hw [] oa oz kz (2 : Int32) (3458764513820540928 : Int64) (0 : Int64) ([]) h0 n0 Z0 E_oa F_oa_cells V_oz (by decide) (by decide)) 0 (by decide) (by decide) e3 E_oa rfl (by rw [hml]; rfl) [] (lenOf own_pd0 rfl) rfl (Nat.le_of_eq rfl) (hb hby d10_46) rfl (by decide) (by decide) ?_
  rintro T4 Lc4 _ X4 ⟨rfl, N4q, e4⟩
  have N4 := Fr.app N3 N4q
  show own_Fin _ _ _ _ _ _ _ (T4.setTop (mkF m 49 #[rv oa, iv 0, jv vb, sS, rv ot, iv 2, iv 2, uS, uS, uS] [(.int (own_std (3458764513820540928 : Int64) (0 : Int64)))]))
  rw [show (own_std (3458764513820540928 : Int64) (0 : Int64)) = (2 : Int32) from by decide +kernel]
  refine own_Fin.go (fun t k => XS.istore X4.here hx rfl (hb hby d10_49) rfl (l' := #[rv oa, iv 0, jv vb, sS, rv ot, iv 2, iv 2, iv 2, uS, uS]) rfl (XS.iload X4.here hx rfl (hb hby d10_51) rfl (XS.iconst X4.here hx rfl (hb hby d10_53) (XS.iadd X4.here hx rfl (hb hby d10_54) rfl k)))) ?_
  show own_Fin _ _ _ _ _ _ _ (T4.setTop (mkF m 55 #[rv oa, iv 0, jv vb, sS, rv ot, iv 2, iv 2, iv 2, uS, uS] [(.int ((2 : Int32) + (2 : Int32)))]))
  rw [show ((2 : Int32) + (2 : Int32)) = (4 : Int32) from by decide +kernel]
  refine own_Fin.go (fun t k => XS.aloadN X4.here hx rfl (hb hby d10_55) rfl rfl k) ?_
  refine own_gF X4 hx hZ hown (own_W hw 39 rfl) e4 F_oa_cells rfl rfl (hb hby d10_56) ?_
  intro T5 X5 e5
  obtain ⟨cl6, Ar6, -, S6, N6l, -, -⟩ := (id V_oz)
  refine own_Fin.go (fun t k => X5.arraylength hx (by rw [e5]; exact Ar6.1) (State.isArrayOf_alike hZ.alike Ar6.2.1) (g := (mkF m 59 #[rv oa, iv 0, jv vb, sS, rv ot, iv 2, iv 2, iv 2, uS, uS] [(.ref oz), (.int 4)])) rfl rfl (hb hby d10_59) t k) ?_
  rw [len_of S6 N6l]
  refine own_Fin.go (fun t k => XS.icmpNo X5.here hx rfl (hb hby d10_60) rfl (by decide) (XS.aloadN X5.here hx rfl (hb hby d10_63) rfl rfl (XS.aloadN X5.here hx rfl (hb hby d10_64) rfl rfl k))) ?_
  refine own_gF X5 hx hZ hown (own_W hw 39 rfl) e5 F_oa_cells rfl rfl (hb hby d10_65) ?_
  intro T7 X7 e7
  show own_Fin _ _ _ _ _ _ _ (T7.setTop (mkF m 68 #[rv oa, iv 0, jv vb, sS, rv ot, iv 2, iv 2, iv 2, uS, uS] [(.ref oz), (.ref oa)]))
  refine own_Fin.go (fun t k => XS.iload X7.here hx rfl (hb hby d10_68) rfl (XS.iconst X7.here hx rfl (hb hby d10_70) (XS.iadd X7.here hx rfl (hb hby d10_71) rfl k))) ?_
  show own_Fin _ _ _ _ _ _ _ (T7.setTop (mkF m 72 #[rv oa, iv 0, jv vb, sS, rv ot, iv 2, iv 2, iv 2, uS, uS] [(.int ((2 : Int32) + (2 : Int32))), (.ref oz), (.ref oa)]))
  rw [show ((2 : Int32) + (2 : Int32)) = (4 : Int32) from by decide +kernel]
  refine own_Fin.go (fun t k => XS.iload X7.here hx rfl (hb hby d10_72) rfl (XS.iconst X7.here hx rfl (hb hby d10_74) (XS.iushr X7.here hx rfl (hb hby d10_75) rfl k))) ?_
  show own_Fin _ _ _ _ _ _ _ (T7.setTop (mkF m 76 #[rv oa, iv 0, jv vb, sS, rv ot, iv 2, iv 2, iv 2, uS, uS] [(.int (((2 : Int32).toUInt32 >>> ((4 : Int32) &&& 31).toUInt32).toInt32)), (.int 4), (.ref oz), (.ref oa)]))
  rw [show (((2 : Int32).toUInt32 >>> ((4 : Int32) &&& 31).toUInt32).toInt32) = (0 : Int32) from by decide +kernel]
  refine own_Fin.go (fun t k => XS.iconst X7.here hx rfl (hb hby d10_76) (XS.ishl X7.here hx rfl (hb hby d10_77) rfl k)) ?_
  show own_Fin _ _ _ _ _ _ _ (T7.setTop (mkF m 78 #[rv oa, iv 0, jv vb, sS, rv ot, iv 2, iv 2, iv 2, uS, uS] [(.int ((0 : Int32) <<< ((1 : Int32) &&& 31))), (.int 4), (.ref oz), (.ref oa)]))
  rw [show ((0 : Int32) <<< ((1 : Int32) &&& 31)) = (0 : Int32) from by decide +kernel]
  refine own_Fin.go (fun t k => XS.iadd X7.here hx rfl (hb hby d10_78) rfl k) ?_
  show own_Fin _ _ _ _ _ _ _ (T7.setTop (mkF m 79 #[rv oa, iv 0, jv vb, sS, rv ot, iv 2, iv 2, iv 2, uS, uS] [(.int ((4 : Int32) + (0 : Int32))), (.ref oz), (.ref oa)]))
  rw [show ((4 : Int32) + (0 : Int32)) = (4 : Int32) from by decide +kernel]
  refine own_sC X7 hx hZ hown (own_W hw 83 rfl) (own_W hw 84 rfl) (own_W hw 85 rfl) (own_W hw 86 rfl) (by decide) (own_rm_cpy2 l Z a0 hw [] oz kz (3458764513820540928 : Int64) (0 : Int64) h0 n0 Z0 V_oz) 1 (by decide) (by decide) e7 rfl (by rw [hml]; rfl) [(.ref oz), (.int 4)] [(.ref oa)] (lenOf own_pd5 rfl) rfl (Nat.le_of_eq rfl) (hb hby d10_79) rfl (by decide) (by decide) ?_
  rintro T8 Lc8 _ X8 ⟨r8, kb8, rfl, N8q, K8q, c8_1, c8_2⟩
  have N8 := Fr.app N4 N8q
  have E_oa_8 := E_oa.keep K8q
  have F_oa_cells_8 := F_oa_cells.keep K8q nin0
  have F_oa_sets_8 := F_oa_sets.keep K8q nin0
  have V_oz_8 := V_oz.keep K8q nin0
  have E_ot_8 := E_ot.keep K8q
  have F_ot_buckets_8 := F_ot_buckets.keep K8q nin0
  have Z8 := Nat.le_trans Z0 K8q.1
  have K8 := K0.trans K8q all0
  have ne_oa_r8 : oa ≠ r8 := Nat.ne_of_lt (Nat.lt_of_lt_of_le F_oa_sets.lt c8_2)
  have ne_oz_r8 : oz ≠ r8 := Nat.ne_of_lt (Nat.lt_of_lt_of_le V_oz.lt c8_2)
  have ne_ot_r8 : ot ≠ r8 := Nat.ne_of_lt (Nat.lt_of_lt_of_le F_ot_buckets.lt c8_2)
  have g_r8 : n0 ≤ r8 := Nat.le_trans Z0 c8_2
  have sz_r8 : h0.size ≤ r8 := Nat.le_trans K0.1 c8_2
  obtain ⟨T9, h9, X9, e9, W9, st9⟩ := putF X8 hx hZ hown (host := "") (Or.inl (own_W hw 39 rfl)) Via.refl rfl F_oa_cells_8 E_oa_8 (Or.inl (own_W hw 40 rfl)) (own_W hw 16 rfl) (ty := (.array .long)) (by decide) rfl rfl (g := (mkF m 82 #[rv oa, iv 0, jv vb, sS, rv ot, iv 2, iv 2, iv 2, uS, uS] [(.ref r8), (.ref oa)])) rfl rfl (hb hby d10_82)
  refine own_Fin.go st9 ?_
  have F_oa_cells_9 := Fld.same W9 F_oa_cells_8
  have E_oa_9 := Exa.wr W9 E_oa_8
  have F_oa_sets_9 := Fld.other W9 F_oa_sets_8 (Or.inr (slot_ne (Or.inl (own_W hw 44 rfl)) (Or.inl (own_W hw 40 rfl)) (by decide) (t := (.array (.object "java/lang/Object"))) (t' := (.array .long)) (by decide) (by decide)))
  have V_oz_9 := Arv.other V_oz_8 W9 (Ne.symm ne_oa_oz)
  have E_ot_9 := Exa.wr W9 E_ot_8
  have F_ot_buckets_9 := Fld.other W9 F_ot_buckets_8 (Or.inl (Ne.symm ne_oa_ot))
  have V_r8_9 := Arv.other c8_1 W9 (Ne.symm ne_oa_r8)
  have Z9 := Nat.le_trans Z8 (Keep.of_wr W9).1
  have K9 := K8.wr W9 (Or.inl (List.mem_of_getElem? (i := 0) rfl))
  have N9 := Fr.snoc X9 N8 g_oa
  refine own_Fin.go (fun t k => XS.aloadN X9.here hx rfl (hb hby d10_85) rfl rfl k) ?_
  refine own_gF X9 hx hZ hown (own_W hw 39 rfl) e9 F_oa_cells_9 rfl rfl (hb hby d10_86) ?_
  intro T10 X10 e10
  refine own_Fin.go (fun t k => XS.iload X10.here hx rfl (hb hby d10_89) rfl (XS.aloadN X10.here hx rfl (hb hby d10_91) rfl rfl k)) ?_
  refine own_gF X10 hx hZ hown (own_W hw 39 rfl) e10 F_oa_cells_9 rfl rfl (hb hby d10_92) ?_
  intro T11 X11 e11
  show own_Fin _ _ _ _ _ _ _ (T11.setTop (mkF m 95 #[rv oa, iv 0, jv vb, sS, rv ot, iv 2, iv 2, iv 2, uS, uS] [(.ref r8), (.int 2), (.ref r8)]))
  refine own_Fin.go (fun t k => XS.iload X11.here hx rfl (hb hby d10_95) rfl (XS.iconst X11.here hx rfl (hb hby d10_97) (XS.iadd X11.here hx rfl (hb hby d10_98) rfl k))) ?_
  show own_Fin _ _ _ _ _ _ _ (T11.setTop (mkF m 99 #[rv oa, iv 0, jv vb, sS, rv ot, iv 2, iv 2, iv 2, uS, uS] [(.int ((2 : Int32) + (2 : Int32))), (.ref r8), (.int 2), (.ref r8)]))
  rw [show ((2 : Int32) + (2 : Int32)) = (4 : Int32) from by decide +kernel]
  refine own_Fin.go (fun t k => XS.iload X11.here hx rfl (hb hby d10_99) rfl (XS.iload X11.here hx rfl (hb hby d10_101) rfl (XS.isub X11.here hx rfl (hb hby d10_103) rfl k))) ?_
  show own_Fin _ _ _ _ _ _ _ (T11.setTop (mkF m 104 #[rv oa, iv 0, jv vb, sS, rv ot, iv 2, iv 2, iv 2, uS, uS] [(.int ((2 : Int32) - (2 : Int32))), (.int 4), (.ref r8), (.int 2), (.ref r8)]))
  rw [show ((2 : Int32) - (2 : Int32)) = (0 : Int32) from by decide +kernel]
  obtain ⟨T12, h12, L12, X12, e12, N12, K12q, V12c, st12⟩ := cpA X11 hx hZ hown (own_W hw 95 rfl) (own_W hw 94 rfl) (own_W hw 92 rfl) (own_W hw 93 rfl) e11 V_r8_9 V_r8_9 (us := []) (Or.inl ⟨rfl, rfl⟩) (by decide) (by decide) (by decide) (by decide) (by decide) rfl (Nat.le_of_ble_eq_true rfl) N9 g_r8 (g := (mkF m 104 #[rv oa, iv 0, jv vb, sS, rv ot, iv 2, iv 2, iv 2, uS, uS] [(.int 0), (.int 4), (.ref r8), (.int 2), (.ref r8)])) rfl (by rw [hml]; rfl) rfl (hb hby d10_104) (by decide) (W := 0) (Nat.le_of_eq rfl) (by decide)
  refine own_Fin.go st12 ?_
  have V_r8_12 : Arv Z h12 r8 kb8 .long (4 : Int32) [(.long 3458764513820540928), (.long 0), (.long 0), (.long 0)] (.long 0) := V12c
  have E_oa_12 := E_oa_9.keep K12q
  have F_oa_cells_12 := F_oa_cells_9.keep K12q (ninS ne_oa_r8 nin0)
  have F_oa_sets_12 := F_oa_sets_9.keep K12q (ninS ne_oa_r8 nin0)
  have E_ot_12 := E_ot_9.keep K12q
  have F_ot_buckets_12 := F_ot_buckets_9.keep K12q (ninS ne_ot_r8 nin0)
  have Z12 := Nat.le_trans Z9 K12q.1
  have K12 := K9.trans K12q (allS (Or.inr sz_r8) all0)
  refine own_Fin.go (fun t k => XS.aloadN X12.here hx rfl (hb hby d10_107) rfl rfl k) ?_
  refine own_gF X12 hx hZ hown (own_W hw 39 rfl) e12 F_oa_cells_12 rfl rfl (hb hby d10_108) ?_
  intro T13 X13 e13
  refine own_Fin.go (fun t k => XS.iload X13.here hx rfl (hb hby d10_111) rfl (XS.lloadN X13.here hx rfl (hb hby d10_113) rfl k)) ?_
  obtain ⟨cl14, Ar14, q14, S14, N14l, H14, G14⟩ := (id V_r8_12)
  have hin14 : ¬ ((2 : Int32) < 0 ∨ cl14.slots.size ≤ ((2 : Int32)).toNatClampNeg) := inb_of S14 ⟨by decide, by decide⟩
  obtain ⟨T14, h14, X14, e14, W14, st14⟩ := stJ X13 hx hZ e13 Ar14 (j := (2 : Int32)) hin14 (g := (mkF m 114 #[rv oa, iv 0, jv vb, sS, rv ot, iv 2, iv 2, iv 2, uS, uS] [(.long vb), (.int 2), (.ref r8)])) rfl rfl (hb hby d10_114)
  refine own_Fin.go st14 ?_
  have V_r8_14 := Arv.set Ar14 q14 S14 N14l H14 G14 rfl W14 2 rfl (Nat.le_of_ble_eq_true rfl)
  replace V_r8_14 : Arv Z h14 r8 kb8 .long (4 : Int32) [(.long 3458764513820540928), (.long 0), (.long vb), (.long 0)] (.long 0) := V_r8_14
  have E_oa_14 := Exa.wr W14 E_oa_12
  have F_oa_cells_14 := Fld.other W14 F_oa_cells_12 (Or.inl ne_oa_r8)
  have F_oa_sets_14 := Fld.other W14 F_oa_sets_12 (Or.inl ne_oa_r8)
  have E_ot_14 := Exa.wr W14 E_ot_12
  have F_ot_buckets_14 := Fld.other W14 F_ot_buckets_12 (Or.inl ne_ot_r8)
  have Z14 := Nat.le_trans Z12 (Keep.of_wr W14).1
  have K14 := K12.wr W14 (Or.inr sz_r8)
  have N14 := Fr.snoc X14 N12 g_r8
  show own_Fin _ _ _ _ _ _ _ (T14.setTop (mkF m 115 #[rv oa, iv 0, jv vb, sS, rv ot, iv 2, iv 2, iv 2, uS, uS] []))
  refine own_Fin.go (fun t k => XS.aloadN X14.here hx rfl (hb hby d10_115) rfl rfl k) ?_
  refine own_gF X14 hx hZ hown (own_W hw 39 rfl) e14 F_oa_cells_14 rfl rfl (hb hby d10_116) ?_
  intro T15 X15 e15
  refine own_Fin.go (fun t k => XS.iload X15.here hx rfl (hb hby d10_119) rfl (XS.iconst X15.here hx rfl (hb hby d10_121) (XS.iadd X15.here hx rfl (hb hby d10_122) rfl k))) ?_
  show own_Fin _ _ _ _ _ _ _ (T15.setTop (mkF m 123 #[rv oa, iv 0, jv vb, sS, rv ot, iv 2, iv 2, iv 2, uS, uS] [(.int ((2 : Int32) + (1 : Int32))), (.ref r8)]))
  rw [show ((2 : Int32) + (1 : Int32)) = (3 : Int32) from by decide +kernel]
  refine own_Fin.go (fun t k => XS.lconst X15.here hx rfl (hb hby d10_123) k) ?_
  obtain ⟨cl16, Ar16, q16, S16, N16l, H16, G16⟩ := (id V_r8_14)
  have hin16 : ¬ ((3 : Int32) < 0 ∨ cl16.slots.size ≤ ((3 : Int32)).toNatClampNeg) := inb_of S16 ⟨by decide, by decide⟩
  obtain ⟨T16, h16, X16, e16, W16, st16⟩ := stJ X15 hx hZ e15 Ar16 (j := (3 : Int32)) hin16 (g := (mkF m 124 #[rv oa, iv 0, jv vb, sS, rv ot, iv 2, iv 2, iv 2, uS, uS] [(.long 0), (.int 3), (.ref r8)])) rfl rfl (hb hby d10_124)
  refine own_Fin.go st16 ?_
  have V_r8_16 := Arv.set Ar16 q16 S16 N16l H16 G16 rfl W16 3 rfl (Nat.le_of_ble_eq_true rfl)
  replace V_r8_16 : Arv Z h16 r8 kb8 .long (4 : Int32) [(.long 3458764513820540928), (.long 0), (.long vb), (.long 0)] (.long 0) := V_r8_16
  have E_oa_16 := Exa.wr W16 E_oa_14
  have F_oa_cells_16 := Fld.other W16 F_oa_cells_14 (Or.inl ne_oa_r8)
  have F_oa_sets_16 := Fld.other W16 F_oa_sets_14 (Or.inl ne_oa_r8)
  have E_ot_16 := Exa.wr W16 E_ot_14
  have F_ot_buckets_16 := Fld.other W16 F_ot_buckets_14 (Or.inl ne_ot_r8)
  have Z16 := Nat.le_trans Z14 (Keep.of_wr W16).1
  have K16 := K14.wr W16 (Or.inr sz_r8)
  have N16 := Fr.snoc X16 N14 g_r8
  refine own_Fin.go (fun t k => XS.aloadN X16.here hx rfl (hb hby d10_125) rfl rfl k) ?_
  refine own_gF X16 hx hZ hown (own_W hw 43 rfl) e16 F_oa_sets_16 rfl rfl (hb hby d10_126) ?_
  intro T17 X17 e17
  refine own_Fin.go (fun t k => XS.ifnullYes X17.here hx rfl (pc0 := 129) (pc' := 216) rfl (hb hby d10_129) rfl (by decide) (by decide) k) ?_
  show own_Fin _ _ _ _ _ _ _ (T17.setTop (mkF m 216 #[rv oa, iv 0, jv vb, sS, rv ot, iv 2, iv 2, iv 2, uS, uS] []))
  refine own_Fin.go (fun t k => XS.aloadN X17.here hx rfl (hb hby d10_216) rfl rfl (XS.iloadN X17.here hx rfl (hb hby d10_217) rfl (XS.aloadN X17.here hx rfl (hb hby d10_218) rfl rfl (XS.iloadN X17.here hx rfl (hb hby d10_219) rfl k)))) ?_
  refine own_pC X17 hx hZ hown (own_W hw 70 rfl) (own_W hw 71 rfl) (own_W hw 48 rfl) rfl (own_W hw 72 rfl) (own_W hw 73 rfl) (own_W hw 17 rfl) (by decide) (own_rm_len0 l Z a0 hw [] oa r8 kb8 (4 : Int32) (3458764513820540928 : Int64) (0 : Int64) ([(.long vb), (.long 0)]) h16 n0 Z16 F_oa_cells_16 V_r8_16 (by decide)) 2 (by decide) (by decide) e17 E_oa_16 rfl (by rw [hml]; rfl) [(.int 0)] (lenOf own_pd1 rfl) rfl (Nat.le_of_eq rfl) (hb hby d10_220) rfl (by decide) (by decide) ?_
  rintro T18 Lc18 _ X18 ⟨rfl, N18q, e18⟩
  have N18 := Fr.app N16 N18q
  show own_Fin _ _ _ _ _ _ _ (T18.setTop (mkF m 223 #[rv oa, iv 0, jv vb, sS, rv ot, iv 2, iv 2, iv 2, uS, uS] [(.int (own_lena (3458764513820540928 : Int64))), (.int 0), (.ref oa)]))
  rw [show (own_lena (3458764513820540928 : Int64)) = (0 : Int32) from by decide +kernel]
  refine own_Fin.go (fun t k => XS.iconst X18.here hx rfl (hb hby d10_223) (XS.iadd X18.here hx rfl (hb hby d10_224) rfl k)) ?_
  show own_Fin _ _ _ _ _ _ _ (T18.setTop (mkF m 225 #[rv oa, iv 0, jv vb, sS, rv ot, iv 2, iv 2, iv 2, uS, uS] [(.int ((0 : Int32) + (1 : Int32))), (.int 0), (.ref oa)]))
  rw [show ((0 : Int32) + (1 : Int32)) = (1 : Int32) from by decide +kernel]
  refine own_pC X18 hx hZ hown (own_W hw 96 rfl) (own_W hw 97 rfl) (own_W hw 48 rfl) rfl (own_W hw 98 rfl) (own_W hw 99 rfl) (own_W hw 17 rfl) (by decide) (own_rm_sl0 l Z a0 hw [] oa (1 : Int32) r8 kb8 (4 : Int32) (3458764513820540928 : Int64) (0 : Int64) ([(.long vb), (.long 0)]) h16 n0 Z16 F_oa_cells_16 V_r8_16 (by decide) g_r8 ne_oa_r8) 0 (by decide) (by decide) e18 E_oa_16 rfl (by rw [hml]; rfl) [(.int 0), (.int 1)] (lenOf own_pd6 rfl) rfl (Nat.le_of_eq rfl) (hb hby d10_225) rfl (by decide) (by decide) ?_
  rintro T19 Lc19 _ X19 ⟨rfl, N19q, K19q, c19_1⟩
  have N19 := Fr.app N18 N19q
  have E_oa_19 := E_oa_16.keep K19q
  have F_oa_cells_19 := F_oa_cells_16.keep K19q (ninS ne_oa_r8 nin0)
  have F_oa_sets_19 := F_oa_sets_16.keep K19q (ninS ne_oa_r8 nin0)
  have E_ot_19 := E_ot_16.keep K19q
  have F_ot_buckets_19 := F_ot_buckets_16.keep K19q (ninS ne_ot_r8 nin0)
  have Z19 := Nat.le_trans Z16 K19q.1
  have K19 := K16.trans K19q (allS (Or.inr sz_r8) all0)
  rw [show (own_sla (3458764513820540928 : Int64) (1 : Int32)) = (3458764513820540929 : Int64) from by decide +kernel] at c19_1
  refine own_Fin.go (fun t k => XS.aload X19.here hx rfl (hb hby d10_228) rfl rfl (XS.dup X19.here hx rfl (hb hby d10_230) rfl rfl k)) ?_
  refine own_gF X19 hx hZ hown (own_W hw 101 rfl) rfl F_ot_buckets_19 rfl rfl (hb hby d10_231) ?_
  intro T20 X20 e20
  refine own_Fin.go (fun t k => XS.lconst X20.here hx rfl (hb hby d10_234) (XS.ladd X20.here hx rfl (hb hby d10_235) rfl k)) ?_
  obtain ⟨T21, h21, X21, e21, W21, st21⟩ := putF X20 hx hZ hown (host := "") (Or.inl (own_W hw 101 rfl)) Via.refl e20 F_ot_buckets_19 E_ot_19 (Or.inl (own_W hw 102 rfl)) (own_W hw 7 rfl) (ty := .long) (by decide) rfl rfl (g := (mkF m 236 #[rv oa, iv 0, jv vb, sS, rv ot, iv 2, iv 2, iv 2, uS, uS] [(.long (ub + (1 : Int64))), (.ref ot)])) rfl rfl (hb hby d10_236)
  refine own_Fin.go st21 ?_
  have F_ot_buckets_21 := Fld.same W21 F_ot_buckets_19
  have E_oa_21 := Exa.wr W21 E_oa_19
  have F_oa_cells_21 := Fld.other W21 F_oa_cells_19 (Or.inl ne_oa_ot)
  have F_oa_sets_21 := Fld.other W21 F_oa_sets_19 (Or.inl ne_oa_ot)
  have E_ot_21 := Exa.wr W21 E_ot_19
  have V_r8_21 := Arv.other c19_1 W21 (Ne.symm ne_ot_r8)
  have Z21 := Nat.le_trans Z19 (Keep.of_wr W21).1
  have K21 := K19.wr W21 (Or.inl (List.mem_of_getElem? (i := 1) rfl))
  have N21 := Fr.snoc X21 N19 g_ot
  show own_Fin _ _ _ _ _ _ _ (T21.setTop (mkF m 239 #[rv oa, iv 0, jv vb, sS, rv ot, iv 2, iv 2, iv 2, uS, uS] []))
  refine own_Fin.go (fun t k => XS.iload X21.here hx rfl (hb hby d10_239) rfl k) ?_
  refine own_retI X21 hx Bd.returns (hb hby d10_241) Bd.notSynchronized (by decide) (by decide) ?_
  rw [e21]
  exact ⟨r8, kb8, rfl, N21, K21, E_oa_21, F_oa_cells_21, F_oa_sets_21, V_r8_21, E_ot_21, F_ot_buckets_21, sz_r8, ne_oa_r8, ne_ot_r8⟩
theorem own_pd7 : parseMethodDescriptor "(IJLcom/example/inrush/inrush/engine/Tally;)I" = some ⟨[.int, .long, (.object "com/example/inrush/inrush/engine/Tally")], some .int⟩ := by decide +kernel
theorem own_pd8 : parseMethodDescriptor "(JJ)J" = some ⟨[.long, .long], some .long⟩ := by decide +kernel
theorem d1_0 : decode prog_4_method_4_code 0 = .ok (.aload_n 0, 1) := by decide +kernel
theorem d1_1 : decode prog_4_method_4_code 1 = .ok (.iload_n 1, 1) := by decide +kernel
theorem d1_2 : decode prog_4_method_4_code 2 = .ok (.lload_n 2, 1) := by decide +kernel
theorem d1_3 : decode prog_4_method_4_code 3 = .ok (.aload 6, 2) := by decide +kernel
theorem d1_5 : decode prog_4_method_4_code 5 = .ok (.invokevirtual 41, 3) := by decide +kernel
theorem d1_8 : decode prog_4_method_4_code 8 = .ok (.istore 7, 2) := by decide +kernel
theorem d1_10 : decode prog_4_method_4_code 10 = .ok (.aload_n 0, 1) := by decide +kernel
theorem d1_11 : decode prog_4_method_4_code 11 = .ok (.getfield 21, 3) := by decide +kernel
theorem d1_14 : decode prog_4_method_4_code 14 = .ok (.iload 7, 2) := by decide +kernel
theorem d1_16 : decode prog_4_method_4_code 16 = .ok (.iconst 1, 1) := by decide +kernel
theorem d1_17 : decode prog_4_method_4_code 17 = .ok (.iadd, 1) := by decide +kernel
theorem d1_18 : decode prog_4_method_4_code 18 = .ok (.aload_n 0, 1) := by decide +kernel
theorem d1_19 : decode prog_4_method_4_code 19 = .ok (.getfield 21, 3) := by decide +kernel
theorem d1_22 : decode prog_4_method_4_code 22 = .ok (.iload 7, 2) := by decide +kernel
theorem d1_24 : decode prog_4_method_4_code 24 = .ok (.iconst 1, 1) := by decide +kernel
theorem d1_25 : decode prog_4_method_4_code 25 = .ok (.iadd, 1) := by decide +kernel
theorem d1_26 : decode prog_4_method_4_code 26 = .ok (.laload, 1) := by decide +kernel
theorem d1_27 : decode prog_4_method_4_code 27 = .ok (.lload 4, 2) := by decide +kernel
theorem d1_29 : decode prog_4_method_4_code 29 = .ok (.invokestatic 45, 3) := by decide +kernel
theorem d1_32 : decode prog_4_method_4_code 32 = .ok (.lastore, 1) := by decide +kernel
theorem d1_33 : decode prog_4_method_4_code 33 = .ok (.return_, 1) := by decide +kernel
theorem own_ef_adA (m : MethodId) (oa : Addr) (vb : Int64) (va : Int64) (ot : Addr) : entryFrame m #[(.ref oa), (.int 0), (.long vb), (.long va), (.ref ot)] 8 = mkF m 0 #[rv oa, iv 0, jv vb, sS, jv va, sS, rv ot, uS] [] := by first | (simp [entryFrame, mkF, argsToLocals, Value.category]; done) | rfl
def own_Q_adA (Z : State) (oa : Addr) (vb : Int64) (va : Int64) (ot : Addr) (oz : Addr) (kz : ClassId) (ub : Int64) (h0 : Heap) (n0 : Nat) (v : Option Value) (h : Heap) (L : List Loc) : Prop := ∃ ob : Addr, ∃ kb : ClassId, v = none ∧ Fr n0 L ∧ Keep h0 h [oa, ot, oz] ∧ Exa Z h oa own_k0 ∧ Fld Z h oa own_k0 "cells" "[J" (.ref ob) ∧ Fld Z h oa own_k0 "sets" "[Ljava/lang/Object;" .null ∧ Arv Z h ob kb .long (4 : Int32) [(.long 3458764513820540929), (.long 0), (.long vb), (.long (own_sat (0 : Int64) va))] (.long 0) ∧ Exa Z h ot own_k2 ∧ Fld Z h ot own_k2 "buckets" "J" (.long (ub + (1 : Int64))) ∧ h0.size ≤ ob ∧ oa ≠ ob ∧ ot ≠ ob
set_option maxRecDepth 65536 in
set_option maxHeartbeats 40000000 in
theorem own_rm_adA (l : Launch) (Z : State) (a0 : Array Value) (hw : ∀ d ∈ tables_1, d.before a0 Z = true) (ws : List Jvm.Cond) (oa : Addr) (vb : Int64) (va : Int64) (ot : Addr) (oz : Addr) (kz : ClassId) (ub : Int64) (h0 : Heap) (n0 : Nat) (Z0 : n0 ≤ h0.size) (E_oa : Exa Z h0 oa own_k0) (F_oa_cells : Fld Z h0 oa own_k0 "cells" "[J" (.ref oz)) (F_oa_sets : Fld Z h0 oa own_k0 "sets" "[Ljava/lang/Object;" .null) (V_oz : Arv Z h0 oz kz .long (2 : Int32) [(.long 3458764513820540928), (.long 0)] (.long 0)) (E_ot : Exa Z h0 ot own_k2) (F_ot_buckets : Fld Z h0 ot own_k2 "buckets" "J" (.long ub)) (g_oa : n0 ≤ oa) (g_oz : n0 ≤ oz) (g_ot : n0 ≤ ot) (ne_oa_ot : oa ≠ ot) (ne_oa_oz : oa ≠ oz) (ne_ot_oz : ot ≠ oz) :
    MetFree l own_y17 (head1 (Jvm.Cond.code own_y17 prog_4_method_4_code 8 none :: ws) ({ frames := 5, cells := 1, slots := 4, locals := 76 } : Room)) (fun a U => a = #[(.ref oa), (.int 0), (.long vb), (.long va), (.ref ot)] ∧ Z.Warmed39 U.vm ∧ U.heap = h0) (fun _ _ _ _ _ => True) (fun _ U o U' => ∃ v L, o = .returned v ∧ own_Q_adA Z oa vb va ot oz kz ub h0 n0 v U'.heap L ∧ FrameEnd U o U' L ({ frames := 5, cells := 1, slots := 4, locals := 76 } : Room).cells ({ frames := 5, cells := 1, slots := 4, locals := 76 } : Room).slots) := by
  refine MetFree.of_bodySF (plainFor_of_name own_pn0) hisR ?_
  intro p e s m args below meth c s₁ Bd hml0 hP hK
  obtain ⟨rfl, hZ, hh⟩ := hP
  have hx := Bd.exec
  have hby := Bd.bytes
  have hml : c.maxLocals = 8 := hml0
  have hown : s.vm.findClass own_k0 = some m.cls := findClass_of_methodNamed Bd.named
  have hnm := (name_of_methodNamed Bd.named Bd.method).1
  have X0 : Stand p l e ({ frames := 5, cells := 1, slots := 4, locals := 76 } : Room) s m #[(.ref oa), (.int 0), (.long vb), (.long va), (.ref ot)] below meth c s₁ [] 0 0 := Stand.of_body Bd
  have e0 : s₁.heap = h0 := by rw [← hh, Bd.state]; rfl
  have N0 := Fr.nil n0
  have K0 := Keep.refl h0 [oa, ot, oz]
  show own_Fin p e below s (own_Q_adA Z oa vb va ot oz kz ub h0 n0) ({ frames := 5, cells := 1, slots := 4, locals := 76 } : Room).cells ({ frames := 5, cells := 1, slots := 4, locals := 76 } : Room).slots (s₁.setTop (entryFrame m #[(.ref oa), (.int 0), (.long vb), (.long va), (.ref ot)] 8))
  refine own_Fin.go (fun t k => castTop (own_ef_adA m oa vb va ot) k) ?_
  refine own_Fin.go (fun t k => XS.aloadN X0.here hx rfl (hb hby d1_0) rfl rfl (XS.iloadN X0.here hx rfl (hb hby d1_1) rfl (XS.lloadN X0.here hx rfl (hb hby d1_2) rfl (XS.aload X0.here hx rfl (hb hby d1_3) rfl rfl k)))) ?_
  show own_Fin _ _ _ _ _ _ _ (s₁.setTop (mkF m 5 #[rv oa, iv 0, jv vb, sS, jv va, sS, rv ot, uS] [(.ref ot), (.long vb), (.int 0), (.ref oa)]))
  refine own_pC X0 hx hZ hown (own_W hw 50 rfl) (own_W hw 51 rfl) (own_W hw 48 rfl) rfl (own_W hw 52 rfl) (own_W hw 53 rfl) (own_W hw 17 rfl) (by decide) (own_rm_soA l Z a0 hw [] oa vb ot oz kz ub h0 n0 Z0 E_oa F_oa_cells F_oa_sets V_oz E_ot F_ot_buckets g_oa g_oz g_ot ne_oa_ot ne_oa_oz ne_ot_oz) 0 (by decide) (by decide) e0 E_oa rfl (by rw [hml]; rfl) [(.int 0), (.long vb), (.ref ot)] (lenOf own_pd7 rfl) rfl (Nat.le_of_eq rfl) (hb hby d1_5) rfl (by decide) (by decide) ?_
  rintro T1 Lc1 _ X1 ⟨ob1, kb1, rfl, N1q, K1q, c1_1, c1_2, c1_3, c1_4, c1_5, c1_6, c1_7, c1_8, c1_9⟩
  have N1 := Fr.app N0 N1q
  have Z1 := Nat.le_trans Z0 K1q.1
  have K1 := K0.trans K1q (allS (Or.inl (List.mem_of_getElem? (i := 0) rfl)) (allS (Or.inl (List.mem_of_getElem? (i := 1) rfl)) (allS (Or.inl (List.mem_of_getElem? (i := 2) rfl)) all0)))
  have ne_oa_ob1 : oa ≠ ob1 := Nat.ne_of_lt (Nat.lt_of_lt_of_le F_oa_sets.lt c1_7)
  have ne_oz_ob1 : oz ≠ ob1 := Nat.ne_of_lt (Nat.lt_of_lt_of_le V_oz.lt c1_7)
  have ne_ot_ob1 : ot ≠ ob1 := Nat.ne_of_lt (Nat.lt_of_lt_of_le F_ot_buckets.lt c1_7)
  have g_ob1 : n0 ≤ ob1 := Nat.le_trans Z0 c1_7
  have sz_ob1 : h0.size ≤ ob1 := Nat.le_trans K0.1 c1_7
  refine own_Fin.go (fun t k => XS.istore X1.here hx rfl (hb hby d1_8) rfl (l' := #[rv oa, iv 0, jv vb, sS, jv va, sS, rv ot, iv 2]) rfl (XS.aloadN X1.here hx rfl (hb hby d1_10) rfl rfl k)) ?_
  refine own_gF X1 hx hZ hown (own_W hw 39 rfl) rfl c1_2 rfl rfl (hb hby d1_11) ?_
  intro T2 X2 e2
  refine own_Fin.go (fun t k => XS.iload X2.here hx rfl (hb hby d1_14) rfl k) ?_
  show own_Fin _ _ _ _ _ _ _ (T2.setTop (mkF m 16 #[rv oa, iv 0, jv vb, sS, jv va, sS, rv ot, iv 2] [(.int 2), (.ref ob1)]))
  refine own_Fin.go (fun t k => XS.iconst X2.here hx rfl (hb hby d1_16) (XS.iadd X2.here hx rfl (hb hby d1_17) rfl k)) ?_
  show own_Fin _ _ _ _ _ _ _ (T2.setTop (mkF m 18 #[rv oa, iv 0, jv vb, sS, jv va, sS, rv ot, iv 2] [(.int ((2 : Int32) + (1 : Int32))), (.ref ob1)]))
  rw [show ((2 : Int32) + (1 : Int32)) = (3 : Int32) from by decide +kernel]
  refine own_Fin.go (fun t k => XS.aloadN X2.here hx rfl (hb hby d1_18) rfl rfl k) ?_
  refine own_gF X2 hx hZ hown (own_W hw 39 rfl) e2 c1_2 rfl rfl (hb hby d1_19) ?_
  intro T3 X3 e3
  refine own_Fin.go (fun t k => XS.iload X3.here hx rfl (hb hby d1_22) rfl (XS.iconst X3.here hx rfl (hb hby d1_24) (XS.iadd X3.here hx rfl (hb hby d1_25) rfl k))) ?_
  show own_Fin _ _ _ _ _ _ _ (T3.setTop (mkF m 26 #[rv oa, iv 0, jv vb, sS, jv va, sS, rv ot, iv 2] [(.int ((2 : Int32) + (1 : Int32))), (.ref ob1), (.int 3), (.ref ob1)]))
  rw [show ((2 : Int32) + (1 : Int32)) = (3 : Int32) from by decide +kernel]
  refine own_lal X3 hx hZ e3 c1_4 ⟨by decide, by decide⟩ (v := (0 : Int64)) rfl rfl rfl (hb hby d1_26) ?_
  refine own_Fin.go (fun t k => XS.lload X3.here hx rfl (hb hby d1_27) rfl k) ?_
  refine own_sC X3 hx hZ hown (own_W hw 103 rfl) (own_W hw 104 rfl) (own_W hw 17 rfl) (own_W hw 105 rfl) (by decide) (own_rm_sat l Z a0 hw [] (0 : Int64) va  T1.heap n0 Z1 ) 2 (by decide) (by decide) e3 rfl (by rw [hml]; rfl) [(.long 0), (.long va)] [(.int 3), (.ref ob1)] (lenOf own_pd8 rfl) rfl (Nat.le_of_eq rfl) (hb hby d1_29) rfl (by decide) (by decide) ?_
  rintro T5 Lc5 _ X5 ⟨rfl, N5q, e5⟩
  have N5 := Fr.app N1 N5q
  obtain ⟨cl6, Ar6, q6, S6, N6l, H6, G6⟩ := (id c1_4)
  have hin6 : ¬ ((3 : Int32) < 0 ∨ cl6.slots.size ≤ ((3 : Int32)).toNatClampNeg) := inb_of S6 ⟨by decide, by decide⟩
  obtain ⟨T6, h6, X6, e6, W6, st6⟩ := stJ X5 hx hZ e5 Ar6 (j := (3 : Int32)) hin6 (g := (mkF m 32 #[rv oa, iv 0, jv vb, sS, jv va, sS, rv ot, iv 2] [(.long (own_sat (0 : Int64) va)), (.int 3), (.ref ob1)])) rfl rfl (hb hby d1_32)
  refine own_Fin.go st6 ?_
  have V_ob1_6 := Arv.set Ar6 q6 S6 N6l H6 G6 rfl W6 3 rfl (Nat.le_of_ble_eq_true rfl)
  replace V_ob1_6 : Arv Z h6 ob1 kb1 .long (4 : Int32) [(.long 3458764513820540929), (.long 0), (.long vb), (.long (own_sat (0 : Int64) va))] (.long 0) := V_ob1_6
  have E_oa_6 := Exa.wr W6 c1_1
  have F_oa_cells_6 := Fld.other W6 c1_2 (Or.inl c1_8)
  have F_oa_sets_6 := Fld.other W6 c1_3 (Or.inl c1_8)
  have E_ot_6 := Exa.wr W6 c1_5
  have F_ot_buckets_6 := Fld.other W6 c1_6 (Or.inl c1_9)
  have Z6 := Nat.le_trans Z1 (Keep.of_wr W6).1
  have K6 := K1.wr W6 (Or.inr sz_ob1)
  have N6 := Fr.snoc X6 N5 g_ob1
  show own_Fin _ _ _ _ _ _ _ (T6.setTop (mkF m 33 #[rv oa, iv 0, jv vb, sS, jv va, sS, rv ot, iv 2] []))
  refine own_ret0 X6 hx Bd.returns (hb hby d1_33) Bd.notSynchronized (by decide) (by decide) ?_
  rw [e6]
  exact ⟨ob1, kb1, rfl, N6, K6, E_oa_6, F_oa_cells_6, F_oa_sets_6, V_ob1_6, E_ot_6, F_ot_buckets_6, sz_ob1, c1_8, c1_9⟩
theorem own_ef_soB (m : MethodId) (oa : Addr) (vb : Int64) (ot : Addr) : entryFrame m #[(.ref oa), (.int 1), (.long vb), (.ref ot)] 10 = mkF m 0 #[rv oa, iv 1, jv vb, sS, rv ot, uS, uS, uS, uS, uS] [] := by first | (simp [entryFrame, mkF, argsToLocals, Value.category]; done) | rfl
def own_Q_soB (Z : State) (oa : Addr) (vb : Int64) (ot : Addr) (oz : Addr) (kz : ClassId) (yp : Int64) (wp : Int64) (ub : Int64) (h0 : Heap) (n0 : Nat) (v : Option Value) (h : Heap) (L : List Loc) : Prop := ∃ ob : Addr, ∃ kb : ClassId, v = some (.int 4) ∧ Fr n0 L ∧ Keep h0 h [oa, ot, oz] ∧ Exa Z h oa own_k0 ∧ Fld Z h oa own_k0 "cells" "[J" (.ref ob) ∧ Fld Z h oa own_k0 "sets" "[Ljava/lang/Object;" .null ∧ Arv Z h ob kb .long (6 : Int32) [(.long 3458764514894282753), (.long 0), (.long yp), (.long wp), (.long vb), (.long 0)] (.long 0) ∧ Exa Z h ot own_k2 ∧ Fld Z h ot own_k2 "buckets" "J" (.long (ub + (1 : Int64))) ∧ h0.size ≤ ob ∧ oa ≠ ob ∧ ot ≠ ob
set_option maxRecDepth 65536 in
set_option maxHeartbeats 40000000 in
theorem own_rm_soB (l : Launch) (Z : State) (a0 : Array Value) (hw : ∀ d ∈ tables_1, d.before a0 Z = true) (ws : List Jvm.Cond) (oa : Addr) (vb : Int64) (ot : Addr) (oz : Addr) (kz : ClassId) (yp : Int64) (wp : Int64) (ub : Int64) (h0 : Heap) (n0 : Nat) (Z0 : n0 ≤ h0.size) (E_oa : Exa Z h0 oa own_k0) (F_oa_cells : Fld Z h0 oa own_k0 "cells" "[J" (.ref oz)) (F_oa_sets : Fld Z h0 oa own_k0 "sets" "[Ljava/lang/Object;" .null) (V_oz : Arv Z h0 oz kz .long (4 : Int32) [(.long 3458764513820540929), (.long 0), (.long yp), (.long wp)] (.long 0)) (E_ot : Exa Z h0 ot own_k2) (F_ot_buckets : Fld Z h0 ot own_k2 "buckets" "J" (.long ub)) (g_oa : n0 ≤ oa) (g_oz : n0 ≤ oz) (g_ot : n0 ≤ ot) (ne_oa_ot : oa ≠ ot) (ne_oa_oz : oa ≠ oz) (ne_ot_oz : ot ≠ oz) :
    MetFree l own_y16 (head1 (Jvm.Cond.code own_y16 prog_4_method_10_code 10 (some .int) :: ws) ({ frames := 4, cells := 1, slots := 6, locals := 55 } : Room)) (fun a U => a = #[(.ref oa), (.int 1), (.long vb), (.ref ot)] ∧ Z.Warmed39 U.vm ∧ U.heap = h0) (fun _ _ _ _ _ => True) (fun _ U o U' => ∃ v L, o = .returned v ∧ own_Q_soB Z oa vb ot oz kz yp wp ub h0 n0 v U'.heap L ∧ FrameEnd U o U' L ({ frames := 4, cells := 1, slots := 6, locals := 55 } : Room).cells ({ frames := 4, cells := 1, slots := 6, locals := 55 } : Room).slots) := by
  refine MetFree.of_bodySF (plainFor_of_name own_pn0) hisR ?_
  intro p e s m args below meth c s₁ Bd hml0 hP hK
  obtain ⟨rfl, hZ, hh⟩ := hP
  have hx := Bd.exec
  have hby := Bd.bytes
  have hml : c.maxLocals = 10 := hml0
  have hown : s.vm.findClass own_k0 = some m.cls := findClass_of_methodNamed Bd.named
  have hnm := (name_of_methodNamed Bd.named Bd.method).1
  have X0 : Stand p l e ({ frames := 4, cells := 1, slots := 6, locals := 55 } : Room) s m #[(.ref oa), (.int 1), (.long vb), (.ref ot)] below meth c s₁ [] 0 0 := Stand.of_body Bd
  have e0 : s₁.heap = h0 := by rw [← hh, Bd.state]; rfl
  have N0 := Fr.nil n0
  have K0 := Keep.refl h0 [oa, ot, oz]
  show own_Fin p e below s (own_Q_soB Z oa vb ot oz kz yp wp ub h0 n0) ({ frames := 4, cells := 1, slots := 6, locals := 55 } : Room).cells ({ frames := 4, cells := 1, slots := 6, locals := 55 } : Room).slots (s₁.setTop (entryFrame m #[(.ref oa), (.int 1), (.long vb), (.ref ot)] 10))
  refine own_Fin.go (fun t k => castTop (own_ef_soB m oa vb ot) k) ?_
  refine own_Fin.go (fun t k => XS.aloadN X0.here hx rfl (hb hby d10_0) rfl rfl (XS.iloadN X0.here hx rfl (hb hby d10_1) rfl (XS.lloadN X0.here hx rfl (hb hby d10_2) rfl k))) ?_
  refine own_pC X0 hx hZ hown (own_W hw 54 rfl) (own_W hw 55 rfl) (own_W hw 48 rfl) rfl (own_W hw 56 rfl) (own_W hw 57 rfl) (own_W hw 17 rfl) (by decide) (own_rm_iz1 l Z a0 hw [] oa vb oz kz (4 : Int32) (3458764513820540929 : Int64) (0 : Int64) ([(.long yp), (.long wp)]) h0 n0 Z0 E_oa F_oa_cells V_oz (by decide) (by decide)) 0 (by decide) (by decide) e0 E_oa rfl (by rw [hml]; rfl) [(.int 1), (.long vb)] (lenOf own_pd4 rfl) rfl (Nat.le_of_eq rfl) (hb hby d10_3) rfl (by decide) (by decide) ?_
  rintro T1 Lc1 _ X1 ⟨rfl, N1q, e1⟩
  have N1 := Fr.app N0 N1q
  show own_Fin _ _ _ _ _ _ _ (T1.setTop (mkF m 6 #[rv oa, iv 1, jv vb, sS, rv ot, uS, uS, uS, uS, uS] [(.int (own_ixb (3458764513820540929 : Int64)))]))
  rw [show (own_ixb (3458764513820540929 : Int64)) = (4 : Int32) from by decide +kernel]
  refine own_Fin.go (fun t k => XS.istore X1.here hx rfl (hb hby d10_6) rfl (l' := #[rv oa, iv 1, jv vb, sS, rv ot, iv 4, uS, uS, uS, uS]) rfl (XS.aloadN X1.here hx rfl (hb hby d10_8) rfl rfl (XS.iloadN X1.here hx rfl (hb hby d10_9) rfl k))) ?_
  refine own_pC X1 hx hZ hown (own_W hw 58 rfl) (own_W hw 59 rfl) (own_W hw 48 rfl) rfl (own_W hw 60 rfl) (own_W hw 61 rfl) (own_W hw 17 rfl) (by decide) (own_rm_st1 l Z a0 hw [] oa oz kz (4 : Int32) (3458764513820540929 : Int64) (0 : Int64) ([(.long yp), (.long wp)]) h0 n0 Z0 E_oa F_oa_cells V_oz (by decide)) 0 (by decide) (by decide) e1 E_oa rfl (by rw [hml]; rfl) [(.int 1)] (lenOf own_pd1 rfl) rfl (Nat.le_of_eq rfl) (hb hby d10_10) rfl (by decide) (by decide) ?_
  rintro T2 Lc2 _ X2 ⟨rfl, N2q, e2⟩
  have N2 := Fr.app N1 N2q
  show own_Fin _ _ _ _ _ _ _ (T2.setTop (mkF m 13 #[rv oa, iv 1, jv vb, sS, rv ot, iv 4, uS, uS, uS, uS] [(.int (own_stb (3458764513820540929 : Int64)))]))
  rw [show (own_stb (3458764513820540929 : Int64)) = (4 : Int32) from by decide +kernel]
  refine own_Fin.go (fun t k => XS.iconst X2.here hx rfl (hb hby d10_13) (XS.aloadN X2.here hx rfl (hb hby d10_14) rfl rfl (XS.iloadN X2.here hx rfl (hb hby d10_15) rfl k))) ?_
  refine own_pC X2 hx hZ hown (own_W hw 70 rfl) (own_W hw 71 rfl) (own_W hw 48 rfl) rfl (own_W hw 72 rfl) (own_W hw 73 rfl) (own_W hw 17 rfl) (by decide) (own_rm_len1 l Z a0 hw [] oa oz kz (4 : Int32) (3458764513820540929 : Int64) (0 : Int64) ([(.long yp), (.long wp)]) h0 n0 Z0 F_oa_cells V_oz (by decide)) 2 (by decide) (by decide) e2 E_oa rfl (by rw [hml]; rfl) [(.int 1)] (lenOf own_pd1 rfl) rfl (Nat.le_of_eq rfl) (hb hby d10_16) rfl (by decide) (by decide) ?_
  rintro T3 Lc3 _ X3 ⟨rfl, N3q, e3⟩
  have N3 := Fr.app N2 N3q
  show own_Fin _ _ _ _ _ _ _ (T3.setTop (mkF m 19 #[rv oa, iv 1, jv vb, sS, rv ot, iv 4, uS, uS, uS, uS] [(.int (own_lenb (3458764513820540929 : Int64))), (.int 2), (.int 4)]))
  rw [show (own_lenb (3458764513820540929 : Int64)) = (0 : Int32) from by decide +kernel]
  refine own_Fin.go (fun t k => XS.imul X3.here hx rfl (hb hby d10_19) rfl k) ?_
  show own_Fin _ _ _ _ _ _ _ (T3.setTop (mkF m 20 #[rv oa, iv 1, jv vb, sS, rv ot, iv 4, uS, uS, uS, uS] [(.int ((2 : Int32) * (0 : Int32))), (.int 4)]))
  rw [show ((2 : Int32) * (0 : Int32)) = (0 : Int32) from by decide +kernel]
  refine own_Fin.go (fun t k => XS.iadd X3.here hx rfl (hb hby d10_20) rfl k) ?_
  show own_Fin _ _ _ _ _ _ _ (T3.setTop (mkF m 21 #[rv oa, iv 1, jv vb, sS, rv ot, iv 4, uS, uS, uS, uS] [(.int ((4 : Int32) + (0 : Int32)))]))
  rw [show ((4 : Int32) + (0 : Int32)) = (4 : Int32) from by decide +kernel]
  refine own_Fin.go (fun t k => XS.istore X3.here hx rfl (hb hby d10_21) rfl (l' := #[rv oa, iv 1, jv vb, sS, rv ot, iv 4, iv 4, uS, uS, uS]) rfl (XS.iload X3.here hx rfl (hb hby d10_23) rfl (XS.iload X3.here hx rfl (hb hby d10_25) rfl (XS.icmpYes X3.here hx rfl (pc0 := 27) (pc' := 45) rfl (hb hby d10_27) rfl (by decide) (by decide) (by decide) k)))) ?_
  refine own_Fin.go (fun t k => XS.aloadN X3.here hx rfl (hb hby d10_45) rfl rfl k) ?_
  refine own_pC X3 hx hZ hown (own_W hw 79 rfl) (own_W hw 80 rfl) (own_W hw 48 rfl) rfl (own_W hw 81 rfl) (own_W hw 82 rfl) (own_W hw 17 rfl) (by decide) (own_rm_used l Z a0 hw [] oa oz kz (4 : Int32) (3458764513820540929 : Int64) (0 : Int64) ([(.long yp), (.long wp)]) h0 n0 Z0 E_oa F_oa_cells V_oz (by decide) (by decide)) 0 (by decide) (by decide) e3 E_oa rfl (by rw [hml]; rfl) [] (lenOf own_pd0 rfl) rfl (Nat.le_of_eq rfl) (hb hby d10_46) rfl (by decide) (by decide) ?_
  rintro T4 Lc4 _ X4 ⟨rfl, N4q, e4⟩
  have N4 := Fr.app N3 N4q
  show own_Fin _ _ _ _ _ _ _ (T4.setTop (mkF m 49 #[rv oa, iv 1, jv vb, sS, rv ot, iv 4, iv 4, uS, uS, uS] [(.int (own_std (3458764513820540929 : Int64) (0 : Int64)))]))
  rw [show (own_std (3458764513820540929 : Int64) (0 : Int64)) = (4 : Int32) from by decide +kernel]
  refine own_Fin.go (fun t k => XS.istore X4.here hx rfl (hb hby d10_49) rfl (l' := #[rv oa, iv 1, jv vb, sS, rv ot, iv 4, iv 4, iv 4, uS, uS]) rfl (XS.iload X4.here hx rfl (hb hby d10_51) rfl (XS.iconst X4.here hx rfl (hb hby d10_53) (XS.iadd X4.here hx rfl (hb hby d10_54) rfl k)))) ?_
  show own_Fin _ _ _ _ _ _ _ (T4.setTop (mkF m 55 #[rv oa, iv 1, jv vb, sS, rv ot, iv 4, iv 4, iv 4, uS, uS] [(.int ((4 : Int32) + (2 : Int32)))]))
  rw [show ((4 : Int32) + (2 : Int32)) = (6 : Int32) from by decide +kernel]
  refine own_Fin.go (fun t k => XS.aloadN X4.here hx rfl (hb hby d10_55) rfl rfl k) ?_
  refine own_gF X4 hx hZ hown (own_W hw 39 rfl) e4 F_oa_cells rfl rfl (hb hby d10_56) ?_
  intro T5 X5 e5
  obtain ⟨cl6, Ar6, -, S6, N6l, -, -⟩ := (id V_oz)
  refine own_Fin.go (fun t k => X5.arraylength hx (by rw [e5]; exact Ar6.1) (State.isArrayOf_alike hZ.alike Ar6.2.1) (g := (mkF m 59 #[rv oa, iv 1, jv vb, sS, rv ot, iv 4, iv 4, iv 4, uS, uS] [(.ref oz), (.int 6)])) rfl rfl (hb hby d10_59) t k) ?_
  rw [len_of S6 N6l]
  refine own_Fin.go (fun t k => XS.icmpNo X5.here hx rfl (hb hby d10_60) rfl (by decide) (XS.aloadN X5.here hx rfl (hb hby d10_63) rfl rfl (XS.aloadN X5.here hx rfl (hb hby d10_64) rfl rfl k))) ?_
  refine own_gF X5 hx hZ hown (own_W hw 39 rfl) e5 F_oa_cells rfl rfl (hb hby d10_65) ?_
  intro T7 X7 e7
  show own_Fin _ _ _ _ _ _ _ (T7.setTop (mkF m 68 #[rv oa, iv 1, jv vb, sS, rv ot, iv 4, iv 4, iv 4, uS, uS] [(.ref oz), (.ref oa)]))
  refine own_Fin.go (fun t k => XS.iload X7.here hx rfl (hb hby d10_68) rfl (XS.iconst X7.here hx rfl (hb hby d10_70) (XS.iadd X7.here hx rfl (hb hby d10_71) rfl k))) ?_
  show own_Fin _ _ _ _ _ _ _ (T7.setTop (mkF m 72 #[rv oa, iv 1, jv vb, sS, rv ot, iv 4, iv 4, iv 4, uS, uS] [(.int ((4 : Int32) + (2 : Int32))), (.ref oz), (.ref oa)]))
  rw [show ((4 : Int32) + (2 : Int32)) = (6 : Int32) from by decide +kernel]
  refine own_Fin.go (fun t k => XS.iload X7.here hx rfl (hb hby d10_72) rfl (XS.iconst X7.here hx rfl (hb hby d10_74) (XS.iushr X7.here hx rfl (hb hby d10_75) rfl k))) ?_
  show own_Fin _ _ _ _ _ _ _ (T7.setTop (mkF m 76 #[rv oa, iv 1, jv vb, sS, rv ot, iv 4, iv 4, iv 4, uS, uS] [(.int (((4 : Int32).toUInt32 >>> ((4 : Int32) &&& 31).toUInt32).toInt32)), (.int 6), (.ref oz), (.ref oa)]))
  rw [show (((4 : Int32).toUInt32 >>> ((4 : Int32) &&& 31).toUInt32).toInt32) = (0 : Int32) from by decide +kernel]
  refine own_Fin.go (fun t k => XS.iconst X7.here hx rfl (hb hby d10_76) (XS.ishl X7.here hx rfl (hb hby d10_77) rfl k)) ?_
  show own_Fin _ _ _ _ _ _ _ (T7.setTop (mkF m 78 #[rv oa, iv 1, jv vb, sS, rv ot, iv 4, iv 4, iv 4, uS, uS] [(.int ((0 : Int32) <<< ((1 : Int32) &&& 31))), (.int 6), (.ref oz), (.ref oa)]))
  rw [show ((0 : Int32) <<< ((1 : Int32) &&& 31)) = (0 : Int32) from by decide +kernel]
  refine own_Fin.go (fun t k => XS.iadd X7.here hx rfl (hb hby d10_78) rfl k) ?_
  show own_Fin _ _ _ _ _ _ _ (T7.setTop (mkF m 79 #[rv oa, iv 1, jv vb, sS, rv ot, iv 4, iv 4, iv 4, uS, uS] [(.int ((6 : Int32) + (0 : Int32))), (.ref oz), (.ref oa)]))
  rw [show ((6 : Int32) + (0 : Int32)) = (6 : Int32) from by decide +kernel]
  refine own_sC X7 hx hZ hown (own_W hw 83 rfl) (own_W hw 84 rfl) (own_W hw 85 rfl) (own_W hw 86 rfl) (by decide) (own_rm_cpy4 l Z a0 hw [] oz kz (3458764513820540929 : Int64) (0 : Int64) yp wp h0 n0 Z0 V_oz) 1 (by decide) (by decide) e7 rfl (by rw [hml]; rfl) [(.ref oz), (.int 6)] [(.ref oa)] (lenOf own_pd5 rfl) rfl (Nat.le_of_eq rfl) (hb hby d10_79) rfl (by decide) (by decide) ?_
  rintro T8 Lc8 _ X8 ⟨r8, kb8, rfl, N8q, K8q, c8_1, c8_2⟩
  have N8 := Fr.app N4 N8q
  have E_oa_8 := E_oa.keep K8q
  have F_oa_cells_8 := F_oa_cells.keep K8q nin0
  have F_oa_sets_8 := F_oa_sets.keep K8q nin0
  have V_oz_8 := V_oz.keep K8q nin0
  have E_ot_8 := E_ot.keep K8q
  have F_ot_buckets_8 := F_ot_buckets.keep K8q nin0
  have Z8 := Nat.le_trans Z0 K8q.1
  have K8 := K0.trans K8q all0
  have ne_oa_r8 : oa ≠ r8 := Nat.ne_of_lt (Nat.lt_of_lt_of_le F_oa_sets.lt c8_2)
  have ne_oz_r8 : oz ≠ r8 := Nat.ne_of_lt (Nat.lt_of_lt_of_le V_oz.lt c8_2)
  have ne_ot_r8 : ot ≠ r8 := Nat.ne_of_lt (Nat.lt_of_lt_of_le F_ot_buckets.lt c8_2)
  have g_r8 : n0 ≤ r8 := Nat.le_trans Z0 c8_2
  have sz_r8 : h0.size ≤ r8 := Nat.le_trans K0.1 c8_2
  obtain ⟨T9, h9, X9, e9, W9, st9⟩ := putF X8 hx hZ hown (host := "") (Or.inl (own_W hw 39 rfl)) Via.refl rfl F_oa_cells_8 E_oa_8 (Or.inl (own_W hw 40 rfl)) (own_W hw 16 rfl) (ty := (.array .long)) (by decide) rfl rfl (g := (mkF m 82 #[rv oa, iv 1, jv vb, sS, rv ot, iv 4, iv 4, iv 4, uS, uS] [(.ref r8), (.ref oa)])) rfl rfl (hb hby d10_82)
  refine own_Fin.go st9 ?_
  have F_oa_cells_9 := Fld.same W9 F_oa_cells_8
  have E_oa_9 := Exa.wr W9 E_oa_8
  have F_oa_sets_9 := Fld.other W9 F_oa_sets_8 (Or.inr (slot_ne (Or.inl (own_W hw 44 rfl)) (Or.inl (own_W hw 40 rfl)) (by decide) (t := (.array (.object "java/lang/Object"))) (t' := (.array .long)) (by decide) (by decide)))
  have V_oz_9 := Arv.other V_oz_8 W9 (Ne.symm ne_oa_oz)
  have E_ot_9 := Exa.wr W9 E_ot_8
  have F_ot_buckets_9 := Fld.other W9 F_ot_buckets_8 (Or.inl (Ne.symm ne_oa_ot))
  have V_r8_9 := Arv.other c8_1 W9 (Ne.symm ne_oa_r8)
  have Z9 := Nat.le_trans Z8 (Keep.of_wr W9).1
  have K9 := K8.wr W9 (Or.inl (List.mem_of_getElem? (i := 0) rfl))
  have N9 := Fr.snoc X9 N8 g_oa
  refine own_Fin.go (fun t k => XS.aloadN X9.here hx rfl (hb hby d10_85) rfl rfl k) ?_
  refine own_gF X9 hx hZ hown (own_W hw 39 rfl) e9 F_oa_cells_9 rfl rfl (hb hby d10_86) ?_
  intro T10 X10 e10
  refine own_Fin.go (fun t k => XS.iload X10.here hx rfl (hb hby d10_89) rfl (XS.aloadN X10.here hx rfl (hb hby d10_91) rfl rfl k)) ?_
  refine own_gF X10 hx hZ hown (own_W hw 39 rfl) e10 F_oa_cells_9 rfl rfl (hb hby d10_92) ?_
  intro T11 X11 e11
  show own_Fin _ _ _ _ _ _ _ (T11.setTop (mkF m 95 #[rv oa, iv 1, jv vb, sS, rv ot, iv 4, iv 4, iv 4, uS, uS] [(.ref r8), (.int 4), (.ref r8)]))
  refine own_Fin.go (fun t k => XS.iload X11.here hx rfl (hb hby d10_95) rfl (XS.iconst X11.here hx rfl (hb hby d10_97) (XS.iadd X11.here hx rfl (hb hby d10_98) rfl k))) ?_
  show own_Fin _ _ _ _ _ _ _ (T11.setTop (mkF m 99 #[rv oa, iv 1, jv vb, sS, rv ot, iv 4, iv 4, iv 4, uS, uS] [(.int ((4 : Int32) + (2 : Int32))), (.ref r8), (.int 4), (.ref r8)]))
  rw [show ((4 : Int32) + (2 : Int32)) = (6 : Int32) from by decide +kernel]
  refine own_Fin.go (fun t k => XS.iload X11.here hx rfl (hb hby d10_99) rfl (XS.iload X11.here hx rfl (hb hby d10_101) rfl (XS.isub X11.here hx rfl (hb hby d10_103) rfl k))) ?_
  show own_Fin _ _ _ _ _ _ _ (T11.setTop (mkF m 104 #[rv oa, iv 1, jv vb, sS, rv ot, iv 4, iv 4, iv 4, uS, uS] [(.int ((4 : Int32) - (4 : Int32))), (.int 6), (.ref r8), (.int 4), (.ref r8)]))
  rw [show ((4 : Int32) - (4 : Int32)) = (0 : Int32) from by decide +kernel]
  obtain ⟨T12, h12, L12, X12, e12, N12, K12q, V12c, st12⟩ := cpA X11 hx hZ hown (own_W hw 95 rfl) (own_W hw 94 rfl) (own_W hw 92 rfl) (own_W hw 93 rfl) e11 V_r8_9 V_r8_9 (us := []) (Or.inl ⟨rfl, rfl⟩) (by decide) (by decide) (by decide) (by decide) (by decide) rfl (Nat.le_of_ble_eq_true rfl) N9 g_r8 (g := (mkF m 104 #[rv oa, iv 1, jv vb, sS, rv ot, iv 4, iv 4, iv 4, uS, uS] [(.int 0), (.int 6), (.ref r8), (.int 4), (.ref r8)])) rfl (by rw [hml]; rfl) rfl (hb hby d10_104) (by decide) (W := 0) (Nat.le_of_eq rfl) (by decide)
  refine own_Fin.go st12 ?_
  have V_r8_12 : Arv Z h12 r8 kb8 .long (6 : Int32) [(.long 3458764513820540929), (.long 0), (.long yp), (.long wp), (.long 0), (.long 0)] (.long 0) := V12c
  have E_oa_12 := E_oa_9.keep K12q
  have F_oa_cells_12 := F_oa_cells_9.keep K12q (ninS ne_oa_r8 nin0)
  have F_oa_sets_12 := F_oa_sets_9.keep K12q (ninS ne_oa_r8 nin0)
  have E_ot_12 := E_ot_9.keep K12q
  have F_ot_buckets_12 := F_ot_buckets_9.keep K12q (ninS ne_ot_r8 nin0)
  have Z12 := Nat.le_trans Z9 K12q.1
  have K12 := K9.trans K12q (allS (Or.inr sz_r8) all0)
  refine own_Fin.go (fun t k => XS.aloadN X12.here hx rfl (hb hby d10_107) rfl rfl k) ?_
  refine own_gF X12 hx hZ hown (own_W hw 39 rfl) e12 F_oa_cells_12 rfl rfl (hb hby d10_108) ?_
  intro T13 X13 e13
  refine own_Fin.go (fun t k => XS.iload X13.here hx rfl (hb hby d10_111) rfl (XS.lloadN X13.here hx rfl (hb hby d10_113) rfl k)) ?_
  obtain ⟨cl14, Ar14, q14, S14, N14l, H14, G14⟩ := (id V_r8_12)
  have hin14 : ¬ ((4 : Int32) < 0 ∨ cl14.slots.size ≤ ((4 : Int32)).toNatClampNeg) := inb_of S14 ⟨by decide, by decide⟩
  obtain ⟨T14, h14, X14, e14, W14, st14⟩ := stJ X13 hx hZ e13 Ar14 (j := (4 : Int32)) hin14 (g := (mkF m 114 #[rv oa, iv 1, jv vb, sS, rv ot, iv 4, iv 4, iv 4, uS, uS] [(.long vb), (.int 4), (.ref r8)])) rfl rfl (hb hby d10_114)
  refine own_Fin.go st14 ?_
  have V_r8_14 := Arv.set Ar14 q14 S14 N14l H14 G14 rfl W14 4 rfl (Nat.le_of_ble_eq_true rfl)
  replace V_r8_14 : Arv Z h14 r8 kb8 .long (6 : Int32) [(.long 3458764513820540929), (.long 0), (.long yp), (.long wp), (.long vb), (.long 0)] (.long 0) := V_r8_14
  have E_oa_14 := Exa.wr W14 E_oa_12
  have F_oa_cells_14 := Fld.other W14 F_oa_cells_12 (Or.inl ne_oa_r8)
  have F_oa_sets_14 := Fld.other W14 F_oa_sets_12 (Or.inl ne_oa_r8)
  have E_ot_14 := Exa.wr W14 E_ot_12
  have F_ot_buckets_14 := Fld.other W14 F_ot_buckets_12 (Or.inl ne_ot_r8)
  have Z14 := Nat.le_trans Z12 (Keep.of_wr W14).1
  have K14 := K12.wr W14 (Or.inr sz_r8)
  have N14 := Fr.snoc X14 N12 g_r8
  show own_Fin _ _ _ _ _ _ _ (T14.setTop (mkF m 115 #[rv oa, iv 1, jv vb, sS, rv ot, iv 4, iv 4, iv 4, uS, uS] []))
  refine own_Fin.go (fun t k => XS.aloadN X14.here hx rfl (hb hby d10_115) rfl rfl k) ?_
  refine own_gF X14 hx hZ hown (own_W hw 39 rfl) e14 F_oa_cells_14 rfl rfl (hb hby d10_116) ?_
  intro T15 X15 e15
  refine own_Fin.go (fun t k => XS.iload X15.here hx rfl (hb hby d10_119) rfl (XS.iconst X15.here hx rfl (hb hby d10_121) (XS.iadd X15.here hx rfl (hb hby d10_122) rfl k))) ?_
  show own_Fin _ _ _ _ _ _ _ (T15.setTop (mkF m 123 #[rv oa, iv 1, jv vb, sS, rv ot, iv 4, iv 4, iv 4, uS, uS] [(.int ((4 : Int32) + (1 : Int32))), (.ref r8)]))
  rw [show ((4 : Int32) + (1 : Int32)) = (5 : Int32) from by decide +kernel]
  refine own_Fin.go (fun t k => XS.lconst X15.here hx rfl (hb hby d10_123) k) ?_
  obtain ⟨cl16, Ar16, q16, S16, N16l, H16, G16⟩ := (id V_r8_14)
  have hin16 : ¬ ((5 : Int32) < 0 ∨ cl16.slots.size ≤ ((5 : Int32)).toNatClampNeg) := inb_of S16 ⟨by decide, by decide⟩
  obtain ⟨T16, h16, X16, e16, W16, st16⟩ := stJ X15 hx hZ e15 Ar16 (j := (5 : Int32)) hin16 (g := (mkF m 124 #[rv oa, iv 1, jv vb, sS, rv ot, iv 4, iv 4, iv 4, uS, uS] [(.long 0), (.int 5), (.ref r8)])) rfl rfl (hb hby d10_124)
  refine own_Fin.go st16 ?_
  have V_r8_16 := Arv.set Ar16 q16 S16 N16l H16 G16 rfl W16 5 rfl (Nat.le_of_ble_eq_true rfl)
  replace V_r8_16 : Arv Z h16 r8 kb8 .long (6 : Int32) [(.long 3458764513820540929), (.long 0), (.long yp), (.long wp), (.long vb), (.long 0)] (.long 0) := V_r8_16
  have E_oa_16 := Exa.wr W16 E_oa_14
  have F_oa_cells_16 := Fld.other W16 F_oa_cells_14 (Or.inl ne_oa_r8)
  have F_oa_sets_16 := Fld.other W16 F_oa_sets_14 (Or.inl ne_oa_r8)
  have E_ot_16 := Exa.wr W16 E_ot_14
  have F_ot_buckets_16 := Fld.other W16 F_ot_buckets_14 (Or.inl ne_ot_r8)
  have Z16 := Nat.le_trans Z14 (Keep.of_wr W16).1
  have K16 := K14.wr W16 (Or.inr sz_r8)
  have N16 := Fr.snoc X16 N14 g_r8
  refine own_Fin.go (fun t k => XS.aloadN X16.here hx rfl (hb hby d10_125) rfl rfl k) ?_
  refine own_gF X16 hx hZ hown (own_W hw 43 rfl) e16 F_oa_sets_16 rfl rfl (hb hby d10_126) ?_
  intro T17 X17 e17
  refine own_Fin.go (fun t k => XS.ifnullYes X17.here hx rfl (pc0 := 129) (pc' := 216) rfl (hb hby d10_129) rfl (by decide) (by decide) k) ?_
  show own_Fin _ _ _ _ _ _ _ (T17.setTop (mkF m 216 #[rv oa, iv 1, jv vb, sS, rv ot, iv 4, iv 4, iv 4, uS, uS] []))
  refine own_Fin.go (fun t k => XS.aloadN X17.here hx rfl (hb hby d10_216) rfl rfl (XS.iloadN X17.here hx rfl (hb hby d10_217) rfl (XS.aloadN X17.here hx rfl (hb hby d10_218) rfl rfl (XS.iloadN X17.here hx rfl (hb hby d10_219) rfl k)))) ?_
  refine own_pC X17 hx hZ hown (own_W hw 70 rfl) (own_W hw 71 rfl) (own_W hw 48 rfl) rfl (own_W hw 72 rfl) (own_W hw 73 rfl) (own_W hw 17 rfl) (by decide) (own_rm_len1 l Z a0 hw [] oa r8 kb8 (6 : Int32) (3458764513820540929 : Int64) (0 : Int64) ([(.long yp), (.long wp), (.long vb), (.long 0)]) h16 n0 Z16 F_oa_cells_16 V_r8_16 (by decide)) 2 (by decide) (by decide) e17 E_oa_16 rfl (by rw [hml]; rfl) [(.int 1)] (lenOf own_pd1 rfl) rfl (Nat.le_of_eq rfl) (hb hby d10_220) rfl (by decide) (by decide) ?_
  rintro T18 Lc18 _ X18 ⟨rfl, N18q, e18⟩
  have N18 := Fr.app N16 N18q
  show own_Fin _ _ _ _ _ _ _ (T18.setTop (mkF m 223 #[rv oa, iv 1, jv vb, sS, rv ot, iv 4, iv 4, iv 4, uS, uS] [(.int (own_lenb (3458764513820540929 : Int64))), (.int 1), (.ref oa)]))
  rw [show (own_lenb (3458764513820540929 : Int64)) = (0 : Int32) from by decide +kernel]
  refine own_Fin.go (fun t k => XS.iconst X18.here hx rfl (hb hby d10_223) (XS.iadd X18.here hx rfl (hb hby d10_224) rfl k)) ?_
  show own_Fin _ _ _ _ _ _ _ (T18.setTop (mkF m 225 #[rv oa, iv 1, jv vb, sS, rv ot, iv 4, iv 4, iv 4, uS, uS] [(.int ((0 : Int32) + (1 : Int32))), (.int 1), (.ref oa)]))
  rw [show ((0 : Int32) + (1 : Int32)) = (1 : Int32) from by decide +kernel]
  refine own_pC X18 hx hZ hown (own_W hw 96 rfl) (own_W hw 97 rfl) (own_W hw 48 rfl) rfl (own_W hw 98 rfl) (own_W hw 99 rfl) (own_W hw 17 rfl) (by decide) (own_rm_sl1 l Z a0 hw [] oa (1 : Int32) r8 kb8 (6 : Int32) (3458764513820540929 : Int64) (0 : Int64) ([(.long yp), (.long wp), (.long vb), (.long 0)]) h16 n0 Z16 F_oa_cells_16 V_r8_16 (by decide) g_r8 ne_oa_r8) 0 (by decide) (by decide) e18 E_oa_16 rfl (by rw [hml]; rfl) [(.int 1), (.int 1)] (lenOf own_pd6 rfl) rfl (Nat.le_of_eq rfl) (hb hby d10_225) rfl (by decide) (by decide) ?_
  rintro T19 Lc19 _ X19 ⟨rfl, N19q, K19q, c19_1⟩
  have N19 := Fr.app N18 N19q
  have E_oa_19 := E_oa_16.keep K19q
  have F_oa_cells_19 := F_oa_cells_16.keep K19q (ninS ne_oa_r8 nin0)
  have F_oa_sets_19 := F_oa_sets_16.keep K19q (ninS ne_oa_r8 nin0)
  have E_ot_19 := E_ot_16.keep K19q
  have F_ot_buckets_19 := F_ot_buckets_16.keep K19q (ninS ne_ot_r8 nin0)
  have Z19 := Nat.le_trans Z16 K19q.1
  have K19 := K16.trans K19q (allS (Or.inr sz_r8) all0)
  rw [show (own_slb (3458764513820540929 : Int64) (1 : Int32)) = (3458764514894282753 : Int64) from by decide +kernel] at c19_1
  refine own_Fin.go (fun t k => XS.aload X19.here hx rfl (hb hby d10_228) rfl rfl (XS.dup X19.here hx rfl (hb hby d10_230) rfl rfl k)) ?_
  refine own_gF X19 hx hZ hown (own_W hw 101 rfl) rfl F_ot_buckets_19 rfl rfl (hb hby d10_231) ?_
  intro T20 X20 e20
  refine own_Fin.go (fun t k => XS.lconst X20.here hx rfl (hb hby d10_234) (XS.ladd X20.here hx rfl (hb hby d10_235) rfl k)) ?_
  obtain ⟨T21, h21, X21, e21, W21, st21⟩ := putF X20 hx hZ hown (host := "") (Or.inl (own_W hw 101 rfl)) Via.refl e20 F_ot_buckets_19 E_ot_19 (Or.inl (own_W hw 102 rfl)) (own_W hw 7 rfl) (ty := .long) (by decide) rfl rfl (g := (mkF m 236 #[rv oa, iv 1, jv vb, sS, rv ot, iv 4, iv 4, iv 4, uS, uS] [(.long (ub + (1 : Int64))), (.ref ot)])) rfl rfl (hb hby d10_236)
  refine own_Fin.go st21 ?_
  have F_ot_buckets_21 := Fld.same W21 F_ot_buckets_19
  have E_oa_21 := Exa.wr W21 E_oa_19
  have F_oa_cells_21 := Fld.other W21 F_oa_cells_19 (Or.inl ne_oa_ot)
  have F_oa_sets_21 := Fld.other W21 F_oa_sets_19 (Or.inl ne_oa_ot)
  have E_ot_21 := Exa.wr W21 E_ot_19
  have V_r8_21 := Arv.other c19_1 W21 (Ne.symm ne_ot_r8)
  have Z21 := Nat.le_trans Z19 (Keep.of_wr W21).1
  have K21 := K19.wr W21 (Or.inl (List.mem_of_getElem? (i := 1) rfl))
  have N21 := Fr.snoc X21 N19 g_ot
  show own_Fin _ _ _ _ _ _ _ (T21.setTop (mkF m 239 #[rv oa, iv 1, jv vb, sS, rv ot, iv 4, iv 4, iv 4, uS, uS] []))
  refine own_Fin.go (fun t k => XS.iload X21.here hx rfl (hb hby d10_239) rfl k) ?_
  refine own_retI X21 hx Bd.returns (hb hby d10_241) Bd.notSynchronized (by decide) (by decide) ?_
  rw [e21]
  exact ⟨r8, kb8, rfl, N21, K21, E_oa_21, F_oa_cells_21, F_oa_sets_21, V_r8_21, E_ot_21, F_ot_buckets_21, sz_r8, ne_oa_r8, ne_ot_r8⟩
theorem own_ef_adB (m : MethodId) (oa : Addr) (vb : Int64) (va : Int64) (ot : Addr) : entryFrame m #[(.ref oa), (.int 1), (.long vb), (.long va), (.ref ot)] 8 = mkF m 0 #[rv oa, iv 1, jv vb, sS, jv va, sS, rv ot, uS] [] := by first | (simp [entryFrame, mkF, argsToLocals, Value.category]; done) | rfl
def own_Q_adB (Z : State) (oa : Addr) (vb : Int64) (va : Int64) (ot : Addr) (oz : Addr) (kz : ClassId) (yp : Int64) (wp : Int64) (ub : Int64) (h0 : Heap) (n0 : Nat) (v : Option Value) (h : Heap) (L : List Loc) : Prop := ∃ ob : Addr, ∃ kb : ClassId, v = none ∧ Fr n0 L ∧ Keep h0 h [oa, ot, oz] ∧ Exa Z h oa own_k0 ∧ Fld Z h oa own_k0 "cells" "[J" (.ref ob) ∧ Fld Z h oa own_k0 "sets" "[Ljava/lang/Object;" .null ∧ Arv Z h ob kb .long (6 : Int32) [(.long 3458764514894282753), (.long 0), (.long yp), (.long wp), (.long vb), (.long (own_sat (0 : Int64) va))] (.long 0) ∧ Exa Z h ot own_k2 ∧ Fld Z h ot own_k2 "buckets" "J" (.long (ub + (1 : Int64))) ∧ h0.size ≤ ob ∧ oa ≠ ob ∧ ot ≠ ob
set_option maxRecDepth 65536 in
set_option maxHeartbeats 40000000 in
theorem own_rm_adB (l : Launch) (Z : State) (a0 : Array Value) (hw : ∀ d ∈ tables_1, d.before a0 Z = true) (ws : List Jvm.Cond) (oa : Addr) (vb : Int64) (va : Int64) (ot : Addr) (oz : Addr) (kz : ClassId) (yp : Int64) (wp : Int64) (ub : Int64) (h0 : Heap) (n0 : Nat) (Z0 : n0 ≤ h0.size) (E_oa : Exa Z h0 oa own_k0) (F_oa_cells : Fld Z h0 oa own_k0 "cells" "[J" (.ref oz)) (F_oa_sets : Fld Z h0 oa own_k0 "sets" "[Ljava/lang/Object;" .null) (V_oz : Arv Z h0 oz kz .long (4 : Int32) [(.long 3458764513820540929), (.long 0), (.long yp), (.long wp)] (.long 0)) (E_ot : Exa Z h0 ot own_k2) (F_ot_buckets : Fld Z h0 ot own_k2 "buckets" "J" (.long ub)) (g_oa : n0 ≤ oa) (g_oz : n0 ≤ oz) (g_ot : n0 ≤ ot) (ne_oa_ot : oa ≠ ot) (ne_oa_oz : oa ≠ oz) (ne_ot_oz : ot ≠ oz) :
    MetFree l own_y17 (head1 (Jvm.Cond.code own_y17 prog_4_method_4_code 8 none :: ws) ({ frames := 5, cells := 1, slots := 6, locals := 76 } : Room)) (fun a U => a = #[(.ref oa), (.int 1), (.long vb), (.long va), (.ref ot)] ∧ Z.Warmed39 U.vm ∧ U.heap = h0) (fun _ _ _ _ _ => True) (fun _ U o U' => ∃ v L, o = .returned v ∧ own_Q_adB Z oa vb va ot oz kz yp wp ub h0 n0 v U'.heap L ∧ FrameEnd U o U' L ({ frames := 5, cells := 1, slots := 6, locals := 76 } : Room).cells ({ frames := 5, cells := 1, slots := 6, locals := 76 } : Room).slots) := by
  refine MetFree.of_bodySF (plainFor_of_name own_pn0) hisR ?_
  intro p e s m args below meth c s₁ Bd hml0 hP hK
  obtain ⟨rfl, hZ, hh⟩ := hP
  have hx := Bd.exec
  have hby := Bd.bytes
  have hml : c.maxLocals = 8 := hml0
  have hown : s.vm.findClass own_k0 = some m.cls := findClass_of_methodNamed Bd.named
  have hnm := (name_of_methodNamed Bd.named Bd.method).1
  have X0 : Stand p l e ({ frames := 5, cells := 1, slots := 6, locals := 76 } : Room) s m #[(.ref oa), (.int 1), (.long vb), (.long va), (.ref ot)] below meth c s₁ [] 0 0 := Stand.of_body Bd
  have e0 : s₁.heap = h0 := by rw [← hh, Bd.state]; rfl
  have N0 := Fr.nil n0
  have K0 := Keep.refl h0 [oa, ot, oz]
  show own_Fin p e below s (own_Q_adB Z oa vb va ot oz kz yp wp ub h0 n0) ({ frames := 5, cells := 1, slots := 6, locals := 76 } : Room).cells ({ frames := 5, cells := 1, slots := 6, locals := 76 } : Room).slots (s₁.setTop (entryFrame m #[(.ref oa), (.int 1), (.long vb), (.long va), (.ref ot)] 8))
  refine own_Fin.go (fun t k => castTop (own_ef_adB m oa vb va ot) k) ?_
  refine own_Fin.go (fun t k => XS.aloadN X0.here hx rfl (hb hby d1_0) rfl rfl (XS.iloadN X0.here hx rfl (hb hby d1_1) rfl (XS.lloadN X0.here hx rfl (hb hby d1_2) rfl (XS.aload X0.here hx rfl (hb hby d1_3) rfl rfl k)))) ?_
  show own_Fin _ _ _ _ _ _ _ (s₁.setTop (mkF m 5 #[rv oa, iv 1, jv vb, sS, jv va, sS, rv ot, uS] [(.ref ot), (.long vb), (.int 1), (.ref oa)]))
  refine own_pC X0 hx hZ hown (own_W hw 50 rfl) (own_W hw 51 rfl) (own_W hw 48 rfl) rfl (own_W hw 52 rfl) (own_W hw 53 rfl) (own_W hw 17 rfl) (by decide) (own_rm_soB l Z a0 hw [] oa vb ot oz kz yp wp ub h0 n0 Z0 E_oa F_oa_cells F_oa_sets V_oz E_ot F_ot_buckets g_oa g_oz g_ot ne_oa_ot ne_oa_oz ne_ot_oz) 0 (by decide) (by decide) e0 E_oa rfl (by rw [hml]; rfl) [(.int 1), (.long vb), (.ref ot)] (lenOf own_pd7 rfl) rfl (Nat.le_of_eq rfl) (hb hby d1_5) rfl (by decide) (by decide) ?_
  rintro T1 Lc1 _ X1 ⟨ob1, kb1, rfl, N1q, K1q, c1_1, c1_2, c1_3, c1_4, c1_5, c1_6, c1_7, c1_8, c1_9⟩
  have N1 := Fr.app N0 N1q
  have Z1 := Nat.le_trans Z0 K1q.1
  have K1 := K0.trans K1q (allS (Or.inl (List.mem_of_getElem? (i := 0) rfl)) (allS (Or.inl (List.mem_of_getElem? (i := 1) rfl)) (allS (Or.inl (List.mem_of_getElem? (i := 2) rfl)) all0)))
  have ne_oa_ob1 : oa ≠ ob1 := Nat.ne_of_lt (Nat.lt_of_lt_of_le F_oa_sets.lt c1_7)
  have ne_oz_ob1 : oz ≠ ob1 := Nat.ne_of_lt (Nat.lt_of_lt_of_le V_oz.lt c1_7)
  have ne_ot_ob1 : ot ≠ ob1 := Nat.ne_of_lt (Nat.lt_of_lt_of_le F_ot_buckets.lt c1_7)
  have g_ob1 : n0 ≤ ob1 := Nat.le_trans Z0 c1_7
  have sz_ob1 : h0.size ≤ ob1 := Nat.le_trans K0.1 c1_7
  refine own_Fin.go (fun t k => XS.istore X1.here hx rfl (hb hby d1_8) rfl (l' := #[rv oa, iv 1, jv vb, sS, jv va, sS, rv ot, iv 4]) rfl (XS.aloadN X1.here hx rfl (hb hby d1_10) rfl rfl k)) ?_
  refine own_gF X1 hx hZ hown (own_W hw 39 rfl) rfl c1_2 rfl rfl (hb hby d1_11) ?_
  intro T2 X2 e2
  refine own_Fin.go (fun t k => XS.iload X2.here hx rfl (hb hby d1_14) rfl k) ?_
  show own_Fin _ _ _ _ _ _ _ (T2.setTop (mkF m 16 #[rv oa, iv 1, jv vb, sS, jv va, sS, rv ot, iv 4] [(.int 4), (.ref ob1)]))
  refine own_Fin.go (fun t k => XS.iconst X2.here hx rfl (hb hby d1_16) (XS.iadd X2.here hx rfl (hb hby d1_17) rfl k)) ?_
  show own_Fin _ _ _ _ _ _ _ (T2.setTop (mkF m 18 #[rv oa, iv 1, jv vb, sS, jv va, sS, rv ot, iv 4] [(.int ((4 : Int32) + (1 : Int32))), (.ref ob1)]))
  rw [show ((4 : Int32) + (1 : Int32)) = (5 : Int32) from by decide +kernel]
  refine own_Fin.go (fun t k => XS.aloadN X2.here hx rfl (hb hby d1_18) rfl rfl k) ?_
  refine own_gF X2 hx hZ hown (own_W hw 39 rfl) e2 c1_2 rfl rfl (hb hby d1_19) ?_
  intro T3 X3 e3
  refine own_Fin.go (fun t k => XS.iload X3.here hx rfl (hb hby d1_22) rfl (XS.iconst X3.here hx rfl (hb hby d1_24) (XS.iadd X3.here hx rfl (hb hby d1_25) rfl k))) ?_
  show own_Fin _ _ _ _ _ _ _ (T3.setTop (mkF m 26 #[rv oa, iv 1, jv vb, sS, jv va, sS, rv ot, iv 4] [(.int ((4 : Int32) + (1 : Int32))), (.ref ob1), (.int 5), (.ref ob1)]))
  rw [show ((4 : Int32) + (1 : Int32)) = (5 : Int32) from by decide +kernel]
  refine own_lal X3 hx hZ e3 c1_4 ⟨by decide, by decide⟩ (v := (0 : Int64)) rfl rfl rfl (hb hby d1_26) ?_
  refine own_Fin.go (fun t k => XS.lload X3.here hx rfl (hb hby d1_27) rfl k) ?_
  refine own_sC X3 hx hZ hown (own_W hw 103 rfl) (own_W hw 104 rfl) (own_W hw 17 rfl) (own_W hw 105 rfl) (by decide) (own_rm_sat l Z a0 hw [] (0 : Int64) va  T1.heap n0 Z1 ) 2 (by decide) (by decide) e3 rfl (by rw [hml]; rfl) [(.long 0), (.long va)] [(.int 5), (.ref ob1)] (lenOf own_pd8 rfl) rfl (Nat.le_of_eq rfl) (hb hby d1_29) rfl (by decide) (by decide) ?_
  rintro T5 Lc5 _ X5 ⟨rfl, N5q, e5⟩
  have N5 := Fr.app N1 N5q
  obtain ⟨cl6, Ar6, q6, S6, N6l, H6, G6⟩ := (id c1_4)
  have hin6 : ¬ ((5 : Int32) < 0 ∨ cl6.slots.size ≤ ((5 : Int32)).toNatClampNeg) := inb_of S6 ⟨by decide, by decide⟩
  obtain ⟨T6, h6, X6, e6, W6, st6⟩ := stJ X5 hx hZ e5 Ar6 (j := (5 : Int32)) hin6 (g := (mkF m 32 #[rv oa, iv 1, jv vb, sS, jv va, sS, rv ot, iv 4] [(.long (own_sat (0 : Int64) va)), (.int 5), (.ref ob1)])) rfl rfl (hb hby d1_32)
  refine own_Fin.go st6 ?_
  have V_ob1_6 := Arv.set Ar6 q6 S6 N6l H6 G6 rfl W6 5 rfl (Nat.le_of_ble_eq_true rfl)
  replace V_ob1_6 : Arv Z h6 ob1 kb1 .long (6 : Int32) [(.long 3458764514894282753), (.long 0), (.long yp), (.long wp), (.long vb), (.long (own_sat (0 : Int64) va))] (.long 0) := V_ob1_6
  have E_oa_6 := Exa.wr W6 c1_1
  have F_oa_cells_6 := Fld.other W6 c1_2 (Or.inl c1_8)
  have F_oa_sets_6 := Fld.other W6 c1_3 (Or.inl c1_8)
  have E_ot_6 := Exa.wr W6 c1_5
  have F_ot_buckets_6 := Fld.other W6 c1_6 (Or.inl c1_9)
  have Z6 := Nat.le_trans Z1 (Keep.of_wr W6).1
  have K6 := K1.wr W6 (Or.inr sz_ob1)
  have N6 := Fr.snoc X6 N5 g_ob1
  show own_Fin _ _ _ _ _ _ _ (T6.setTop (mkF m 33 #[rv oa, iv 1, jv vb, sS, jv va, sS, rv ot, iv 4] []))
  refine own_ret0 X6 hx Bd.returns (hb hby d1_33) Bd.notSynchronized (by decide) (by decide) ?_
  rw [e6]
  exact ⟨ob1, kb1, rfl, N6, K6, E_oa_6, F_oa_cells_6, F_oa_sets_6, V_ob1_6, E_ot_6, F_ot_buckets_6, sz_ob1, c1_8, c1_9⟩
theorem d10_30 : decode prog_4_method_10_code 30 = .ok (.aload_n 0, 1) := by decide +kernel
theorem d10_31 : decode prog_4_method_10_code 31 = .ok (.getfield 21, 3) := by decide +kernel
theorem d10_34 : decode prog_4_method_10_code 34 = .ok (.iload 5, 2) := by decide +kernel
theorem d10_36 : decode prog_4_method_10_code 36 = .ok (.laload, 1) := by decide +kernel
theorem d10_37 : decode prog_4_method_10_code 37 = .ok (.lload_n 2, 1) := by decide +kernel
theorem d10_38 : decode prog_4_method_10_code 38 = .ok (.lcmp, 1) := by decide +kernel
theorem d10_39 : decode prog_4_method_10_code 39 = .ok (.ifCond .ne 6, 3) := by decide +kernel
theorem d10_42 : decode prog_4_method_10_code 42 = .ok (.iload 5, 2) := by decide +kernel
theorem d10_44 : decode prog_4_method_10_code 44 = .ok (.ireturn, 1) := by decide +kernel
theorem own_ef_soC0e (m : MethodId) (oa : Addr) (vb : Int64) (ot : Addr) : entryFrame m #[(.ref oa), (.int 1), (.long vb), (.ref ot)] 10 = mkF m 0 #[rv oa, iv 1, jv vb, sS, rv ot, uS, uS, uS, uS, uS] [] := by first | (simp [entryFrame, mkF, argsToLocals, Value.category]; done) | rfl
def own_Q_soC0e (Z : State) (oa : Addr) (vb : Int64) (ot : Addr) (oz : Addr) (kz : ClassId) (yp : Int64) (wp : Int64) (ya : Int64) (wa : Int64) (ub : Int64) (h0 : Heap) (n0 : Nat) (v : Option Value) (h : Heap) (L : List Loc) : Prop := v = some (.int 4) ∧ Fr n0 L ∧ h = h0
set_option maxRecDepth 65536 in
set_option maxHeartbeats 40000000 in
theorem own_rm_soC0e (l : Launch) (Z : State) (a0 : Array Value) (hw : ∀ d ∈ tables_1, d.before a0 Z = true) (ws : List Jvm.Cond) (oa : Addr) (vb : Int64) (ot : Addr) (oz : Addr) (kz : ClassId) (yp : Int64) (wp : Int64) (ya : Int64) (wa : Int64) (ub : Int64) (h0 : Heap) (n0 : Nat) (Z0 : n0 ≤ h0.size) (E_oa : Exa Z h0 oa own_k0) (F_oa_cells : Fld Z h0 oa own_k0 "cells" "[J" (.ref oz)) (F_oa_sets : Fld Z h0 oa own_k0 "sets" "[Ljava/lang/Object;" .null) (V_oz : Arv Z h0 oz kz .long (6 : Int32) [(.long 3458764514894282753), (.long 0), (.long yp), (.long wp), (.long ya), (.long wa)] (.long 0)) (E_ot : Exa Z h0 ot own_k2) (F_ot_buckets : Fld Z h0 ot own_k2 "buckets" "J" (.long ub)) (g_oa : n0 ≤ oa) (g_oz : n0 ≤ oz) (g_ot : n0 ≤ ot) (ne_oa_ot : oa ≠ ot) (ne_oa_oz : oa ≠ oz) (ne_ot_oz : ot ≠ oz) (qya : ¬ ya < vb) (qea : ya = vb) :
    MetFree l own_y16 (head1 (Jvm.Cond.code own_y16 prog_4_method_10_code 10 (some .int) :: ws) ({ frames := 4, cells := 0, slots := 0, locals := 55 } : Room)) (fun a U => a = #[(.ref oa), (.int 1), (.long vb), (.ref ot)] ∧ Z.Warmed39 U.vm ∧ U.heap = h0) (fun _ _ _ _ _ => True) (fun _ U o U' => ∃ v L, o = .returned v ∧ own_Q_soC0e Z oa vb ot oz kz yp wp ya wa ub h0 n0 v U'.heap L ∧ FrameEnd U o U' L ({ frames := 4, cells := 0, slots := 0, locals := 55 } : Room).cells ({ frames := 4, cells := 0, slots := 0, locals := 55 } : Room).slots) := by
  refine MetFree.of_bodySF (plainFor_of_name own_pn0) hisR ?_
  intro p e s m args below meth c s₁ Bd hml0 hP hK
  obtain ⟨rfl, hZ, hh⟩ := hP
  have hx := Bd.exec
  have hby := Bd.bytes
  have hml : c.maxLocals = 10 := hml0
  have hown : s.vm.findClass own_k0 = some m.cls := findClass_of_methodNamed Bd.named
  have hnm := (name_of_methodNamed Bd.named Bd.method).1
  have X0 : Stand p l e ({ frames := 4, cells := 0, slots := 0, locals := 55 } : Room) s m #[(.ref oa), (.int 1), (.long vb), (.ref ot)] below meth c s₁ [] 0 0 := Stand.of_body Bd
  have e0 : s₁.heap = h0 := by rw [← hh, Bd.state]; rfl
  have N0 := Fr.nil n0
  show own_Fin p e below s (own_Q_soC0e Z oa vb ot oz kz yp wp ya wa ub h0 n0) ({ frames := 4, cells := 0, slots := 0, locals := 55 } : Room).cells ({ frames := 4, cells := 0, slots := 0, locals := 55 } : Room).slots (s₁.setTop (entryFrame m #[(.ref oa), (.int 1), (.long vb), (.ref ot)] 10))
  refine own_Fin.go (fun t k => castTop (own_ef_soC0e m oa vb ot) k) ?_
  refine own_Fin.go (fun t k => XS.aloadN X0.here hx rfl (hb hby d10_0) rfl rfl (XS.iloadN X0.here hx rfl (hb hby d10_1) rfl (XS.lloadN X0.here hx rfl (hb hby d10_2) rfl k))) ?_
  refine own_pC X0 hx hZ hown (own_W hw 54 rfl) (own_W hw 55 rfl) (own_W hw 48 rfl) rfl (own_W hw 56 rfl) (own_W hw 57 rfl) (own_W hw 17 rfl) (by decide) (own_rm_ix1 l Z a0 hw [] oa vb oz kz (6 : Int32) (3458764514894282753 : Int64) (0 : Int64) yp wp ya wa ([]) h0 n0 Z0 E_oa F_oa_cells V_oz (by decide) (by decide) (by decide)) 0 (by decide) (by decide) e0 E_oa rfl (by rw [hml]; rfl) [(.int 1), (.long vb)] (lenOf own_pd4 rfl) rfl (Nat.le_of_eq rfl) (hb hby d10_3) rfl (by decide) (by decide) ?_
  rintro T1 Lc1 _ X1 ⟨rfl, N1q, e1⟩
  have N1 := Fr.app N0 N1q
  show own_Fin _ _ _ _ _ _ _ (T1.setTop (mkF m 6 #[rv oa, iv 1, jv vb, sS, rv ot, uS, uS, uS, uS, uS] [(.int (own_lb1 ya vb))]))
  rw [show (own_lb1 ya vb) = (4 : Int32) from by simp only [own_lb1, if_neg qya]]
  refine own_Fin.go (fun t k => XS.istore X1.here hx rfl (hb hby d10_6) rfl (l' := #[rv oa, iv 1, jv vb, sS, rv ot, iv 4, uS, uS, uS, uS]) rfl (XS.aloadN X1.here hx rfl (hb hby d10_8) rfl rfl (XS.iloadN X1.here hx rfl (hb hby d10_9) rfl k))) ?_
  refine own_pC X1 hx hZ hown (own_W hw 58 rfl) (own_W hw 59 rfl) (own_W hw 48 rfl) rfl (own_W hw 60 rfl) (own_W hw 61 rfl) (own_W hw 17 rfl) (by decide) (own_rm_st1 l Z a0 hw [] oa oz kz (6 : Int32) (3458764514894282753 : Int64) (0 : Int64) ([(.long yp), (.long wp), (.long ya), (.long wa)]) h0 n0 Z0 E_oa F_oa_cells V_oz (by decide)) 0 (by decide) (by decide) e1 E_oa rfl (by rw [hml]; rfl) [(.int 1)] (lenOf own_pd1 rfl) rfl (Nat.le_of_eq rfl) (hb hby d10_10) rfl (by decide) (by decide) ?_
  rintro T2 Lc2 _ X2 ⟨rfl, N2q, e2⟩
  have N2 := Fr.app N1 N2q
  show own_Fin _ _ _ _ _ _ _ (T2.setTop (mkF m 13 #[rv oa, iv 1, jv vb, sS, rv ot, iv 4, uS, uS, uS, uS] [(.int (own_stb (3458764514894282753 : Int64)))]))
  rw [show (own_stb (3458764514894282753 : Int64)) = (4 : Int32) from by decide +kernel]
  refine own_Fin.go (fun t k => XS.iconst X2.here hx rfl (hb hby d10_13) (XS.aloadN X2.here hx rfl (hb hby d10_14) rfl rfl (XS.iloadN X2.here hx rfl (hb hby d10_15) rfl k))) ?_
  refine own_pC X2 hx hZ hown (own_W hw 70 rfl) (own_W hw 71 rfl) (own_W hw 48 rfl) rfl (own_W hw 72 rfl) (own_W hw 73 rfl) (own_W hw 17 rfl) (by decide) (own_rm_len1 l Z a0 hw [] oa oz kz (6 : Int32) (3458764514894282753 : Int64) (0 : Int64) ([(.long yp), (.long wp), (.long ya), (.long wa)]) h0 n0 Z0 F_oa_cells V_oz (by decide)) 2 (by decide) (by decide) e2 E_oa rfl (by rw [hml]; rfl) [(.int 1)] (lenOf own_pd1 rfl) rfl (Nat.le_of_eq rfl) (hb hby d10_16) rfl (by decide) (by decide) ?_
  rintro T3 Lc3 _ X3 ⟨rfl, N3q, e3⟩
  have N3 := Fr.app N2 N3q
  show own_Fin _ _ _ _ _ _ _ (T3.setTop (mkF m 19 #[rv oa, iv 1, jv vb, sS, rv ot, iv 4, uS, uS, uS, uS] [(.int (own_lenb (3458764514894282753 : Int64))), (.int 2), (.int 4)]))
  rw [show (own_lenb (3458764514894282753 : Int64)) = (1 : Int32) from by decide +kernel]
  refine own_Fin.go (fun t k => XS.imul X3.here hx rfl (hb hby d10_19) rfl k) ?_
  show own_Fin _ _ _ _ _ _ _ (T3.setTop (mkF m 20 #[rv oa, iv 1, jv vb, sS, rv ot, iv 4, uS, uS, uS, uS] [(.int ((2 : Int32) * (1 : Int32))), (.int 4)]))
  rw [show ((2 : Int32) * (1 : Int32)) = (2 : Int32) from by decide +kernel]
  refine own_Fin.go (fun t k => XS.iadd X3.here hx rfl (hb hby d10_20) rfl k) ?_
  show own_Fin _ _ _ _ _ _ _ (T3.setTop (mkF m 21 #[rv oa, iv 1, jv vb, sS, rv ot, iv 4, uS, uS, uS, uS] [(.int ((4 : Int32) + (2 : Int32)))]))
  rw [show ((4 : Int32) + (2 : Int32)) = (6 : Int32) from by decide +kernel]
  refine own_Fin.go (fun t k => XS.istore X3.here hx rfl (hb hby d10_21) rfl (l' := #[rv oa, iv 1, jv vb, sS, rv ot, iv 4, iv 6, uS, uS, uS]) rfl (XS.iload X3.here hx rfl (hb hby d10_23) rfl (XS.iload X3.here hx rfl (hb hby d10_25) rfl (XS.icmpNo X3.here hx rfl (hb hby d10_27) rfl (by decide) k)))) ?_
  refine own_Fin.go (fun t k => XS.aloadN X3.here hx rfl (hb hby d10_30) rfl rfl k) ?_
  refine own_gF X3 hx hZ hown (own_W hw 39 rfl) e3 F_oa_cells rfl rfl (hb hby d10_31) ?_
  intro T4 X4 e4
  show own_Fin _ _ _ _ _ _ _ (T4.setTop (mkF m 34 #[rv oa, iv 1, jv vb, sS, rv ot, iv 4, iv 6, uS, uS, uS] [(.ref oz)]))
  refine own_Fin.go (fun t k => XS.iload X4.here hx rfl (hb hby d10_34) rfl k) ?_
  refine own_lal X4 hx hZ e4 V_oz ⟨by decide, by decide⟩ (v := ya) rfl rfl rfl (hb hby d10_36) ?_
  refine own_Fin.go (fun t k => XS.lloadN X4.here hx rfl (hb hby d10_37) rfl (XS.lcmp X4.here hx rfl (hb hby d10_38) rfl k)) ?_
  have hc39 : ya = vb := qea
  refine own_Fin.go (fun t k => XS.ifNo X4.here hx rfl (hb hby d10_39) rfl (Jvm.Free.XT.ll_ne_f hc39) k) ?_
  show own_Fin _ _ _ _ _ _ _ (T4.setTop (mkF m 42 #[rv oa, iv 1, jv vb, sS, rv ot, iv 4, iv 6, uS, uS, uS] []))
  refine own_Fin.go (fun t k => XS.iload X4.here hx rfl (hb hby d10_42) rfl k) ?_
  refine own_retI X4 hx Bd.returns (hb hby d10_44) Bd.notSynchronized (by decide) (by decide) ?_
  rw [e4]
  exact ⟨rfl, N3, rfl⟩
theorem own_ef_adC0e (m : MethodId) (oa : Addr) (vb : Int64) (va : Int64) (ot : Addr) : entryFrame m #[(.ref oa), (.int 1), (.long vb), (.long va), (.ref ot)] 8 = mkF m 0 #[rv oa, iv 1, jv vb, sS, jv va, sS, rv ot, uS] [] := by first | (simp [entryFrame, mkF, argsToLocals, Value.category]; done) | rfl
def own_Q_adC0e (Z : State) (oa : Addr) (vb : Int64) (va : Int64) (ot : Addr) (oz : Addr) (kz : ClassId) (yp : Int64) (wp : Int64) (ya : Int64) (wa : Int64) (ub : Int64) (h0 : Heap) (n0 : Nat) (v : Option Value) (h : Heap) (L : List Loc) : Prop := v = none ∧ Fr n0 L ∧ Keep h0 h [oa, ot, oz] ∧ Exa Z h oa own_k0 ∧ Fld Z h oa own_k0 "cells" "[J" (.ref oz) ∧ Fld Z h oa own_k0 "sets" "[Ljava/lang/Object;" .null ∧ Arv Z h oz kz .long (6 : Int32) [(.long 3458764514894282753), (.long 0), (.long yp), (.long wp), (.long ya), (.long (own_sat wa va))] (.long 0) ∧ Exa Z h ot own_k2 ∧ Fld Z h ot own_k2 "buckets" "J" (.long ub)
set_option maxRecDepth 65536 in
set_option maxHeartbeats 40000000 in
theorem own_rm_adC0e (l : Launch) (Z : State) (a0 : Array Value) (hw : ∀ d ∈ tables_1, d.before a0 Z = true) (ws : List Jvm.Cond) (oa : Addr) (vb : Int64) (va : Int64) (ot : Addr) (oz : Addr) (kz : ClassId) (yp : Int64) (wp : Int64) (ya : Int64) (wa : Int64) (ub : Int64) (h0 : Heap) (n0 : Nat) (Z0 : n0 ≤ h0.size) (E_oa : Exa Z h0 oa own_k0) (F_oa_cells : Fld Z h0 oa own_k0 "cells" "[J" (.ref oz)) (F_oa_sets : Fld Z h0 oa own_k0 "sets" "[Ljava/lang/Object;" .null) (V_oz : Arv Z h0 oz kz .long (6 : Int32) [(.long 3458764514894282753), (.long 0), (.long yp), (.long wp), (.long ya), (.long wa)] (.long 0)) (E_ot : Exa Z h0 ot own_k2) (F_ot_buckets : Fld Z h0 ot own_k2 "buckets" "J" (.long ub)) (g_oa : n0 ≤ oa) (g_oz : n0 ≤ oz) (g_ot : n0 ≤ ot) (ne_oa_ot : oa ≠ ot) (ne_oa_oz : oa ≠ oz) (ne_ot_oz : ot ≠ oz) (qya : ¬ ya < vb) (qea : ya = vb) :
    MetFree l own_y17 (head1 (Jvm.Cond.code own_y17 prog_4_method_4_code 8 none :: ws) ({ frames := 5, cells := 0, slots := 0, locals := 76 } : Room)) (fun a U => a = #[(.ref oa), (.int 1), (.long vb), (.long va), (.ref ot)] ∧ Z.Warmed39 U.vm ∧ U.heap = h0) (fun _ _ _ _ _ => True) (fun _ U o U' => ∃ v L, o = .returned v ∧ own_Q_adC0e Z oa vb va ot oz kz yp wp ya wa ub h0 n0 v U'.heap L ∧ FrameEnd U o U' L ({ frames := 5, cells := 0, slots := 0, locals := 76 } : Room).cells ({ frames := 5, cells := 0, slots := 0, locals := 76 } : Room).slots) := by
  refine MetFree.of_bodySF (plainFor_of_name own_pn0) hisR ?_
  intro p e s m args below meth c s₁ Bd hml0 hP hK
  obtain ⟨rfl, hZ, hh⟩ := hP
  have hx := Bd.exec
  have hby := Bd.bytes
  have hml : c.maxLocals = 8 := hml0
  have hown : s.vm.findClass own_k0 = some m.cls := findClass_of_methodNamed Bd.named
  have hnm := (name_of_methodNamed Bd.named Bd.method).1
  have X0 : Stand p l e ({ frames := 5, cells := 0, slots := 0, locals := 76 } : Room) s m #[(.ref oa), (.int 1), (.long vb), (.long va), (.ref ot)] below meth c s₁ [] 0 0 := Stand.of_body Bd
  have e0 : s₁.heap = h0 := by rw [← hh, Bd.state]; rfl
  have N0 := Fr.nil n0
  have K0 := Keep.refl h0 [oa, ot, oz]
  show own_Fin p e below s (own_Q_adC0e Z oa vb va ot oz kz yp wp ya wa ub h0 n0) ({ frames := 5, cells := 0, slots := 0, locals := 76 } : Room).cells ({ frames := 5, cells := 0, slots := 0, locals := 76 } : Room).slots (s₁.setTop (entryFrame m #[(.ref oa), (.int 1), (.long vb), (.long va), (.ref ot)] 8))
  refine own_Fin.go (fun t k => castTop (own_ef_adC0e m oa vb va ot) k) ?_
  refine own_Fin.go (fun t k => XS.aloadN X0.here hx rfl (hb hby d1_0) rfl rfl (XS.iloadN X0.here hx rfl (hb hby d1_1) rfl (XS.lloadN X0.here hx rfl (hb hby d1_2) rfl (XS.aload X0.here hx rfl (hb hby d1_3) rfl rfl k)))) ?_
  show own_Fin _ _ _ _ _ _ _ (s₁.setTop (mkF m 5 #[rv oa, iv 1, jv vb, sS, jv va, sS, rv ot, uS] [(.ref ot), (.long vb), (.int 1), (.ref oa)]))
  refine own_pC X0 hx hZ hown (own_W hw 50 rfl) (own_W hw 51 rfl) (own_W hw 48 rfl) rfl (own_W hw 52 rfl) (own_W hw 53 rfl) (own_W hw 17 rfl) (by decide) (own_rm_soC0e l Z a0 hw [] oa vb ot oz kz yp wp ya wa ub h0 n0 Z0 E_oa F_oa_cells F_oa_sets V_oz E_ot F_ot_buckets g_oa g_oz g_ot ne_oa_ot ne_oa_oz ne_ot_oz (by assumption) (by assumption)) 0 (by decide) (by decide) e0 E_oa rfl (by rw [hml]; rfl) [(.int 1), (.long vb), (.ref ot)] (lenOf own_pd7 rfl) rfl (Nat.le_of_eq rfl) (hb hby d1_5) rfl (by decide) (by decide) ?_
  rintro T1 Lc1 _ X1 ⟨rfl, N1q, e1⟩
  have N1 := Fr.app N0 N1q
  refine own_Fin.go (fun t k => XS.istore X1.here hx rfl (hb hby d1_8) rfl (l' := #[rv oa, iv 1, jv vb, sS, jv va, sS, rv ot, iv 4]) rfl (XS.aloadN X1.here hx rfl (hb hby d1_10) rfl rfl k)) ?_
  refine own_gF X1 hx hZ hown (own_W hw 39 rfl) e1 F_oa_cells rfl rfl (hb hby d1_11) ?_
  intro T2 X2 e2
  refine own_Fin.go (fun t k => XS.iload X2.here hx rfl (hb hby d1_14) rfl k) ?_
  show own_Fin _ _ _ _ _ _ _ (T2.setTop (mkF m 16 #[rv oa, iv 1, jv vb, sS, jv va, sS, rv ot, iv 4] [(.int 4), (.ref oz)]))
  refine own_Fin.go (fun t k => XS.iconst X2.here hx rfl (hb hby d1_16) (XS.iadd X2.here hx rfl (hb hby d1_17) rfl k)) ?_
  show own_Fin _ _ _ _ _ _ _ (T2.setTop (mkF m 18 #[rv oa, iv 1, jv vb, sS, jv va, sS, rv ot, iv 4] [(.int ((4 : Int32) + (1 : Int32))), (.ref oz)]))
  rw [show ((4 : Int32) + (1 : Int32)) = (5 : Int32) from by decide +kernel]
  refine own_Fin.go (fun t k => XS.aloadN X2.here hx rfl (hb hby d1_18) rfl rfl k) ?_
  refine own_gF X2 hx hZ hown (own_W hw 39 rfl) e2 F_oa_cells rfl rfl (hb hby d1_19) ?_
  intro T3 X3 e3
  refine own_Fin.go (fun t k => XS.iload X3.here hx rfl (hb hby d1_22) rfl (XS.iconst X3.here hx rfl (hb hby d1_24) (XS.iadd X3.here hx rfl (hb hby d1_25) rfl k))) ?_
  show own_Fin _ _ _ _ _ _ _ (T3.setTop (mkF m 26 #[rv oa, iv 1, jv vb, sS, jv va, sS, rv ot, iv 4] [(.int ((4 : Int32) + (1 : Int32))), (.ref oz), (.int 5), (.ref oz)]))
  rw [show ((4 : Int32) + (1 : Int32)) = (5 : Int32) from by decide +kernel]
  refine own_lal X3 hx hZ e3 V_oz ⟨by decide, by decide⟩ (v := wa) rfl rfl rfl (hb hby d1_26) ?_
  refine own_Fin.go (fun t k => XS.lload X3.here hx rfl (hb hby d1_27) rfl k) ?_
  refine own_sC X3 hx hZ hown (own_W hw 103 rfl) (own_W hw 104 rfl) (own_W hw 17 rfl) (own_W hw 105 rfl) (by decide) (own_rm_sat l Z a0 hw [] wa va  h0 n0 Z0 ) 2 (by decide) (by decide) e3 rfl (by rw [hml]; rfl) [(.long wa), (.long va)] [(.int 5), (.ref oz)] (lenOf own_pd8 rfl) rfl (Nat.le_of_eq rfl) (hb hby d1_29) rfl (by decide) (by decide) ?_
  rintro T5 Lc5 _ X5 ⟨rfl, N5q, e5⟩
  have N5 := Fr.app N1 N5q
  obtain ⟨cl6, Ar6, q6, S6, N6l, H6, G6⟩ := (id V_oz)
  have hin6 : ¬ ((5 : Int32) < 0 ∨ cl6.slots.size ≤ ((5 : Int32)).toNatClampNeg) := inb_of S6 ⟨by decide, by decide⟩
  obtain ⟨T6, h6, X6, e6, W6, st6⟩ := stJ X5 hx hZ e5 Ar6 (j := (5 : Int32)) hin6 (g := (mkF m 32 #[rv oa, iv 1, jv vb, sS, jv va, sS, rv ot, iv 4] [(.long (own_sat wa va)), (.int 5), (.ref oz)])) rfl rfl (hb hby d1_32)
  refine own_Fin.go st6 ?_
  have V_oz_6 := Arv.set Ar6 q6 S6 N6l H6 G6 rfl W6 5 rfl (Nat.le_of_ble_eq_true rfl)
  replace V_oz_6 : Arv Z h6 oz kz .long (6 : Int32) [(.long 3458764514894282753), (.long 0), (.long yp), (.long wp), (.long ya), (.long (own_sat wa va))] (.long 0) := V_oz_6
  have E_oa_6 := Exa.wr W6 E_oa
  have F_oa_cells_6 := Fld.other W6 F_oa_cells (Or.inl ne_oa_oz)
  have F_oa_sets_6 := Fld.other W6 F_oa_sets (Or.inl ne_oa_oz)
  have E_ot_6 := Exa.wr W6 E_ot
  have F_ot_buckets_6 := Fld.other W6 F_ot_buckets (Or.inl ne_ot_oz)
  have Z6 := Nat.le_trans Z0 (Keep.of_wr W6).1
  have K6 := K0.wr W6 (Or.inl (List.mem_of_getElem? (i := 2) rfl))
  have N6 := Fr.snoc X6 N5 g_oz
  show own_Fin _ _ _ _ _ _ _ (T6.setTop (mkF m 33 #[rv oa, iv 1, jv vb, sS, jv va, sS, rv ot, iv 4] []))
  refine own_ret0 X6 hx Bd.returns (hb hby d1_33) Bd.notSynchronized (by decide) (by decide) ?_
  rw [e6]
  exact ⟨rfl, N6, K6, E_oa_6, F_oa_cells_6, F_oa_sets_6, V_oz_6, E_ot_6, F_ot_buckets_6⟩
theorem own_ef_soC0n (m : MethodId) (oa : Addr) (vb : Int64) (ot : Addr) : entryFrame m #[(.ref oa), (.int 1), (.long vb), (.ref ot)] 10 = mkF m 0 #[rv oa, iv 1, jv vb, sS, rv ot, uS, uS, uS, uS, uS] [] := by first | (simp [entryFrame, mkF, argsToLocals, Value.category]; done) | rfl
def own_Q_soC0n (Z : State) (oa : Addr) (vb : Int64) (ot : Addr) (oz : Addr) (kz : ClassId) (yp : Int64) (wp : Int64) (ya : Int64) (wa : Int64) (ub : Int64) (h0 : Heap) (n0 : Nat) (v : Option Value) (h : Heap) (L : List Loc) : Prop := ∃ ob : Addr, ∃ kb : ClassId, v = some (.int 4) ∧ Fr n0 L ∧ Keep h0 h [oa, ot, oz] ∧ Exa Z h oa own_k0 ∧ Fld Z h oa own_k0 "cells" "[J" (.ref ob) ∧ Fld Z h oa own_k0 "sets" "[Ljava/lang/Object;" .null ∧ Arv Z h ob kb .long (8 : Int32) [(.long 3458764515968024577), (.long 0), (.long yp), (.long wp), (.long vb), (.long 0), (.long ya), (.long wa)] (.long 0) ∧ Exa Z h ot own_k2 ∧ Fld Z h ot own_k2 "buckets" "J" (.long (ub + (1 : Int64))) ∧ h0.size ≤ ob ∧ oa ≠ ob ∧ ot ≠ ob
set_option maxRecDepth 65536 in
set_option maxHeartbeats 40000000 in
theorem own_rm_soC0n (l : Launch) (Z : State) (a0 : Array Value) (hw : ∀ d ∈ tables_1, d.before a0 Z = true) (ws : List Jvm.Cond) (oa : Addr) (vb : Int64) (ot : Addr) (oz : Addr) (kz : ClassId) (yp : Int64) (wp : Int64) (ya : Int64) (wa : Int64) (ub : Int64) (h0 : Heap) (n0 : Nat) (Z0 : n0 ≤ h0.size) (E_oa : Exa Z h0 oa own_k0) (F_oa_cells : Fld Z h0 oa own_k0 "cells" "[J" (.ref oz)) (F_oa_sets : Fld Z h0 oa own_k0 "sets" "[Ljava/lang/Object;" .null) (V_oz : Arv Z h0 oz kz .long (6 : Int32) [(.long 3458764514894282753), (.long 0), (.long yp), (.long wp), (.long ya), (.long wa)] (.long 0)) (E_ot : Exa Z h0 ot own_k2) (F_ot_buckets : Fld Z h0 ot own_k2 "buckets" "J" (.long ub)) (g_oa : n0 ≤ oa) (g_oz : n0 ≤ oz) (g_ot : n0 ≤ ot) (ne_oa_ot : oa ≠ ot) (ne_oa_oz : oa ≠ oz) (ne_ot_oz : ot ≠ oz) (qya : ¬ ya < vb) (qea : ¬ ya = vb) :
    MetFree l own_y16 (head1 (Jvm.Cond.code own_y16 prog_4_method_10_code 10 (some .int) :: ws) ({ frames := 4, cells := 1, slots := 8, locals := 55 } : Room)) (fun a U => a = #[(.ref oa), (.int 1), (.long vb), (.ref ot)] ∧ Z.Warmed39 U.vm ∧ U.heap = h0) (fun _ _ _ _ _ => True) (fun _ U o U' => ∃ v L, o = .returned v ∧ own_Q_soC0n Z oa vb ot oz kz yp wp ya wa ub h0 n0 v U'.heap L ∧ FrameEnd U o U' L ({ frames := 4, cells := 1, slots := 8, locals := 55 } : Room).cells ({ frames := 4, cells := 1, slots := 8, locals := 55 } : Room).slots) := by
  refine MetFree.of_bodySF (plainFor_of_name own_pn0) hisR ?_
  intro p e s m args below meth c s₁ Bd hml0 hP hK
  obtain ⟨rfl, hZ, hh⟩ := hP
  have hx := Bd.exec
  have hby := Bd.bytes
  have hml : c.maxLocals = 10 := hml0
  have hown : s.vm.findClass own_k0 = some m.cls := findClass_of_methodNamed Bd.named
  have hnm := (name_of_methodNamed Bd.named Bd.method).1
  have X0 : Stand p l e ({ frames := 4, cells := 1, slots := 8, locals := 55 } : Room) s m #[(.ref oa), (.int 1), (.long vb), (.ref ot)] below meth c s₁ [] 0 0 := Stand.of_body Bd
  have e0 : s₁.heap = h0 := by rw [← hh, Bd.state]; rfl
  have N0 := Fr.nil n0
  have K0 := Keep.refl h0 [oa, ot, oz]
  show own_Fin p e below s (own_Q_soC0n Z oa vb ot oz kz yp wp ya wa ub h0 n0) ({ frames := 4, cells := 1, slots := 8, locals := 55 } : Room).cells ({ frames := 4, cells := 1, slots := 8, locals := 55 } : Room).slots (s₁.setTop (entryFrame m #[(.ref oa), (.int 1), (.long vb), (.ref ot)] 10))
  refine own_Fin.go (fun t k => castTop (own_ef_soC0n m oa vb ot) k) ?_
  refine own_Fin.go (fun t k => XS.aloadN X0.here hx rfl (hb hby d10_0) rfl rfl (XS.iloadN X0.here hx rfl (hb hby d10_1) rfl (XS.lloadN X0.here hx rfl (hb hby d10_2) rfl k))) ?_
  refine own_pC X0 hx hZ hown (own_W hw 54 rfl) (own_W hw 55 rfl) (own_W hw 48 rfl) rfl (own_W hw 56 rfl) (own_W hw 57 rfl) (own_W hw 17 rfl) (by decide) (own_rm_ix1 l Z a0 hw [] oa vb oz kz (6 : Int32) (3458764514894282753 : Int64) (0 : Int64) yp wp ya wa ([]) h0 n0 Z0 E_oa F_oa_cells V_oz (by decide) (by decide) (by decide)) 0 (by decide) (by decide) e0 E_oa rfl (by rw [hml]; rfl) [(.int 1), (.long vb)] (lenOf own_pd4 rfl) rfl (Nat.le_of_eq rfl) (hb hby d10_3) rfl (by decide) (by decide) ?_
  rintro T1 Lc1 _ X1 ⟨rfl, N1q, e1⟩
  have N1 := Fr.app N0 N1q
  show own_Fin _ _ _ _ _ _ _ (T1.setTop (mkF m 6 #[rv oa, iv 1, jv vb, sS, rv ot, uS, uS, uS, uS, uS] [(.int (own_lb1 ya vb))]))
  rw [show (own_lb1 ya vb) = (4 : Int32) from by simp only [own_lb1, if_neg qya]]
  refine own_Fin.go (fun t k => XS.istore X1.here hx rfl (hb hby d10_6) rfl (l' := #[rv oa, iv 1, jv vb, sS, rv ot, iv 4, uS, uS, uS, uS]) rfl (XS.aloadN X1.here hx rfl (hb hby d10_8) rfl rfl (XS.iloadN X1.here hx rfl (hb hby d10_9) rfl k))) ?_
  refine own_pC X1 hx hZ hown (own_W hw 58 rfl) (own_W hw 59 rfl) (own_W hw 48 rfl) rfl (own_W hw 60 rfl) (own_W hw 61 rfl) (own_W hw 17 rfl) (by decide) (own_rm_st1 l Z a0 hw [] oa oz kz (6 : Int32) (3458764514894282753 : Int64) (0 : Int64) ([(.long yp), (.long wp), (.long ya), (.long wa)]) h0 n0 Z0 E_oa F_oa_cells V_oz (by decide)) 0 (by decide) (by decide) e1 E_oa rfl (by rw [hml]; rfl) [(.int 1)] (lenOf own_pd1 rfl) rfl (Nat.le_of_eq rfl) (hb hby d10_10) rfl (by decide) (by decide) ?_
  rintro T2 Lc2 _ X2 ⟨rfl, N2q, e2⟩
  have N2 := Fr.app N1 N2q
  show own_Fin _ _ _ _ _ _ _ (T2.setTop (mkF m 13 #[rv oa, iv 1, jv vb, sS, rv ot, iv 4, uS, uS, uS, uS] [(.int (own_stb (3458764514894282753 : Int64)))]))
  rw [show (own_stb (3458764514894282753 : Int64)) = (4 : Int32) from by decide +kernel]
  refine own_Fin.go (fun t k => XS.iconst X2.here hx rfl (hb hby d10_13) (XS.aloadN X2.here hx rfl (hb hby d10_14) rfl rfl (XS.iloadN X2.here hx rfl (hb hby d10_15) rfl k))) ?_
  refine own_pC X2 hx hZ hown (own_W hw 70 rfl) (own_W hw 71 rfl) (own_W hw 48 rfl) rfl (own_W hw 72 rfl) (own_W hw 73 rfl) (own_W hw 17 rfl) (by decide) (own_rm_len1 l Z a0 hw [] oa oz kz (6 : Int32) (3458764514894282753 : Int64) (0 : Int64) ([(.long yp), (.long wp), (.long ya), (.long wa)]) h0 n0 Z0 F_oa_cells V_oz (by decide)) 2 (by decide) (by decide) e2 E_oa rfl (by rw [hml]; rfl) [(.int 1)] (lenOf own_pd1 rfl) rfl (Nat.le_of_eq rfl) (hb hby d10_16) rfl (by decide) (by decide) ?_
  rintro T3 Lc3 _ X3 ⟨rfl, N3q, e3⟩
  have N3 := Fr.app N2 N3q
  show own_Fin _ _ _ _ _ _ _ (T3.setTop (mkF m 19 #[rv oa, iv 1, jv vb, sS, rv ot, iv 4, uS, uS, uS, uS] [(.int (own_lenb (3458764514894282753 : Int64))), (.int 2), (.int 4)]))
  rw [show (own_lenb (3458764514894282753 : Int64)) = (1 : Int32) from by decide +kernel]
  refine own_Fin.go (fun t k => XS.imul X3.here hx rfl (hb hby d10_19) rfl k) ?_
  show own_Fin _ _ _ _ _ _ _ (T3.setTop (mkF m 20 #[rv oa, iv 1, jv vb, sS, rv ot, iv 4, uS, uS, uS, uS] [(.int ((2 : Int32) * (1 : Int32))), (.int 4)]))
  rw [show ((2 : Int32) * (1 : Int32)) = (2 : Int32) from by decide +kernel]
  refine own_Fin.go (fun t k => XS.iadd X3.here hx rfl (hb hby d10_20) rfl k) ?_
  show own_Fin _ _ _ _ _ _ _ (T3.setTop (mkF m 21 #[rv oa, iv 1, jv vb, sS, rv ot, iv 4, uS, uS, uS, uS] [(.int ((4 : Int32) + (2 : Int32)))]))
  rw [show ((4 : Int32) + (2 : Int32)) = (6 : Int32) from by decide +kernel]
  refine own_Fin.go (fun t k => XS.istore X3.here hx rfl (hb hby d10_21) rfl (l' := #[rv oa, iv 1, jv vb, sS, rv ot, iv 4, iv 6, uS, uS, uS]) rfl (XS.iload X3.here hx rfl (hb hby d10_23) rfl (XS.iload X3.here hx rfl (hb hby d10_25) rfl (XS.icmpNo X3.here hx rfl (hb hby d10_27) rfl (by decide) k)))) ?_
  refine own_Fin.go (fun t k => XS.aloadN X3.here hx rfl (hb hby d10_30) rfl rfl k) ?_
  refine own_gF X3 hx hZ hown (own_W hw 39 rfl) e3 F_oa_cells rfl rfl (hb hby d10_31) ?_
  intro T4 X4 e4
  show own_Fin _ _ _ _ _ _ _ (T4.setTop (mkF m 34 #[rv oa, iv 1, jv vb, sS, rv ot, iv 4, iv 6, uS, uS, uS] [(.ref oz)]))
  refine own_Fin.go (fun t k => XS.iload X4.here hx rfl (hb hby d10_34) rfl k) ?_
  refine own_lal X4 hx hZ e4 V_oz ⟨by decide, by decide⟩ (v := ya) rfl rfl rfl (hb hby d10_36) ?_
  refine own_Fin.go (fun t k => XS.lloadN X4.here hx rfl (hb hby d10_37) rfl (XS.lcmp X4.here hx rfl (hb hby d10_38) rfl k)) ?_
  have hc39 : ¬ (ya = vb) := qea
  refine own_Fin.go (fun t k => XS.ifYes X4.here hx rfl (pc0 := 39) (pc' := 45) rfl (hb hby d10_39) rfl (Jvm.Free.XT.ll_ne_t hc39) (by decide) (by decide) k) ?_
  show own_Fin _ _ _ _ _ _ _ (T4.setTop (mkF m 45 #[rv oa, iv 1, jv vb, sS, rv ot, iv 4, iv 6, uS, uS, uS] []))
  refine own_Fin.go (fun t k => XS.aloadN X4.here hx rfl (hb hby d10_45) rfl rfl k) ?_
  refine own_pC X4 hx hZ hown (own_W hw 79 rfl) (own_W hw 80 rfl) (own_W hw 48 rfl) rfl (own_W hw 81 rfl) (own_W hw 82 rfl) (own_W hw 17 rfl) (by decide) (own_rm_used l Z a0 hw [] oa oz kz (6 : Int32) (3458764514894282753 : Int64) (0 : Int64) ([(.long yp), (.long wp), (.long ya), (.long wa)]) h0 n0 Z0 E_oa F_oa_cells V_oz (by decide) (by decide)) 0 (by decide) (by decide) e4 E_oa rfl (by rw [hml]; rfl) [] (lenOf own_pd0 rfl) rfl (Nat.le_of_eq rfl) (hb hby d10_46) rfl (by decide) (by decide) ?_
  rintro T6 Lc6 _ X6 ⟨rfl, N6q, e6⟩
  have N6 := Fr.app N3 N6q
  show own_Fin _ _ _ _ _ _ _ (T6.setTop (mkF m 49 #[rv oa, iv 1, jv vb, sS, rv ot, iv 4, iv 6, uS, uS, uS] [(.int (own_std (3458764514894282753 : Int64) (0 : Int64)))]))
  rw [show (own_std (3458764514894282753 : Int64) (0 : Int64)) = (6 : Int32) from by decide +kernel]
  refine own_Fin.go (fun t k => XS.istore X6.here hx rfl (hb hby d10_49) rfl (l' := #[rv oa, iv 1, jv vb, sS, rv ot, iv 4, iv 6, iv 6, uS, uS]) rfl (XS.iload X6.here hx rfl (hb hby d10_51) rfl (XS.iconst X6.here hx rfl (hb hby d10_53) (XS.iadd X6.here hx rfl (hb hby d10_54) rfl k)))) ?_
  show own_Fin _ _ _ _ _ _ _ (T6.setTop (mkF m 55 #[rv oa, iv 1, jv vb, sS, rv ot, iv 4, iv 6, iv 6, uS, uS] [(.int ((6 : Int32) + (2 : Int32)))]))
  rw [show ((6 : Int32) + (2 : Int32)) = (8 : Int32) from by decide +kernel]
  refine own_Fin.go (fun t k => XS.aloadN X6.here hx rfl (hb hby d10_55) rfl rfl k) ?_
  refine own_gF X6 hx hZ hown (own_W hw 39 rfl) e6 F_oa_cells rfl rfl (hb hby d10_56) ?_
  intro T7 X7 e7
  obtain ⟨cl8, Ar8, -, S8, N8l, -, -⟩ := (id V_oz)
  refine own_Fin.go (fun t k => X7.arraylength hx (by rw [e7]; exact Ar8.1) (State.isArrayOf_alike hZ.alike Ar8.2.1) (g := (mkF m 59 #[rv oa, iv 1, jv vb, sS, rv ot, iv 4, iv 6, iv 6, uS, uS] [(.ref oz), (.int 8)])) rfl rfl (hb hby d10_59) t k) ?_
  rw [len_of S8 N8l]
  refine own_Fin.go (fun t k => XS.icmpNo X7.here hx rfl (hb hby d10_60) rfl (by decide) (XS.aloadN X7.here hx rfl (hb hby d10_63) rfl rfl (XS.aloadN X7.here hx rfl (hb hby d10_64) rfl rfl k))) ?_
  refine own_gF X7 hx hZ hown (own_W hw 39 rfl) e7 F_oa_cells rfl rfl (hb hby d10_65) ?_
  intro T9 X9 e9
  show own_Fin _ _ _ _ _ _ _ (T9.setTop (mkF m 68 #[rv oa, iv 1, jv vb, sS, rv ot, iv 4, iv 6, iv 6, uS, uS] [(.ref oz), (.ref oa)]))
  refine own_Fin.go (fun t k => XS.iload X9.here hx rfl (hb hby d10_68) rfl (XS.iconst X9.here hx rfl (hb hby d10_70) (XS.iadd X9.here hx rfl (hb hby d10_71) rfl k))) ?_
  show own_Fin _ _ _ _ _ _ _ (T9.setTop (mkF m 72 #[rv oa, iv 1, jv vb, sS, rv ot, iv 4, iv 6, iv 6, uS, uS] [(.int ((6 : Int32) + (2 : Int32))), (.ref oz), (.ref oa)]))
  rw [show ((6 : Int32) + (2 : Int32)) = (8 : Int32) from by decide +kernel]
  refine own_Fin.go (fun t k => XS.iload X9.here hx rfl (hb hby d10_72) rfl (XS.iconst X9.here hx rfl (hb hby d10_74) (XS.iushr X9.here hx rfl (hb hby d10_75) rfl k))) ?_
  show own_Fin _ _ _ _ _ _ _ (T9.setTop (mkF m 76 #[rv oa, iv 1, jv vb, sS, rv ot, iv 4, iv 6, iv 6, uS, uS] [(.int (((6 : Int32).toUInt32 >>> ((4 : Int32) &&& 31).toUInt32).toInt32)), (.int 8), (.ref oz), (.ref oa)]))
  rw [show (((6 : Int32).toUInt32 >>> ((4 : Int32) &&& 31).toUInt32).toInt32) = (0 : Int32) from by decide +kernel]
  refine own_Fin.go (fun t k => XS.iconst X9.here hx rfl (hb hby d10_76) (XS.ishl X9.here hx rfl (hb hby d10_77) rfl k)) ?_
  show own_Fin _ _ _ _ _ _ _ (T9.setTop (mkF m 78 #[rv oa, iv 1, jv vb, sS, rv ot, iv 4, iv 6, iv 6, uS, uS] [(.int ((0 : Int32) <<< ((1 : Int32) &&& 31))), (.int 8), (.ref oz), (.ref oa)]))
  rw [show ((0 : Int32) <<< ((1 : Int32) &&& 31)) = (0 : Int32) from by decide +kernel]
  refine own_Fin.go (fun t k => XS.iadd X9.here hx rfl (hb hby d10_78) rfl k) ?_
  show own_Fin _ _ _ _ _ _ _ (T9.setTop (mkF m 79 #[rv oa, iv 1, jv vb, sS, rv ot, iv 4, iv 6, iv 6, uS, uS] [(.int ((8 : Int32) + (0 : Int32))), (.ref oz), (.ref oa)]))
  rw [show ((8 : Int32) + (0 : Int32)) = (8 : Int32) from by decide +kernel]
  refine own_sC X9 hx hZ hown (own_W hw 83 rfl) (own_W hw 84 rfl) (own_W hw 85 rfl) (own_W hw 86 rfl) (by decide) (own_rm_cpy6 l Z a0 hw [] oz kz (3458764514894282753 : Int64) (0 : Int64) yp wp ya wa h0 n0 Z0 V_oz) 1 (by decide) (by decide) e9 rfl (by rw [hml]; rfl) [(.ref oz), (.int 8)] [(.ref oa)] (lenOf own_pd5 rfl) rfl (Nat.le_of_eq rfl) (hb hby d10_79) rfl (by decide) (by decide) ?_
  rintro T10 Lc10 _ X10 ⟨r10, kb10, rfl, N10q, K10q, c10_1, c10_2⟩
  have N10 := Fr.app N6 N10q
  have E_oa_10 := E_oa.keep K10q
  have F_oa_cells_10 := F_oa_cells.keep K10q nin0
  have F_oa_sets_10 := F_oa_sets.keep K10q nin0
  have V_oz_10 := V_oz.keep K10q nin0
  have E_ot_10 := E_ot.keep K10q
  have F_ot_buckets_10 := F_ot_buckets.keep K10q nin0
  have Z10 := Nat.le_trans Z0 K10q.1
  have K10 := K0.trans K10q all0
  have ne_oa_r10 : oa ≠ r10 := Nat.ne_of_lt (Nat.lt_of_lt_of_le F_oa_sets.lt c10_2)
  have ne_oz_r10 : oz ≠ r10 := Nat.ne_of_lt (Nat.lt_of_lt_of_le V_oz.lt c10_2)
  have ne_ot_r10 : ot ≠ r10 := Nat.ne_of_lt (Nat.lt_of_lt_of_le F_ot_buckets.lt c10_2)
  have g_r10 : n0 ≤ r10 := Nat.le_trans Z0 c10_2
  have sz_r10 : h0.size ≤ r10 := Nat.le_trans K0.1 c10_2
  obtain ⟨T11, h11, X11, e11, W11, st11⟩ := putF X10 hx hZ hown (host := "") (Or.inl (own_W hw 39 rfl)) Via.refl rfl F_oa_cells_10 E_oa_10 (Or.inl (own_W hw 40 rfl)) (own_W hw 16 rfl) (ty := (.array .long)) (by decide) rfl rfl (g := (mkF m 82 #[rv oa, iv 1, jv vb, sS, rv ot, iv 4, iv 6, iv 6, uS, uS] [(.ref r10), (.ref oa)])) rfl rfl (hb hby d10_82)
  refine own_Fin.go st11 ?_
  have F_oa_cells_11 := Fld.same W11 F_oa_cells_10
  have E_oa_11 := Exa.wr W11 E_oa_10
  have F_oa_sets_11 := Fld.other W11 F_oa_sets_10 (Or.inr (slot_ne (Or.inl (own_W hw 44 rfl)) (Or.inl (own_W hw 40 rfl)) (by decide) (t := (.array (.object "java/lang/Object"))) (t' := (.array .long)) (by decide) (by decide)))
  have V_oz_11 := Arv.other V_oz_10 W11 (Ne.symm ne_oa_oz)
  have E_ot_11 := Exa.wr W11 E_ot_10
  have F_ot_buckets_11 := Fld.other W11 F_ot_buckets_10 (Or.inl (Ne.symm ne_oa_ot))
  have V_r10_11 := Arv.other c10_1 W11 (Ne.symm ne_oa_r10)
  have Z11 := Nat.le_trans Z10 (Keep.of_wr W11).1
  have K11 := K10.wr W11 (Or.inl (List.mem_of_getElem? (i := 0) rfl))
  have N11 := Fr.snoc X11 N10 g_oa
  refine own_Fin.go (fun t k => XS.aloadN X11.here hx rfl (hb hby d10_85) rfl rfl k) ?_
  refine own_gF X11 hx hZ hown (own_W hw 39 rfl) e11 F_oa_cells_11 rfl rfl (hb hby d10_86) ?_
  intro T12 X12 e12
  refine own_Fin.go (fun t k => XS.iload X12.here hx rfl (hb hby d10_89) rfl (XS.aloadN X12.here hx rfl (hb hby d10_91) rfl rfl k)) ?_
  refine own_gF X12 hx hZ hown (own_W hw 39 rfl) e12 F_oa_cells_11 rfl rfl (hb hby d10_92) ?_
  intro T13 X13 e13
  show own_Fin _ _ _ _ _ _ _ (T13.setTop (mkF m 95 #[rv oa, iv 1, jv vb, sS, rv ot, iv 4, iv 6, iv 6, uS, uS] [(.ref r10), (.int 4), (.ref r10)]))
  refine own_Fin.go (fun t k => XS.iload X13.here hx rfl (hb hby d10_95) rfl (XS.iconst X13.here hx rfl (hb hby d10_97) (XS.iadd X13.here hx rfl (hb hby d10_98) rfl k))) ?_
  show own_Fin _ _ _ _ _ _ _ (T13.setTop (mkF m 99 #[rv oa, iv 1, jv vb, sS, rv ot, iv 4, iv 6, iv 6, uS, uS] [(.int ((4 : Int32) + (2 : Int32))), (.ref r10), (.int 4), (.ref r10)]))
  rw [show ((4 : Int32) + (2 : Int32)) = (6 : Int32) from by decide +kernel]
  refine own_Fin.go (fun t k => XS.iload X13.here hx rfl (hb hby d10_99) rfl (XS.iload X13.here hx rfl (hb hby d10_101) rfl (XS.isub X13.here hx rfl (hb hby d10_103) rfl k))) ?_
  show own_Fin _ _ _ _ _ _ _ (T13.setTop (mkF m 104 #[rv oa, iv 1, jv vb, sS, rv ot, iv 4, iv 6, iv 6, uS, uS] [(.int ((6 : Int32) - (4 : Int32))), (.int 6), (.ref r10), (.int 4), (.ref r10)]))
  rw [show ((6 : Int32) - (4 : Int32)) = (2 : Int32) from by decide +kernel]
  obtain ⟨T14, h14, L14, X14, e14, N14, K14q, V14c, st14⟩ := cpA X13 hx hZ hown (own_W hw 95 rfl) (own_W hw 94 rfl) (own_W hw 92 rfl) (own_W hw 93 rfl) e13 V_r10_11 V_r10_11 (us := [(.long ya), (.long wa)]) (Or.inl ⟨rfl, rfl⟩) (by decide) (by decide) (by decide) (by decide) (by decide) rfl (Nat.le_of_ble_eq_true rfl) N11 g_r10 (g := (mkF m 104 #[rv oa, iv 1, jv vb, sS, rv ot, iv 4, iv 6, iv 6, uS, uS] [(.int 2), (.int 6), (.ref r10), (.int 4), (.ref r10)])) rfl (by rw [hml]; rfl) rfl (hb hby d10_104) (by decide) (W := 0) (Nat.le_of_eq rfl) (by decide)
  refine own_Fin.go st14 ?_
  have V_r10_14 : Arv Z h14 r10 kb10 .long (8 : Int32) [(.long 3458764514894282753), (.long 0), (.long yp), (.long wp), (.long ya), (.long wa), (.long ya), (.long wa)] (.long 0) := V14c
  have E_oa_14 := E_oa_11.keep K14q
  have F_oa_cells_14 := F_oa_cells_11.keep K14q (ninS ne_oa_r10 nin0)
  have F_oa_sets_14 := F_oa_sets_11.keep K14q (ninS ne_oa_r10 nin0)
  have E_ot_14 := E_ot_11.keep K14q
  have F_ot_buckets_14 := F_ot_buckets_11.keep K14q (ninS ne_ot_r10 nin0)
  have Z14 := Nat.le_trans Z11 K14q.1
  have K14 := K11.trans K14q (allS (Or.inr sz_r10) all0)
  refine own_Fin.go (fun t k => XS.aloadN X14.here hx rfl (hb hby d10_107) rfl rfl k) ?_
  refine own_gF X14 hx hZ hown (own_W hw 39 rfl) e14 F_oa_cells_14 rfl rfl (hb hby d10_108) ?_
  intro T15 X15 e15
  refine own_Fin.go (fun t k => XS.iload X15.here hx rfl (hb hby d10_111) rfl (XS.lloadN X15.here hx rfl (hb hby d10_113) rfl k)) ?_
  obtain ⟨cl16, Ar16, q16, S16, N16l, H16, G16⟩ := (id V_r10_14)
  have hin16 : ¬ ((4 : Int32) < 0 ∨ cl16.slots.size ≤ ((4 : Int32)).toNatClampNeg) := inb_of S16 ⟨by decide, by decide⟩
  obtain ⟨T16, h16, X16, e16, W16, st16⟩ := stJ X15 hx hZ e15 Ar16 (j := (4 : Int32)) hin16 (g := (mkF m 114 #[rv oa, iv 1, jv vb, sS, rv ot, iv 4, iv 6, iv 6, uS, uS] [(.long vb), (.int 4), (.ref r10)])) rfl rfl (hb hby d10_114)
  refine own_Fin.go st16 ?_
  have V_r10_16 := Arv.set Ar16 q16 S16 N16l H16 G16 rfl W16 4 rfl (Nat.le_of_ble_eq_true rfl)
  replace V_r10_16 : Arv Z h16 r10 kb10 .long (8 : Int32) [(.long 3458764514894282753), (.long 0), (.long yp), (.long wp), (.long vb), (.long wa), (.long ya), (.long wa)] (.long 0) := V_r10_16
  have E_oa_16 := Exa.wr W16 E_oa_14
  have F_oa_cells_16 := Fld.other W16 F_oa_cells_14 (Or.inl ne_oa_r10)
  have F_oa_sets_16 := Fld.other W16 F_oa_sets_14 (Or.inl ne_oa_r10)
  have E_ot_16 := Exa.wr W16 E_ot_14
  have F_ot_buckets_16 := Fld.other W16 F_ot_buckets_14 (Or.inl ne_ot_r10)
  have Z16 := Nat.le_trans Z14 (Keep.of_wr W16).1
  have K16 := K14.wr W16 (Or.inr sz_r10)
  have N16 := Fr.snoc X16 N14 g_r10
  show own_Fin _ _ _ _ _ _ _ (T16.setTop (mkF m 115 #[rv oa, iv 1, jv vb, sS, rv ot, iv 4, iv 6, iv 6, uS, uS] []))
  refine own_Fin.go (fun t k => XS.aloadN X16.here hx rfl (hb hby d10_115) rfl rfl k) ?_
  refine own_gF X16 hx hZ hown (own_W hw 39 rfl) e16 F_oa_cells_16 rfl rfl (hb hby d10_116) ?_
  intro T17 X17 e17
  refine own_Fin.go (fun t k => XS.iload X17.here hx rfl (hb hby d10_119) rfl (XS.iconst X17.here hx rfl (hb hby d10_121) (XS.iadd X17.here hx rfl (hb hby d10_122) rfl k))) ?_
  show own_Fin _ _ _ _ _ _ _ (T17.setTop (mkF m 123 #[rv oa, iv 1, jv vb, sS, rv ot, iv 4, iv 6, iv 6, uS, uS] [(.int ((4 : Int32) + (1 : Int32))), (.ref r10)]))
  rw [show ((4 : Int32) + (1 : Int32)) = (5 : Int32) from by decide +kernel]
  refine own_Fin.go (fun t k => XS.lconst X17.here hx rfl (hb hby d10_123) k) ?_
  obtain ⟨cl18, Ar18, q18, S18, N18l, H18, G18⟩ := (id V_r10_16)
  have hin18 : ¬ ((5 : Int32) < 0 ∨ cl18.slots.size ≤ ((5 : Int32)).toNatClampNeg) := inb_of S18 ⟨by decide, by decide⟩
  obtain ⟨T18, h18, X18, e18, W18, st18⟩ := stJ X17 hx hZ e17 Ar18 (j := (5 : Int32)) hin18 (g := (mkF m 124 #[rv oa, iv 1, jv vb, sS, rv ot, iv 4, iv 6, iv 6, uS, uS] [(.long 0), (.int 5), (.ref r10)])) rfl rfl (hb hby d10_124)
  refine own_Fin.go st18 ?_
  have V_r10_18 := Arv.set Ar18 q18 S18 N18l H18 G18 rfl W18 5 rfl (Nat.le_of_ble_eq_true rfl)
  replace V_r10_18 : Arv Z h18 r10 kb10 .long (8 : Int32) [(.long 3458764514894282753), (.long 0), (.long yp), (.long wp), (.long vb), (.long 0), (.long ya), (.long wa)] (.long 0) := V_r10_18
  have E_oa_18 := Exa.wr W18 E_oa_16
  have F_oa_cells_18 := Fld.other W18 F_oa_cells_16 (Or.inl ne_oa_r10)
  have F_oa_sets_18 := Fld.other W18 F_oa_sets_16 (Or.inl ne_oa_r10)
  have E_ot_18 := Exa.wr W18 E_ot_16
  have F_ot_buckets_18 := Fld.other W18 F_ot_buckets_16 (Or.inl ne_ot_r10)
  have Z18 := Nat.le_trans Z16 (Keep.of_wr W18).1
  have K18 := K16.wr W18 (Or.inr sz_r10)
  have N18 := Fr.snoc X18 N16 g_r10
  refine own_Fin.go (fun t k => XS.aloadN X18.here hx rfl (hb hby d10_125) rfl rfl k) ?_
  refine own_gF X18 hx hZ hown (own_W hw 43 rfl) e18 F_oa_sets_18 rfl rfl (hb hby d10_126) ?_
  intro T19 X19 e19
  refine own_Fin.go (fun t k => XS.ifnullYes X19.here hx rfl (pc0 := 129) (pc' := 216) rfl (hb hby d10_129) rfl (by decide) (by decide) k) ?_
  show own_Fin _ _ _ _ _ _ _ (T19.setTop (mkF m 216 #[rv oa, iv 1, jv vb, sS, rv ot, iv 4, iv 6, iv 6, uS, uS] []))
  refine own_Fin.go (fun t k => XS.aloadN X19.here hx rfl (hb hby d10_216) rfl rfl (XS.iloadN X19.here hx rfl (hb hby d10_217) rfl (XS.aloadN X19.here hx rfl (hb hby d10_218) rfl rfl (XS.iloadN X19.here hx rfl (hb hby d10_219) rfl k)))) ?_
  refine own_pC X19 hx hZ hown (own_W hw 70 rfl) (own_W hw 71 rfl) (own_W hw 48 rfl) rfl (own_W hw 72 rfl) (own_W hw 73 rfl) (own_W hw 17 rfl) (by decide) (own_rm_len1 l Z a0 hw [] oa r10 kb10 (8 : Int32) (3458764514894282753 : Int64) (0 : Int64) ([(.long yp), (.long wp), (.long vb), (.long 0), (.long ya), (.long wa)]) h18 n0 Z18 F_oa_cells_18 V_r10_18 (by decide)) 2 (by decide) (by decide) e19 E_oa_18 rfl (by rw [hml]; rfl) [(.int 1)] (lenOf own_pd1 rfl) rfl (Nat.le_of_eq rfl) (hb hby d10_220) rfl (by decide) (by decide) ?_
  rintro T20 Lc20 _ X20 ⟨rfl, N20q, e20⟩
  have N20 := Fr.app N18 N20q
  show own_Fin _ _ _ _ _ _ _ (T20.setTop (mkF m 223 #[rv oa, iv 1, jv vb, sS, rv ot, iv 4, iv 6, iv 6, uS, uS] [(.int (own_lenb (3458764514894282753 : Int64))), (.int 1), (.ref oa)]))
  rw [show (own_lenb (3458764514894282753 : Int64)) = (1 : Int32) from by decide +kernel]
  refine own_Fin.go (fun t k => XS.iconst X20.here hx rfl (hb hby d10_223) (XS.iadd X20.here hx rfl (hb hby d10_224) rfl k)) ?_
  show own_Fin _ _ _ _ _ _ _ (T20.setTop (mkF m 225 #[rv oa, iv 1, jv vb, sS, rv ot, iv 4, iv 6, iv 6, uS, uS] [(.int ((1 : Int32) + (1 : Int32))), (.int 1), (.ref oa)]))
  rw [show ((1 : Int32) + (1 : Int32)) = (2 : Int32) from by decide +kernel]
  refine own_pC X20 hx hZ hown (own_W hw 96 rfl) (own_W hw 97 rfl) (own_W hw 48 rfl) rfl (own_W hw 98 rfl) (own_W hw 99 rfl) (own_W hw 17 rfl) (by decide) (own_rm_sl1 l Z a0 hw [] oa (2 : Int32) r10 kb10 (8 : Int32) (3458764514894282753 : Int64) (0 : Int64) ([(.long yp), (.long wp), (.long vb), (.long 0), (.long ya), (.long wa)]) h18 n0 Z18 F_oa_cells_18 V_r10_18 (by decide) g_r10 ne_oa_r10) 0 (by decide) (by decide) e20 E_oa_18 rfl (by rw [hml]; rfl) [(.int 1), (.int 2)] (lenOf own_pd6 rfl) rfl (Nat.le_of_eq rfl) (hb hby d10_225) rfl (by decide) (by decide) ?_
  rintro T21 Lc21 _ X21 ⟨rfl, N21q, K21q, c21_1⟩
  have N21 := Fr.app N20 N21q
  have E_oa_21 := E_oa_18.keep K21q
  have F_oa_cells_21 := F_oa_cells_18.keep K21q (ninS ne_oa_r10 nin0)
  have F_oa_sets_21 := F_oa_sets_18.keep K21q (ninS ne_oa_r10 nin0)
  have E_ot_21 := E_ot_18.keep K21q
  have F_ot_buckets_21 := F_ot_buckets_18.keep K21q (ninS ne_ot_r10 nin0)
  have Z21 := Nat.le_trans Z18 K21q.1
  have K21 := K18.trans K21q (allS (Or.inr sz_r10) all0)
  rw [show (own_slb (3458764514894282753 : Int64) (2 : Int32)) = (3458764515968024577 : Int64) from by decide +kernel] at c21_1
  refine own_Fin.go (fun t k => XS.aload X21.here hx rfl (hb hby d10_228) rfl rfl (XS.dup X21.here hx rfl (hb hby d10_230) rfl rfl k)) ?_
  refine own_gF X21 hx hZ hown (own_W hw 101 rfl) rfl F_ot_buckets_21 rfl rfl (hb hby d10_231) ?_
  intro T22 X22 e22
  refine own_Fin.go (fun t k => XS.lconst X22.here hx rfl (hb hby d10_234) (XS.ladd X22.here hx rfl (hb hby d10_235) rfl k)) ?_
  obtain ⟨T23, h23, X23, e23, W23, st23⟩ := putF X22 hx hZ hown (host := "") (Or.inl (own_W hw 101 rfl)) Via.refl e22 F_ot_buckets_21 E_ot_21 (Or.inl (own_W hw 102 rfl)) (own_W hw 7 rfl) (ty := .long) (by decide) rfl rfl (g := (mkF m 236 #[rv oa, iv 1, jv vb, sS, rv ot, iv 4, iv 6, iv 6, uS, uS] [(.long (ub + (1 : Int64))), (.ref ot)])) rfl rfl (hb hby d10_236)
  refine own_Fin.go st23 ?_
  have F_ot_buckets_23 := Fld.same W23 F_ot_buckets_21
  have E_oa_23 := Exa.wr W23 E_oa_21
  have F_oa_cells_23 := Fld.other W23 F_oa_cells_21 (Or.inl ne_oa_ot)
  have F_oa_sets_23 := Fld.other W23 F_oa_sets_21 (Or.inl ne_oa_ot)
  have E_ot_23 := Exa.wr W23 E_ot_21
  have V_r10_23 := Arv.other c21_1 W23 (Ne.symm ne_ot_r10)
  have Z23 := Nat.le_trans Z21 (Keep.of_wr W23).1
  have K23 := K21.wr W23 (Or.inl (List.mem_of_getElem? (i := 1) rfl))
  have N23 := Fr.snoc X23 N21 g_ot
  show own_Fin _ _ _ _ _ _ _ (T23.setTop (mkF m 239 #[rv oa, iv 1, jv vb, sS, rv ot, iv 4, iv 6, iv 6, uS, uS] []))
  refine own_Fin.go (fun t k => XS.iload X23.here hx rfl (hb hby d10_239) rfl k) ?_
  refine own_retI X23 hx Bd.returns (hb hby d10_241) Bd.notSynchronized (by decide) (by decide) ?_
  rw [e23]
  exact ⟨r10, kb10, rfl, N23, K23, E_oa_23, F_oa_cells_23, F_oa_sets_23, V_r10_23, E_ot_23, F_ot_buckets_23, sz_r10, ne_oa_r10, ne_ot_r10⟩
theorem own_ef_adC0n (m : MethodId) (oa : Addr) (vb : Int64) (va : Int64) (ot : Addr) : entryFrame m #[(.ref oa), (.int 1), (.long vb), (.long va), (.ref ot)] 8 = mkF m 0 #[rv oa, iv 1, jv vb, sS, jv va, sS, rv ot, uS] [] := by first | (simp [entryFrame, mkF, argsToLocals, Value.category]; done) | rfl
def own_Q_adC0n (Z : State) (oa : Addr) (vb : Int64) (va : Int64) (ot : Addr) (oz : Addr) (kz : ClassId) (yp : Int64) (wp : Int64) (ya : Int64) (wa : Int64) (ub : Int64) (h0 : Heap) (n0 : Nat) (v : Option Value) (h : Heap) (L : List Loc) : Prop := ∃ ob : Addr, ∃ kb : ClassId, v = none ∧ Fr n0 L ∧ Keep h0 h [oa, ot, oz] ∧ Exa Z h oa own_k0 ∧ Fld Z h oa own_k0 "cells" "[J" (.ref ob) ∧ Fld Z h oa own_k0 "sets" "[Ljava/lang/Object;" .null ∧ Arv Z h ob kb .long (8 : Int32) [(.long 3458764515968024577), (.long 0), (.long yp), (.long wp), (.long vb), (.long (own_sat (0 : Int64) va)), (.long ya), (.long wa)] (.long 0) ∧ Exa Z h ot own_k2 ∧ Fld Z h ot own_k2 "buckets" "J" (.long (ub + (1 : Int64))) ∧ h0.size ≤ ob ∧ oa ≠ ob ∧ ot ≠ ob
set_option maxRecDepth 65536 in
set_option maxHeartbeats 40000000 in
theorem own_rm_adC0n (l : Launch) (Z : State) (a0 : Array Value) (hw : ∀ d ∈ tables_1, d.before a0 Z = true) (ws : List Jvm.Cond) (oa : Addr) (vb : Int64) (va : Int64) (ot : Addr) (oz : Addr) (kz : ClassId) (yp : Int64) (wp : Int64) (ya : Int64) (wa : Int64) (ub : Int64) (h0 : Heap) (n0 : Nat) (Z0 : n0 ≤ h0.size) (E_oa : Exa Z h0 oa own_k0) (F_oa_cells : Fld Z h0 oa own_k0 "cells" "[J" (.ref oz)) (F_oa_sets : Fld Z h0 oa own_k0 "sets" "[Ljava/lang/Object;" .null) (V_oz : Arv Z h0 oz kz .long (6 : Int32) [(.long 3458764514894282753), (.long 0), (.long yp), (.long wp), (.long ya), (.long wa)] (.long 0)) (E_ot : Exa Z h0 ot own_k2) (F_ot_buckets : Fld Z h0 ot own_k2 "buckets" "J" (.long ub)) (g_oa : n0 ≤ oa) (g_oz : n0 ≤ oz) (g_ot : n0 ≤ ot) (ne_oa_ot : oa ≠ ot) (ne_oa_oz : oa ≠ oz) (ne_ot_oz : ot ≠ oz) (qya : ¬ ya < vb) (qea : ¬ ya = vb) :
    MetFree l own_y17 (head1 (Jvm.Cond.code own_y17 prog_4_method_4_code 8 none :: ws) ({ frames := 5, cells := 1, slots := 8, locals := 76 } : Room)) (fun a U => a = #[(.ref oa), (.int 1), (.long vb), (.long va), (.ref ot)] ∧ Z.Warmed39 U.vm ∧ U.heap = h0) (fun _ _ _ _ _ => True) (fun _ U o U' => ∃ v L, o = .returned v ∧ own_Q_adC0n Z oa vb va ot oz kz yp wp ya wa ub h0 n0 v U'.heap L ∧ FrameEnd U o U' L ({ frames := 5, cells := 1, slots := 8, locals := 76 } : Room).cells ({ frames := 5, cells := 1, slots := 8, locals := 76 } : Room).slots) := by
  refine MetFree.of_bodySF (plainFor_of_name own_pn0) hisR ?_
  intro p e s m args below meth c s₁ Bd hml0 hP hK
  obtain ⟨rfl, hZ, hh⟩ := hP
  have hx := Bd.exec
  have hby := Bd.bytes
  have hml : c.maxLocals = 8 := hml0
  have hown : s.vm.findClass own_k0 = some m.cls := findClass_of_methodNamed Bd.named
  have hnm := (name_of_methodNamed Bd.named Bd.method).1
  have X0 : Stand p l e ({ frames := 5, cells := 1, slots := 8, locals := 76 } : Room) s m #[(.ref oa), (.int 1), (.long vb), (.long va), (.ref ot)] below meth c s₁ [] 0 0 := Stand.of_body Bd
  have e0 : s₁.heap = h0 := by rw [← hh, Bd.state]; rfl
  have N0 := Fr.nil n0
  have K0 := Keep.refl h0 [oa, ot, oz]
  show own_Fin p e below s (own_Q_adC0n Z oa vb va ot oz kz yp wp ya wa ub h0 n0) ({ frames := 5, cells := 1, slots := 8, locals := 76 } : Room).cells ({ frames := 5, cells := 1, slots := 8, locals := 76 } : Room).slots (s₁.setTop (entryFrame m #[(.ref oa), (.int 1), (.long vb), (.long va), (.ref ot)] 8))
  refine own_Fin.go (fun t k => castTop (own_ef_adC0n m oa vb va ot) k) ?_
  refine own_Fin.go (fun t k => XS.aloadN X0.here hx rfl (hb hby d1_0) rfl rfl (XS.iloadN X0.here hx rfl (hb hby d1_1) rfl (XS.lloadN X0.here hx rfl (hb hby d1_2) rfl (XS.aload X0.here hx rfl (hb hby d1_3) rfl rfl k)))) ?_
  show own_Fin _ _ _ _ _ _ _ (s₁.setTop (mkF m 5 #[rv oa, iv 1, jv vb, sS, jv va, sS, rv ot, uS] [(.ref ot), (.long vb), (.int 1), (.ref oa)]))
  refine own_pC X0 hx hZ hown (own_W hw 50 rfl) (own_W hw 51 rfl) (own_W hw 48 rfl) rfl (own_W hw 52 rfl) (own_W hw 53 rfl) (own_W hw 17 rfl) (by decide) (own_rm_soC0n l Z a0 hw [] oa vb ot oz kz yp wp ya wa ub h0 n0 Z0 E_oa F_oa_cells F_oa_sets V_oz E_ot F_ot_buckets g_oa g_oz g_ot ne_oa_ot ne_oa_oz ne_ot_oz (by assumption) (by assumption)) 0 (by decide) (by decide) e0 E_oa rfl (by rw [hml]; rfl) [(.int 1), (.long vb), (.ref ot)] (lenOf own_pd7 rfl) rfl (Nat.le_of_eq rfl) (hb hby d1_5) rfl (by decide) (by decide) ?_
  rintro T1 Lc1 _ X1 ⟨ob1, kb1, rfl, N1q, K1q, c1_1, c1_2, c1_3, c1_4, c1_5, c1_6, c1_7, c1_8, c1_9⟩
  have N1 := Fr.app N0 N1q
  have Z1 := Nat.le_trans Z0 K1q.1
  have K1 := K0.trans K1q (allS (Or.inl (List.mem_of_getElem? (i := 0) rfl)) (allS (Or.inl (List.mem_of_getElem? (i := 1) rfl)) (allS (Or.inl (List.mem_of_getElem? (i := 2) rfl)) all0)))
  have ne_oa_ob1 : oa ≠ ob1 := Nat.ne_of_lt (Nat.lt_of_lt_of_le F_oa_sets.lt c1_7)
  have ne_oz_ob1 : oz ≠ ob1 := Nat.ne_of_lt (Nat.lt_of_lt_of_le V_oz.lt c1_7)
  have ne_ot_ob1 : ot ≠ ob1 := Nat.ne_of_lt (Nat.lt_of_lt_of_le F_ot_buckets.lt c1_7)
  have g_ob1 : n0 ≤ ob1 := Nat.le_trans Z0 c1_7
  have sz_ob1 : h0.size ≤ ob1 := Nat.le_trans K0.1 c1_7
  refine own_Fin.go (fun t k => XS.istore X1.here hx rfl (hb hby d1_8) rfl (l' := #[rv oa, iv 1, jv vb, sS, jv va, sS, rv ot, iv 4]) rfl (XS.aloadN X1.here hx rfl (hb hby d1_10) rfl rfl k)) ?_
  refine own_gF X1 hx hZ hown (own_W hw 39 rfl) rfl c1_2 rfl rfl (hb hby d1_11) ?_
  intro T2 X2 e2
  refine own_Fin.go (fun t k => XS.iload X2.here hx rfl (hb hby d1_14) rfl k) ?_
  show own_Fin _ _ _ _ _ _ _ (T2.setTop (mkF m 16 #[rv oa, iv 1, jv vb, sS, jv va, sS, rv ot, iv 4] [(.int 4), (.ref ob1)]))
  refine own_Fin.go (fun t k => XS.iconst X2.here hx rfl (hb hby d1_16) (XS.iadd X2.here hx rfl (hb hby d1_17) rfl k)) ?_
  show own_Fin _ _ _ _ _ _ _ (T2.setTop (mkF m 18 #[rv oa, iv 1, jv vb, sS, jv va, sS, rv ot, iv 4] [(.int ((4 : Int32) + (1 : Int32))), (.ref ob1)]))
  rw [show ((4 : Int32) + (1 : Int32)) = (5 : Int32) from by decide +kernel]
  refine own_Fin.go (fun t k => XS.aloadN X2.here hx rfl (hb hby d1_18) rfl rfl k) ?_
  refine own_gF X2 hx hZ hown (own_W hw 39 rfl) e2 c1_2 rfl rfl (hb hby d1_19) ?_
  intro T3 X3 e3
  refine own_Fin.go (fun t k => XS.iload X3.here hx rfl (hb hby d1_22) rfl (XS.iconst X3.here hx rfl (hb hby d1_24) (XS.iadd X3.here hx rfl (hb hby d1_25) rfl k))) ?_
  show own_Fin _ _ _ _ _ _ _ (T3.setTop (mkF m 26 #[rv oa, iv 1, jv vb, sS, jv va, sS, rv ot, iv 4] [(.int ((4 : Int32) + (1 : Int32))), (.ref ob1), (.int 5), (.ref ob1)]))
  rw [show ((4 : Int32) + (1 : Int32)) = (5 : Int32) from by decide +kernel]
  refine own_lal X3 hx hZ e3 c1_4 ⟨by decide, by decide⟩ (v := (0 : Int64)) rfl rfl rfl (hb hby d1_26) ?_
  refine own_Fin.go (fun t k => XS.lload X3.here hx rfl (hb hby d1_27) rfl k) ?_
  refine own_sC X3 hx hZ hown (own_W hw 103 rfl) (own_W hw 104 rfl) (own_W hw 17 rfl) (own_W hw 105 rfl) (by decide) (own_rm_sat l Z a0 hw [] (0 : Int64) va  T1.heap n0 Z1 ) 2 (by decide) (by decide) e3 rfl (by rw [hml]; rfl) [(.long 0), (.long va)] [(.int 5), (.ref ob1)] (lenOf own_pd8 rfl) rfl (Nat.le_of_eq rfl) (hb hby d1_29) rfl (by decide) (by decide) ?_
  rintro T5 Lc5 _ X5 ⟨rfl, N5q, e5⟩
  have N5 := Fr.app N1 N5q
  obtain ⟨cl6, Ar6, q6, S6, N6l, H6, G6⟩ := (id c1_4)
  have hin6 : ¬ ((5 : Int32) < 0 ∨ cl6.slots.size ≤ ((5 : Int32)).toNatClampNeg) := inb_of S6 ⟨by decide, by decide⟩
  obtain ⟨T6, h6, X6, e6, W6, st6⟩ := stJ X5 hx hZ e5 Ar6 (j := (5 : Int32)) hin6 (g := (mkF m 32 #[rv oa, iv 1, jv vb, sS, jv va, sS, rv ot, iv 4] [(.long (own_sat (0 : Int64) va)), (.int 5), (.ref ob1)])) rfl rfl (hb hby d1_32)
  refine own_Fin.go st6 ?_
  have V_ob1_6 := Arv.set Ar6 q6 S6 N6l H6 G6 rfl W6 5 rfl (Nat.le_of_ble_eq_true rfl)
  replace V_ob1_6 : Arv Z h6 ob1 kb1 .long (8 : Int32) [(.long 3458764515968024577), (.long 0), (.long yp), (.long wp), (.long vb), (.long (own_sat (0 : Int64) va)), (.long ya), (.long wa)] (.long 0) := V_ob1_6
  have E_oa_6 := Exa.wr W6 c1_1
  have F_oa_cells_6 := Fld.other W6 c1_2 (Or.inl c1_8)
  have F_oa_sets_6 := Fld.other W6 c1_3 (Or.inl c1_8)
  have E_ot_6 := Exa.wr W6 c1_5
  have F_ot_buckets_6 := Fld.other W6 c1_6 (Or.inl c1_9)
  have Z6 := Nat.le_trans Z1 (Keep.of_wr W6).1
  have K6 := K1.wr W6 (Or.inr sz_ob1)
  have N6 := Fr.snoc X6 N5 g_ob1
  show own_Fin _ _ _ _ _ _ _ (T6.setTop (mkF m 33 #[rv oa, iv 1, jv vb, sS, jv va, sS, rv ot, iv 4] []))
  refine own_ret0 X6 hx Bd.returns (hb hby d1_33) Bd.notSynchronized (by decide) (by decide) ?_
  rw [e6]
  exact ⟨ob1, kb1, rfl, N6, K6, E_oa_6, F_oa_cells_6, F_oa_sets_6, V_ob1_6, E_ot_6, F_ot_buckets_6, sz_ob1, c1_8, c1_9⟩
theorem own_ef_soC1n (m : MethodId) (oa : Addr) (vb : Int64) (ot : Addr) : entryFrame m #[(.ref oa), (.int 1), (.long vb), (.ref ot)] 10 = mkF m 0 #[rv oa, iv 1, jv vb, sS, rv ot, uS, uS, uS, uS, uS] [] := by first | (simp [entryFrame, mkF, argsToLocals, Value.category]; done) | rfl
def own_Q_soC1n (Z : State) (oa : Addr) (vb : Int64) (ot : Addr) (oz : Addr) (kz : ClassId) (yp : Int64) (wp : Int64) (ya : Int64) (wa : Int64) (ub : Int64) (h0 : Heap) (n0 : Nat) (v : Option Value) (h : Heap) (L : List Loc) : Prop := ∃ ob : Addr, ∃ kb : ClassId, v = some (.int 6) ∧ Fr n0 L ∧ Keep h0 h [oa, ot, oz] ∧ Exa Z h oa own_k0 ∧ Fld Z h oa own_k0 "cells" "[J" (.ref ob) ∧ Fld Z h oa own_k0 "sets" "[Ljava/lang/Object;" .null ∧ Arv Z h ob kb .long (8 : Int32) [(.long 3458764515968024577), (.long 0), (.long yp), (.long wp), (.long ya), (.long wa), (.long vb), (.long 0)] (.long 0) ∧ Exa Z h ot own_k2 ∧ Fld Z h ot own_k2 "buckets" "J" (.long (ub + (1 : Int64))) ∧ h0.size ≤ ob ∧ oa ≠ ob ∧ ot ≠ ob
set_option maxRecDepth 65536 in
set_option maxHeartbeats 40000000 in
theorem own_rm_soC1n (l : Launch) (Z : State) (a0 : Array Value) (hw : ∀ d ∈ tables_1, d.before a0 Z = true) (ws : List Jvm.Cond) (oa : Addr) (vb : Int64) (ot : Addr) (oz : Addr) (kz : ClassId) (yp : Int64) (wp : Int64) (ya : Int64) (wa : Int64) (ub : Int64) (h0 : Heap) (n0 : Nat) (Z0 : n0 ≤ h0.size) (E_oa : Exa Z h0 oa own_k0) (F_oa_cells : Fld Z h0 oa own_k0 "cells" "[J" (.ref oz)) (F_oa_sets : Fld Z h0 oa own_k0 "sets" "[Ljava/lang/Object;" .null) (V_oz : Arv Z h0 oz kz .long (6 : Int32) [(.long 3458764514894282753), (.long 0), (.long yp), (.long wp), (.long ya), (.long wa)] (.long 0)) (E_ot : Exa Z h0 ot own_k2) (F_ot_buckets : Fld Z h0 ot own_k2 "buckets" "J" (.long ub)) (g_oa : n0 ≤ oa) (g_oz : n0 ≤ oz) (g_ot : n0 ≤ ot) (ne_oa_ot : oa ≠ ot) (ne_oa_oz : oa ≠ oz) (ne_ot_oz : ot ≠ oz) (qya : ya < vb) :
    MetFree l own_y16 (head1 (Jvm.Cond.code own_y16 prog_4_method_10_code 10 (some .int) :: ws) ({ frames := 4, cells := 1, slots := 8, locals := 55 } : Room)) (fun a U => a = #[(.ref oa), (.int 1), (.long vb), (.ref ot)] ∧ Z.Warmed39 U.vm ∧ U.heap = h0) (fun _ _ _ _ _ => True) (fun _ U o U' => ∃ v L, o = .returned v ∧ own_Q_soC1n Z oa vb ot oz kz yp wp ya wa ub h0 n0 v U'.heap L ∧ FrameEnd U o U' L ({ frames := 4, cells := 1, slots := 8, locals := 55 } : Room).cells ({ frames := 4, cells := 1, slots := 8, locals := 55 } : Room).slots) := by
  refine MetFree.of_bodySF (plainFor_of_name own_pn0) hisR ?_
  intro p e s m args below meth c s₁ Bd hml0 hP hK
  obtain ⟨rfl, hZ, hh⟩ := hP
  have hx := Bd.exec
  have hby := Bd.bytes
  have hml : c.maxLocals = 10 := hml0
  have hown : s.vm.findClass own_k0 = some m.cls := findClass_of_methodNamed Bd.named
  have hnm := (name_of_methodNamed Bd.named Bd.method).1
  have X0 : Stand p l e ({ frames := 4, cells := 1, slots := 8, locals := 55 } : Room) s m #[(.ref oa), (.int 1), (.long vb), (.ref ot)] below meth c s₁ [] 0 0 := Stand.of_body Bd
  have e0 : s₁.heap = h0 := by rw [← hh, Bd.state]; rfl
  have N0 := Fr.nil n0
  have K0 := Keep.refl h0 [oa, ot, oz]
  show own_Fin p e below s (own_Q_soC1n Z oa vb ot oz kz yp wp ya wa ub h0 n0) ({ frames := 4, cells := 1, slots := 8, locals := 55 } : Room).cells ({ frames := 4, cells := 1, slots := 8, locals := 55 } : Room).slots (s₁.setTop (entryFrame m #[(.ref oa), (.int 1), (.long vb), (.ref ot)] 10))
  refine own_Fin.go (fun t k => castTop (own_ef_soC1n m oa vb ot) k) ?_
  refine own_Fin.go (fun t k => XS.aloadN X0.here hx rfl (hb hby d10_0) rfl rfl (XS.iloadN X0.here hx rfl (hb hby d10_1) rfl (XS.lloadN X0.here hx rfl (hb hby d10_2) rfl k))) ?_
  refine own_pC X0 hx hZ hown (own_W hw 54 rfl) (own_W hw 55 rfl) (own_W hw 48 rfl) rfl (own_W hw 56 rfl) (own_W hw 57 rfl) (own_W hw 17 rfl) (by decide) (own_rm_ix1 l Z a0 hw [] oa vb oz kz (6 : Int32) (3458764514894282753 : Int64) (0 : Int64) yp wp ya wa ([]) h0 n0 Z0 E_oa F_oa_cells V_oz (by decide) (by decide) (by decide)) 0 (by decide) (by decide) e0 E_oa rfl (by rw [hml]; rfl) [(.int 1), (.long vb)] (lenOf own_pd4 rfl) rfl (Nat.le_of_eq rfl) (hb hby d10_3) rfl (by decide) (by decide) ?_
  rintro T1 Lc1 _ X1 ⟨rfl, N1q, e1⟩
  have N1 := Fr.app N0 N1q
  show own_Fin _ _ _ _ _ _ _ (T1.setTop (mkF m 6 #[rv oa, iv 1, jv vb, sS, rv ot, uS, uS, uS, uS, uS] [(.int (own_lb1 ya vb))]))
  rw [show (own_lb1 ya vb) = (6 : Int32) from by simp only [own_lb1, if_pos qya]]
  refine own_Fin.go (fun t k => XS.istore X1.here hx rfl (hb hby d10_6) rfl (l' := #[rv oa, iv 1, jv vb, sS, rv ot, iv 6, uS, uS, uS, uS]) rfl (XS.aloadN X1.here hx rfl (hb hby d10_8) rfl rfl (XS.iloadN X1.here hx rfl (hb hby d10_9) rfl k))) ?_
  refine own_pC X1 hx hZ hown (own_W hw 58 rfl) (own_W hw 59 rfl) (own_W hw 48 rfl) rfl (own_W hw 60 rfl) (own_W hw 61 rfl) (own_W hw 17 rfl) (by decide) (own_rm_st1 l Z a0 hw [] oa oz kz (6 : Int32) (3458764514894282753 : Int64) (0 : Int64) ([(.long yp), (.long wp), (.long ya), (.long wa)]) h0 n0 Z0 E_oa F_oa_cells V_oz (by decide)) 0 (by decide) (by decide) e1 E_oa rfl (by rw [hml]; rfl) [(.int 1)] (lenOf own_pd1 rfl) rfl (Nat.le_of_eq rfl) (hb hby d10_10) rfl (by decide) (by decide) ?_
  rintro T2 Lc2 _ X2 ⟨rfl, N2q, e2⟩
  have N2 := Fr.app N1 N2q
  show own_Fin _ _ _ _ _ _ _ (T2.setTop (mkF m 13 #[rv oa, iv 1, jv vb, sS, rv ot, iv 6, uS, uS, uS, uS] [(.int (own_stb (3458764514894282753 : Int64)))]))
  rw [show (own_stb (3458764514894282753 : Int64)) = (4 : Int32) from by decide +kernel]
  refine own_Fin.go (fun t k => XS.iconst X2.here hx rfl (hb hby d10_13) (XS.aloadN X2.here hx rfl (hb hby d10_14) rfl rfl (XS.iloadN X2.here hx rfl (hb hby d10_15) rfl k))) ?_
  refine own_pC X2 hx hZ hown (own_W hw 70 rfl) (own_W hw 71 rfl) (own_W hw 48 rfl) rfl (own_W hw 72 rfl) (own_W hw 73 rfl) (own_W hw 17 rfl) (by decide) (own_rm_len1 l Z a0 hw [] oa oz kz (6 : Int32) (3458764514894282753 : Int64) (0 : Int64) ([(.long yp), (.long wp), (.long ya), (.long wa)]) h0 n0 Z0 F_oa_cells V_oz (by decide)) 2 (by decide) (by decide) e2 E_oa rfl (by rw [hml]; rfl) [(.int 1)] (lenOf own_pd1 rfl) rfl (Nat.le_of_eq rfl) (hb hby d10_16) rfl (by decide) (by decide) ?_
  rintro T3 Lc3 _ X3 ⟨rfl, N3q, e3⟩
  have N3 := Fr.app N2 N3q
  show own_Fin _ _ _ _ _ _ _ (T3.setTop (mkF m 19 #[rv oa, iv 1, jv vb, sS, rv ot, iv 6, uS, uS, uS, uS] [(.int (own_lenb (3458764514894282753 : Int64))), (.int 2), (.int 4)]))
  rw [show (own_lenb (3458764514894282753 : Int64)) = (1 : Int32) from by decide +kernel]
  refine own_Fin.go (fun t k => XS.imul X3.here hx rfl (hb hby d10_19) rfl k) ?_
  show own_Fin _ _ _ _ _ _ _ (T3.setTop (mkF m 20 #[rv oa, iv 1, jv vb, sS, rv ot, iv 6, uS, uS, uS, uS] [(.int ((2 : Int32) * (1 : Int32))), (.int 4)]))
  rw [show ((2 : Int32) * (1 : Int32)) = (2 : Int32) from by decide +kernel]
  refine own_Fin.go (fun t k => XS.iadd X3.here hx rfl (hb hby d10_20) rfl k) ?_
  show own_Fin _ _ _ _ _ _ _ (T3.setTop (mkF m 21 #[rv oa, iv 1, jv vb, sS, rv ot, iv 6, uS, uS, uS, uS] [(.int ((4 : Int32) + (2 : Int32)))]))
  rw [show ((4 : Int32) + (2 : Int32)) = (6 : Int32) from by decide +kernel]
  refine own_Fin.go (fun t k => XS.istore X3.here hx rfl (hb hby d10_21) rfl (l' := #[rv oa, iv 1, jv vb, sS, rv ot, iv 6, iv 6, uS, uS, uS]) rfl (XS.iload X3.here hx rfl (hb hby d10_23) rfl (XS.iload X3.here hx rfl (hb hby d10_25) rfl (XS.icmpYes X3.here hx rfl (pc0 := 27) (pc' := 45) rfl (hb hby d10_27) rfl (by decide) (by decide) (by decide) k)))) ?_
  refine own_Fin.go (fun t k => XS.aloadN X3.here hx rfl (hb hby d10_45) rfl rfl k) ?_
  refine own_pC X3 hx hZ hown (own_W hw 79 rfl) (own_W hw 80 rfl) (own_W hw 48 rfl) rfl (own_W hw 81 rfl) (own_W hw 82 rfl) (own_W hw 17 rfl) (by decide) (own_rm_used l Z a0 hw [] oa oz kz (6 : Int32) (3458764514894282753 : Int64) (0 : Int64) ([(.long yp), (.long wp), (.long ya), (.long wa)]) h0 n0 Z0 E_oa F_oa_cells V_oz (by decide) (by decide)) 0 (by decide) (by decide) e3 E_oa rfl (by rw [hml]; rfl) [] (lenOf own_pd0 rfl) rfl (Nat.le_of_eq rfl) (hb hby d10_46) rfl (by decide) (by decide) ?_
  rintro T4 Lc4 _ X4 ⟨rfl, N4q, e4⟩
  have N4 := Fr.app N3 N4q
  show own_Fin _ _ _ _ _ _ _ (T4.setTop (mkF m 49 #[rv oa, iv 1, jv vb, sS, rv ot, iv 6, iv 6, uS, uS, uS] [(.int (own_std (3458764514894282753 : Int64) (0 : Int64)))]))
  rw [show (own_std (3458764514894282753 : Int64) (0 : Int64)) = (6 : Int32) from by decide +kernel]
  refine own_Fin.go (fun t k => XS.istore X4.here hx rfl (hb hby d10_49) rfl (l' := #[rv oa, iv 1, jv vb, sS, rv ot, iv 6, iv 6, iv 6, uS, uS]) rfl (XS.iload X4.here hx rfl (hb hby d10_51) rfl (XS.iconst X4.here hx rfl (hb hby d10_53) (XS.iadd X4.here hx rfl (hb hby d10_54) rfl k)))) ?_
  show own_Fin _ _ _ _ _ _ _ (T4.setTop (mkF m 55 #[rv oa, iv 1, jv vb, sS, rv ot, iv 6, iv 6, iv 6, uS, uS] [(.int ((6 : Int32) + (2 : Int32)))]))
  rw [show ((6 : Int32) + (2 : Int32)) = (8 : Int32) from by decide +kernel]
  refine own_Fin.go (fun t k => XS.aloadN X4.here hx rfl (hb hby d10_55) rfl rfl k) ?_
  refine own_gF X4 hx hZ hown (own_W hw 39 rfl) e4 F_oa_cells rfl rfl (hb hby d10_56) ?_
  intro T5 X5 e5
  obtain ⟨cl6, Ar6, -, S6, N6l, -, -⟩ := (id V_oz)
  refine own_Fin.go (fun t k => X5.arraylength hx (by rw [e5]; exact Ar6.1) (State.isArrayOf_alike hZ.alike Ar6.2.1) (g := (mkF m 59 #[rv oa, iv 1, jv vb, sS, rv ot, iv 6, iv 6, iv 6, uS, uS] [(.ref oz), (.int 8)])) rfl rfl (hb hby d10_59) t k) ?_
  rw [len_of S6 N6l]
  refine own_Fin.go (fun t k => XS.icmpNo X5.here hx rfl (hb hby d10_60) rfl (by decide) (XS.aloadN X5.here hx rfl (hb hby d10_63) rfl rfl (XS.aloadN X5.here hx rfl (hb hby d10_64) rfl rfl k))) ?_
  refine own_gF X5 hx hZ hown (own_W hw 39 rfl) e5 F_oa_cells rfl rfl (hb hby d10_65) ?_
  intro T7 X7 e7
  show own_Fin _ _ _ _ _ _ _ (T7.setTop (mkF m 68 #[rv oa, iv 1, jv vb, sS, rv ot, iv 6, iv 6, iv 6, uS, uS] [(.ref oz), (.ref oa)]))
  refine own_Fin.go (fun t k => XS.iload X7.here hx rfl (hb hby d10_68) rfl (XS.iconst X7.here hx rfl (hb hby d10_70) (XS.iadd X7.here hx rfl (hb hby d10_71) rfl k))) ?_
  show own_Fin _ _ _ _ _ _ _ (T7.setTop (mkF m 72 #[rv oa, iv 1, jv vb, sS, rv ot, iv 6, iv 6, iv 6, uS, uS] [(.int ((6 : Int32) + (2 : Int32))), (.ref oz), (.ref oa)]))
  rw [show ((6 : Int32) + (2 : Int32)) = (8 : Int32) from by decide +kernel]
  refine own_Fin.go (fun t k => XS.iload X7.here hx rfl (hb hby d10_72) rfl (XS.iconst X7.here hx rfl (hb hby d10_74) (XS.iushr X7.here hx rfl (hb hby d10_75) rfl k))) ?_
  show own_Fin _ _ _ _ _ _ _ (T7.setTop (mkF m 76 #[rv oa, iv 1, jv vb, sS, rv ot, iv 6, iv 6, iv 6, uS, uS] [(.int (((6 : Int32).toUInt32 >>> ((4 : Int32) &&& 31).toUInt32).toInt32)), (.int 8), (.ref oz), (.ref oa)]))
  rw [show (((6 : Int32).toUInt32 >>> ((4 : Int32) &&& 31).toUInt32).toInt32) = (0 : Int32) from by decide +kernel]
  refine own_Fin.go (fun t k => XS.iconst X7.here hx rfl (hb hby d10_76) (XS.ishl X7.here hx rfl (hb hby d10_77) rfl k)) ?_
  show own_Fin _ _ _ _ _ _ _ (T7.setTop (mkF m 78 #[rv oa, iv 1, jv vb, sS, rv ot, iv 6, iv 6, iv 6, uS, uS] [(.int ((0 : Int32) <<< ((1 : Int32) &&& 31))), (.int 8), (.ref oz), (.ref oa)]))
  rw [show ((0 : Int32) <<< ((1 : Int32) &&& 31)) = (0 : Int32) from by decide +kernel]
  refine own_Fin.go (fun t k => XS.iadd X7.here hx rfl (hb hby d10_78) rfl k) ?_
  show own_Fin _ _ _ _ _ _ _ (T7.setTop (mkF m 79 #[rv oa, iv 1, jv vb, sS, rv ot, iv 6, iv 6, iv 6, uS, uS] [(.int ((8 : Int32) + (0 : Int32))), (.ref oz), (.ref oa)]))
  rw [show ((8 : Int32) + (0 : Int32)) = (8 : Int32) from by decide +kernel]
  refine own_sC X7 hx hZ hown (own_W hw 83 rfl) (own_W hw 84 rfl) (own_W hw 85 rfl) (own_W hw 86 rfl) (by decide) (own_rm_cpy6 l Z a0 hw [] oz kz (3458764514894282753 : Int64) (0 : Int64) yp wp ya wa h0 n0 Z0 V_oz) 1 (by decide) (by decide) e7 rfl (by rw [hml]; rfl) [(.ref oz), (.int 8)] [(.ref oa)] (lenOf own_pd5 rfl) rfl (Nat.le_of_eq rfl) (hb hby d10_79) rfl (by decide) (by decide) ?_
  rintro T8 Lc8 _ X8 ⟨r8, kb8, rfl, N8q, K8q, c8_1, c8_2⟩
  have N8 := Fr.app N4 N8q
  have E_oa_8 := E_oa.keep K8q
  have F_oa_cells_8 := F_oa_cells.keep K8q nin0
  have F_oa_sets_8 := F_oa_sets.keep K8q nin0
  have V_oz_8 := V_oz.keep K8q nin0
  have E_ot_8 := E_ot.keep K8q
  have F_ot_buckets_8 := F_ot_buckets.keep K8q nin0
  have Z8 := Nat.le_trans Z0 K8q.1
  have K8 := K0.trans K8q all0
  have ne_oa_r8 : oa ≠ r8 := Nat.ne_of_lt (Nat.lt_of_lt_of_le F_oa_sets.lt c8_2)
  have ne_oz_r8 : oz ≠ r8 := Nat.ne_of_lt (Nat.lt_of_lt_of_le V_oz.lt c8_2)
  have ne_ot_r8 : ot ≠ r8 := Nat.ne_of_lt (Nat.lt_of_lt_of_le F_ot_buckets.lt c8_2)
  have g_r8 : n0 ≤ r8 := Nat.le_trans Z0 c8_2
  have sz_r8 : h0.size ≤ r8 := Nat.le_trans K0.1 c8_2
  obtain ⟨T9, h9, X9, e9, W9, st9⟩ := putF X8 hx hZ hown (host := "") (Or.inl (own_W hw 39 rfl)) Via.refl rfl F_oa_cells_8 E_oa_8 (Or.inl (own_W hw 40 rfl)) (own_W hw 16 rfl) (ty := (.array .long)) (by decide) rfl rfl (g := (mkF m 82 #[rv oa, iv 1, jv vb, sS, rv ot, iv 6, iv 6, iv 6, uS, uS] [(.ref r8), (.ref oa)])) rfl rfl (hb hby d10_82)
  refine own_Fin.go st9 ?_
  have F_oa_cells_9 := Fld.same W9 F_oa_cells_8
  have E_oa_9 := Exa.wr W9 E_oa_8
  have F_oa_sets_9 := Fld.other W9 F_oa_sets_8 (Or.inr (slot_ne (Or.inl (own_W hw 44 rfl)) (Or.inl (own_W hw 40 rfl)) (by decide) (t := (.array (.object "java/lang/Object"))) (t' := (.array .long)) (by decide) (by decide)))
  have V_oz_9 := Arv.other V_oz_8 W9 (Ne.symm ne_oa_oz)
  have E_ot_9 := Exa.wr W9 E_ot_8
  have F_ot_buckets_9 := Fld.other W9 F_ot_buckets_8 (Or.inl (Ne.symm ne_oa_ot))
  have V_r8_9 := Arv.other c8_1 W9 (Ne.symm ne_oa_r8)
  have Z9 := Nat.le_trans Z8 (Keep.of_wr W9).1
  have K9 := K8.wr W9 (Or.inl (List.mem_of_getElem? (i := 0) rfl))
  have N9 := Fr.snoc X9 N8 g_oa
  refine own_Fin.go (fun t k => XS.aloadN X9.here hx rfl (hb hby d10_85) rfl rfl k) ?_
  refine own_gF X9 hx hZ hown (own_W hw 39 rfl) e9 F_oa_cells_9 rfl rfl (hb hby d10_86) ?_
  intro T10 X10 e10
  refine own_Fin.go (fun t k => XS.iload X10.here hx rfl (hb hby d10_89) rfl (XS.aloadN X10.here hx rfl (hb hby d10_91) rfl rfl k)) ?_
  refine own_gF X10 hx hZ hown (own_W hw 39 rfl) e10 F_oa_cells_9 rfl rfl (hb hby d10_92) ?_
  intro T11 X11 e11
  show own_Fin _ _ _ _ _ _ _ (T11.setTop (mkF m 95 #[rv oa, iv 1, jv vb, sS, rv ot, iv 6, iv 6, iv 6, uS, uS] [(.ref r8), (.int 6), (.ref r8)]))
  refine own_Fin.go (fun t k => XS.iload X11.here hx rfl (hb hby d10_95) rfl (XS.iconst X11.here hx rfl (hb hby d10_97) (XS.iadd X11.here hx rfl (hb hby d10_98) rfl k))) ?_
  show own_Fin _ _ _ _ _ _ _ (T11.setTop (mkF m 99 #[rv oa, iv 1, jv vb, sS, rv ot, iv 6, iv 6, iv 6, uS, uS] [(.int ((6 : Int32) + (2 : Int32))), (.ref r8), (.int 6), (.ref r8)]))
  rw [show ((6 : Int32) + (2 : Int32)) = (8 : Int32) from by decide +kernel]
  refine own_Fin.go (fun t k => XS.iload X11.here hx rfl (hb hby d10_99) rfl (XS.iload X11.here hx rfl (hb hby d10_101) rfl (XS.isub X11.here hx rfl (hb hby d10_103) rfl k))) ?_
  show own_Fin _ _ _ _ _ _ _ (T11.setTop (mkF m 104 #[rv oa, iv 1, jv vb, sS, rv ot, iv 6, iv 6, iv 6, uS, uS] [(.int ((6 : Int32) - (6 : Int32))), (.int 8), (.ref r8), (.int 6), (.ref r8)]))
  rw [show ((6 : Int32) - (6 : Int32)) = (0 : Int32) from by decide +kernel]
  obtain ⟨T12, h12, L12, X12, e12, N12, K12q, V12c, st12⟩ := cpA X11 hx hZ hown (own_W hw 95 rfl) (own_W hw 94 rfl) (own_W hw 92 rfl) (own_W hw 93 rfl) e11 V_r8_9 V_r8_9 (us := []) (Or.inl ⟨rfl, rfl⟩) (by decide) (by decide) (by decide) (by decide) (by decide) rfl (Nat.le_of_ble_eq_true rfl) N9 g_r8 (g := (mkF m 104 #[rv oa, iv 1, jv vb, sS, rv ot, iv 6, iv 6, iv 6, uS, uS] [(.int 0), (.int 8), (.ref r8), (.int 6), (.ref r8)])) rfl (by rw [hml]; rfl) rfl (hb hby d10_104) (by decide) (W := 0) (Nat.le_of_eq rfl) (by decide)
  refine own_Fin.go st12 ?_
  have V_r8_12 : Arv Z h12 r8 kb8 .long (8 : Int32) [(.long 3458764514894282753), (.long 0), (.long yp), (.long wp), (.long ya), (.long wa), (.long 0), (.long 0)] (.long 0) := V12c
  have E_oa_12 := E_oa_9.keep K12q
  have F_oa_cells_12 := F_oa_cells_9.keep K12q (ninS ne_oa_r8 nin0)
  have F_oa_sets_12 := F_oa_sets_9.keep K12q (ninS ne_oa_r8 nin0)
  have E_ot_12 := E_ot_9.keep K12q
  have F_ot_buckets_12 := F_ot_buckets_9.keep K12q (ninS ne_ot_r8 nin0)
  have Z12 := Nat.le_trans Z9 K12q.1
  have K12 := K9.trans K12q (allS (Or.inr sz_r8) all0)
  refine own_Fin.go (fun t k => XS.aloadN X12.here hx rfl (hb hby d10_107) rfl rfl k) ?_
  refine own_gF X12 hx hZ hown (own_W hw 39 rfl) e12 F_oa_cells_12 rfl rfl (hb hby d10_108) ?_
  intro T13 X13 e13
  refine own_Fin.go (fun t k => XS.iload X13.here hx rfl (hb hby d10_111) rfl (XS.lloadN X13.here hx rfl (hb hby d10_113) rfl k)) ?_
  obtain ⟨cl14, Ar14, q14, S14, N14l, H14, G14⟩ := (id V_r8_12)
  have hin14 : ¬ ((6 : Int32) < 0 ∨ cl14.slots.size ≤ ((6 : Int32)).toNatClampNeg) := inb_of S14 ⟨by decide, by decide⟩
  obtain ⟨T14, h14, X14, e14, W14, st14⟩ := stJ X13 hx hZ e13 Ar14 (j := (6 : Int32)) hin14 (g := (mkF m 114 #[rv oa, iv 1, jv vb, sS, rv ot, iv 6, iv 6, iv 6, uS, uS] [(.long vb), (.int 6), (.ref r8)])) rfl rfl (hb hby d10_114)
  refine own_Fin.go st14 ?_
  have V_r8_14 := Arv.set Ar14 q14 S14 N14l H14 G14 rfl W14 6 rfl (Nat.le_of_ble_eq_true rfl)
  replace V_r8_14 : Arv Z h14 r8 kb8 .long (8 : Int32) [(.long 3458764514894282753), (.long 0), (.long yp), (.long wp), (.long ya), (.long wa), (.long vb), (.long 0)] (.long 0) := V_r8_14
  have E_oa_14 := Exa.wr W14 E_oa_12
  have F_oa_cells_14 := Fld.other W14 F_oa_cells_12 (Or.inl ne_oa_r8)
  have F_oa_sets_14 := Fld.other W14 F_oa_sets_12 (Or.inl ne_oa_r8)
  have E_ot_14 := Exa.wr W14 E_ot_12
  have F_ot_buckets_14 := Fld.other W14 F_ot_buckets_12 (Or.inl ne_ot_r8)
  have Z14 := Nat.le_trans Z12 (Keep.of_wr W14).1
  have K14 := K12.wr W14 (Or.inr sz_r8)
  have N14 := Fr.snoc X14 N12 g_r8
  show own_Fin _ _ _ _ _ _ _ (T14.setTop (mkF m 115 #[rv oa, iv 1, jv vb, sS, rv ot, iv 6, iv 6, iv 6, uS, uS] []))
  refine own_Fin.go (fun t k => XS.aloadN X14.here hx rfl (hb hby d10_115) rfl rfl k) ?_
  refine own_gF X14 hx hZ hown (own_W hw 39 rfl) e14 F_oa_cells_14 rfl rfl (hb hby d10_116) ?_
  intro T15 X15 e15
  refine own_Fin.go (fun t k => XS.iload X15.here hx rfl (hb hby d10_119) rfl (XS.iconst X15.here hx rfl (hb hby d10_121) (XS.iadd X15.here hx rfl (hb hby d10_122) rfl k))) ?_
  show own_Fin _ _ _ _ _ _ _ (T15.setTop (mkF m 123 #[rv oa, iv 1, jv vb, sS, rv ot, iv 6, iv 6, iv 6, uS, uS] [(.int ((6 : Int32) + (1 : Int32))), (.ref r8)]))
  rw [show ((6 : Int32) + (1 : Int32)) = (7 : Int32) from by decide +kernel]
  refine own_Fin.go (fun t k => XS.lconst X15.here hx rfl (hb hby d10_123) k) ?_
  obtain ⟨cl16, Ar16, q16, S16, N16l, H16, G16⟩ := (id V_r8_14)
  have hin16 : ¬ ((7 : Int32) < 0 ∨ cl16.slots.size ≤ ((7 : Int32)).toNatClampNeg) := inb_of S16 ⟨by decide, by decide⟩
  obtain ⟨T16, h16, X16, e16, W16, st16⟩ := stJ X15 hx hZ e15 Ar16 (j := (7 : Int32)) hin16 (g := (mkF m 124 #[rv oa, iv 1, jv vb, sS, rv ot, iv 6, iv 6, iv 6, uS, uS] [(.long 0), (.int 7), (.ref r8)])) rfl rfl (hb hby d10_124)
  refine own_Fin.go st16 ?_
  have V_r8_16 := Arv.set Ar16 q16 S16 N16l H16 G16 rfl W16 7 rfl (Nat.le_of_ble_eq_true rfl)
  replace V_r8_16 : Arv Z h16 r8 kb8 .long (8 : Int32) [(.long 3458764514894282753), (.long 0), (.long yp), (.long wp), (.long ya), (.long wa), (.long vb), (.long 0)] (.long 0) := V_r8_16
  have E_oa_16 := Exa.wr W16 E_oa_14
  have F_oa_cells_16 := Fld.other W16 F_oa_cells_14 (Or.inl ne_oa_r8)
  have F_oa_sets_16 := Fld.other W16 F_oa_sets_14 (Or.inl ne_oa_r8)
  have E_ot_16 := Exa.wr W16 E_ot_14
  have F_ot_buckets_16 := Fld.other W16 F_ot_buckets_14 (Or.inl ne_ot_r8)
  have Z16 := Nat.le_trans Z14 (Keep.of_wr W16).1
  have K16 := K14.wr W16 (Or.inr sz_r8)
  have N16 := Fr.snoc X16 N14 g_r8
  refine own_Fin.go (fun t k => XS.aloadN X16.here hx rfl (hb hby d10_125) rfl rfl k) ?_
  refine own_gF X16 hx hZ hown (own_W hw 43 rfl) e16 F_oa_sets_16 rfl rfl (hb hby d10_126) ?_
  intro T17 X17 e17
  refine own_Fin.go (fun t k => XS.ifnullYes X17.here hx rfl (pc0 := 129) (pc' := 216) rfl (hb hby d10_129) rfl (by decide) (by decide) k) ?_
  show own_Fin _ _ _ _ _ _ _ (T17.setTop (mkF m 216 #[rv oa, iv 1, jv vb, sS, rv ot, iv 6, iv 6, iv 6, uS, uS] []))
  refine own_Fin.go (fun t k => XS.aloadN X17.here hx rfl (hb hby d10_216) rfl rfl (XS.iloadN X17.here hx rfl (hb hby d10_217) rfl (XS.aloadN X17.here hx rfl (hb hby d10_218) rfl rfl (XS.iloadN X17.here hx rfl (hb hby d10_219) rfl k)))) ?_
  refine own_pC X17 hx hZ hown (own_W hw 70 rfl) (own_W hw 71 rfl) (own_W hw 48 rfl) rfl (own_W hw 72 rfl) (own_W hw 73 rfl) (own_W hw 17 rfl) (by decide) (own_rm_len1 l Z a0 hw [] oa r8 kb8 (8 : Int32) (3458764514894282753 : Int64) (0 : Int64) ([(.long yp), (.long wp), (.long ya), (.long wa), (.long vb), (.long 0)]) h16 n0 Z16 F_oa_cells_16 V_r8_16 (by decide)) 2 (by decide) (by decide) e17 E_oa_16 rfl (by rw [hml]; rfl) [(.int 1)] (lenOf own_pd1 rfl) rfl (Nat.le_of_eq rfl) (hb hby d10_220) rfl (by decide) (by decide) ?_
  rintro T18 Lc18 _ X18 ⟨rfl, N18q, e18⟩
  have N18 := Fr.app N16 N18q
  show own_Fin _ _ _ _ _ _ _ (T18.setTop (mkF m 223 #[rv oa, iv 1, jv vb, sS, rv ot, iv 6, iv 6, iv 6, uS, uS] [(.int (own_lenb (3458764514894282753 : Int64))), (.int 1), (.ref oa)]))
  rw [show (own_lenb (3458764514894282753 : Int64)) = (1 : Int32) from by decide +kernel]
  refine own_Fin.go (fun t k => XS.iconst X18.here hx rfl (hb hby d10_223) (XS.iadd X18.here hx rfl (hb hby d10_224) rfl k)) ?_
  show own_Fin _ _ _ _ _ _ _ (T18.setTop (mkF m 225 #[rv oa, iv 1, jv vb, sS, rv ot, iv 6, iv 6, iv 6, uS, uS] [(.int ((1 : Int32) + (1 : Int32))), (.int 1), (.ref oa)]))
  rw [show ((1 : Int32) + (1 : Int32)) = (2 : Int32) from by decide +kernel]
  refine own_pC X18 hx hZ hown (own_W hw 96 rfl) (own_W hw 97 rfl) (own_W hw 48 rfl) rfl (own_W hw 98 rfl) (own_W hw 99 rfl) (own_W hw 17 rfl) (by decide) (own_rm_sl1 l Z a0 hw [] oa (2 : Int32) r8 kb8 (8 : Int32) (3458764514894282753 : Int64) (0 : Int64) ([(.long yp), (.long wp), (.long ya), (.long wa), (.long vb), (.long 0)]) h16 n0 Z16 F_oa_cells_16 V_r8_16 (by decide) g_r8 ne_oa_r8) 0 (by decide) (by decide) e18 E_oa_16 rfl (by rw [hml]; rfl) [(.int 1), (.int 2)] (lenOf own_pd6 rfl) rfl (Nat.le_of_eq rfl) (hb hby d10_225) rfl (by decide) (by decide) ?_
  rintro T19 Lc19 _ X19 ⟨rfl, N19q, K19q, c19_1⟩
  have N19 := Fr.app N18 N19q
  have E_oa_19 := E_oa_16.keep K19q
  have F_oa_cells_19 := F_oa_cells_16.keep K19q (ninS ne_oa_r8 nin0)
  have F_oa_sets_19 := F_oa_sets_16.keep K19q (ninS ne_oa_r8 nin0)
  have E_ot_19 := E_ot_16.keep K19q
  have F_ot_buckets_19 := F_ot_buckets_16.keep K19q (ninS ne_ot_r8 nin0)
  have Z19 := Nat.le_trans Z16 K19q.1
  have K19 := K16.trans K19q (allS (Or.inr sz_r8) all0)
  rw [show (own_slb (3458764514894282753 : Int64) (2 : Int32)) = (3458764515968024577 : Int64) from by decide +kernel] at c19_1
  refine own_Fin.go (fun t k => XS.aload X19.here hx rfl (hb hby d10_228) rfl rfl (XS.dup X19.here hx rfl (hb hby d10_230) rfl rfl k)) ?_
  refine own_gF X19 hx hZ hown (own_W hw 101 rfl) rfl F_ot_buckets_19 rfl rfl (hb hby d10_231) ?_
  intro T20 X20 e20
  refine own_Fin.go (fun t k => XS.lconst X20.here hx rfl (hb hby d10_234) (XS.ladd X20.here hx rfl (hb hby d10_235) rfl k)) ?_
  obtain ⟨T21, h21, X21, e21, W21, st21⟩ := putF X20 hx hZ hown (host := "") (Or.inl (own_W hw 101 rfl)) Via.refl e20 F_ot_buckets_19 E_ot_19 (Or.inl (own_W hw 102 rfl)) (own_W hw 7 rfl) (ty := .long) (by decide) rfl rfl (g := (mkF m 236 #[rv oa, iv 1, jv vb, sS, rv ot, iv 6, iv 6, iv 6, uS, uS] [(.long (ub + (1 : Int64))), (.ref ot)])) rfl rfl (hb hby d10_236)
  refine own_Fin.go st21 ?_
  have F_ot_buckets_21 := Fld.same W21 F_ot_buckets_19
  have E_oa_21 := Exa.wr W21 E_oa_19
  have F_oa_cells_21 := Fld.other W21 F_oa_cells_19 (Or.inl ne_oa_ot)
  have F_oa_sets_21 := Fld.other W21 F_oa_sets_19 (Or.inl ne_oa_ot)
  have E_ot_21 := Exa.wr W21 E_ot_19
  have V_r8_21 := Arv.other c19_1 W21 (Ne.symm ne_ot_r8)
  have Z21 := Nat.le_trans Z19 (Keep.of_wr W21).1
  have K21 := K19.wr W21 (Or.inl (List.mem_of_getElem? (i := 1) rfl))
  have N21 := Fr.snoc X21 N19 g_ot
  show own_Fin _ _ _ _ _ _ _ (T21.setTop (mkF m 239 #[rv oa, iv 1, jv vb, sS, rv ot, iv 6, iv 6, iv 6, uS, uS] []))
  refine own_Fin.go (fun t k => XS.iload X21.here hx rfl (hb hby d10_239) rfl k) ?_
  refine own_retI X21 hx Bd.returns (hb hby d10_241) Bd.notSynchronized (by decide) (by decide) ?_
  rw [e21]
  exact ⟨r8, kb8, rfl, N21, K21, E_oa_21, F_oa_cells_21, F_oa_sets_21, V_r8_21, E_ot_21, F_ot_buckets_21, sz_r8, ne_oa_r8, ne_ot_r8⟩
theorem own_ef_adC1n (m : MethodId) (oa : Addr) (vb : Int64) (va : Int64) (ot : Addr) : entryFrame m #[(.ref oa), (.int 1), (.long vb), (.long va), (.ref ot)] 8 = mkF m 0 #[rv oa, iv 1, jv vb, sS, jv va, sS, rv ot, uS] [] := by first | (simp [entryFrame, mkF, argsToLocals, Value.category]; done) | rfl
def own_Q_adC1n (Z : State) (oa : Addr) (vb : Int64) (va : Int64) (ot : Addr) (oz : Addr) (kz : ClassId) (yp : Int64) (wp : Int64) (ya : Int64) (wa : Int64) (ub : Int64) (h0 : Heap) (n0 : Nat) (v : Option Value) (h : Heap) (L : List Loc) : Prop := ∃ ob : Addr, ∃ kb : ClassId, v = none ∧ Fr n0 L ∧ Keep h0 h [oa, ot, oz] ∧ Exa Z h oa own_k0 ∧ Fld Z h oa own_k0 "cells" "[J" (.ref ob) ∧ Fld Z h oa own_k0 "sets" "[Ljava/lang/Object;" .null ∧ Arv Z h ob kb .long (8 : Int32) [(.long 3458764515968024577), (.long 0), (.long yp), (.long wp), (.long ya), (.long wa), (.long vb), (.long (own_sat (0 : Int64) va))] (.long 0) ∧ Exa Z h ot own_k2 ∧ Fld Z h ot own_k2 "buckets" "J" (.long (ub + (1 : Int64))) ∧ h0.size ≤ ob ∧ oa ≠ ob ∧ ot ≠ ob
set_option maxRecDepth 65536 in
set_option maxHeartbeats 40000000 in
theorem own_rm_adC1n (l : Launch) (Z : State) (a0 : Array Value) (hw : ∀ d ∈ tables_1, d.before a0 Z = true) (ws : List Jvm.Cond) (oa : Addr) (vb : Int64) (va : Int64) (ot : Addr) (oz : Addr) (kz : ClassId) (yp : Int64) (wp : Int64) (ya : Int64) (wa : Int64) (ub : Int64) (h0 : Heap) (n0 : Nat) (Z0 : n0 ≤ h0.size) (E_oa : Exa Z h0 oa own_k0) (F_oa_cells : Fld Z h0 oa own_k0 "cells" "[J" (.ref oz)) (F_oa_sets : Fld Z h0 oa own_k0 "sets" "[Ljava/lang/Object;" .null) (V_oz : Arv Z h0 oz kz .long (6 : Int32) [(.long 3458764514894282753), (.long 0), (.long yp), (.long wp), (.long ya), (.long wa)] (.long 0)) (E_ot : Exa Z h0 ot own_k2) (F_ot_buckets : Fld Z h0 ot own_k2 "buckets" "J" (.long ub)) (g_oa : n0 ≤ oa) (g_oz : n0 ≤ oz) (g_ot : n0 ≤ ot) (ne_oa_ot : oa ≠ ot) (ne_oa_oz : oa ≠ oz) (ne_ot_oz : ot ≠ oz) (qya : ya < vb) :
    MetFree l own_y17 (head1 (Jvm.Cond.code own_y17 prog_4_method_4_code 8 none :: ws) ({ frames := 5, cells := 1, slots := 8, locals := 76 } : Room)) (fun a U => a = #[(.ref oa), (.int 1), (.long vb), (.long va), (.ref ot)] ∧ Z.Warmed39 U.vm ∧ U.heap = h0) (fun _ _ _ _ _ => True) (fun _ U o U' => ∃ v L, o = .returned v ∧ own_Q_adC1n Z oa vb va ot oz kz yp wp ya wa ub h0 n0 v U'.heap L ∧ FrameEnd U o U' L ({ frames := 5, cells := 1, slots := 8, locals := 76 } : Room).cells ({ frames := 5, cells := 1, slots := 8, locals := 76 } : Room).slots) := by
  refine MetFree.of_bodySF (plainFor_of_name own_pn0) hisR ?_
  intro p e s m args below meth c s₁ Bd hml0 hP hK
  obtain ⟨rfl, hZ, hh⟩ := hP
  have hx := Bd.exec
  have hby := Bd.bytes
  have hml : c.maxLocals = 8 := hml0
  have hown : s.vm.findClass own_k0 = some m.cls := findClass_of_methodNamed Bd.named
  have hnm := (name_of_methodNamed Bd.named Bd.method).1
  have X0 : Stand p l e ({ frames := 5, cells := 1, slots := 8, locals := 76 } : Room) s m #[(.ref oa), (.int 1), (.long vb), (.long va), (.ref ot)] below meth c s₁ [] 0 0 := Stand.of_body Bd
  have e0 : s₁.heap = h0 := by rw [← hh, Bd.state]; rfl
  have N0 := Fr.nil n0
  have K0 := Keep.refl h0 [oa, ot, oz]
  show own_Fin p e below s (own_Q_adC1n Z oa vb va ot oz kz yp wp ya wa ub h0 n0) ({ frames := 5, cells := 1, slots := 8, locals := 76 } : Room).cells ({ frames := 5, cells := 1, slots := 8, locals := 76 } : Room).slots (s₁.setTop (entryFrame m #[(.ref oa), (.int 1), (.long vb), (.long va), (.ref ot)] 8))
  refine own_Fin.go (fun t k => castTop (own_ef_adC1n m oa vb va ot) k) ?_
  refine own_Fin.go (fun t k => XS.aloadN X0.here hx rfl (hb hby d1_0) rfl rfl (XS.iloadN X0.here hx rfl (hb hby d1_1) rfl (XS.lloadN X0.here hx rfl (hb hby d1_2) rfl (XS.aload X0.here hx rfl (hb hby d1_3) rfl rfl k)))) ?_
  show own_Fin _ _ _ _ _ _ _ (s₁.setTop (mkF m 5 #[rv oa, iv 1, jv vb, sS, jv va, sS, rv ot, uS] [(.ref ot), (.long vb), (.int 1), (.ref oa)]))
  refine own_pC X0 hx hZ hown (own_W hw 50 rfl) (own_W hw 51 rfl) (own_W hw 48 rfl) rfl (own_W hw 52 rfl) (own_W hw 53 rfl) (own_W hw 17 rfl) (by decide) (own_rm_soC1n l Z a0 hw [] oa vb ot oz kz yp wp ya wa ub h0 n0 Z0 E_oa F_oa_cells F_oa_sets V_oz E_ot F_ot_buckets g_oa g_oz g_ot ne_oa_ot ne_oa_oz ne_ot_oz (by assumption)) 0 (by decide) (by decide) e0 E_oa rfl (by rw [hml]; rfl) [(.int 1), (.long vb), (.ref ot)] (lenOf own_pd7 rfl) rfl (Nat.le_of_eq rfl) (hb hby d1_5) rfl (by decide) (by decide) ?_
  rintro T1 Lc1 _ X1 ⟨ob1, kb1, rfl, N1q, K1q, c1_1, c1_2, c1_3, c1_4, c1_5, c1_6, c1_7, c1_8, c1_9⟩
  have N1 := Fr.app N0 N1q
  have Z1 := Nat.le_trans Z0 K1q.1
  have K1 := K0.trans K1q (allS (Or.inl (List.mem_of_getElem? (i := 0) rfl)) (allS (Or.inl (List.mem_of_getElem? (i := 1) rfl)) (allS (Or.inl (List.mem_of_getElem? (i := 2) rfl)) all0)))
  have ne_oa_ob1 : oa ≠ ob1 := Nat.ne_of_lt (Nat.lt_of_lt_of_le F_oa_sets.lt c1_7)
  have ne_oz_ob1 : oz ≠ ob1 := Nat.ne_of_lt (Nat.lt_of_lt_of_le V_oz.lt c1_7)
  have ne_ot_ob1 : ot ≠ ob1 := Nat.ne_of_lt (Nat.lt_of_lt_of_le F_ot_buckets.lt c1_7)
  have g_ob1 : n0 ≤ ob1 := Nat.le_trans Z0 c1_7
  have sz_ob1 : h0.size ≤ ob1 := Nat.le_trans K0.1 c1_7
  refine own_Fin.go (fun t k => XS.istore X1.here hx rfl (hb hby d1_8) rfl (l' := #[rv oa, iv 1, jv vb, sS, jv va, sS, rv ot, iv 6]) rfl (XS.aloadN X1.here hx rfl (hb hby d1_10) rfl rfl k)) ?_
  refine own_gF X1 hx hZ hown (own_W hw 39 rfl) rfl c1_2 rfl rfl (hb hby d1_11) ?_
  intro T2 X2 e2
  refine own_Fin.go (fun t k => XS.iload X2.here hx rfl (hb hby d1_14) rfl k) ?_
  show own_Fin _ _ _ _ _ _ _ (T2.setTop (mkF m 16 #[rv oa, iv 1, jv vb, sS, jv va, sS, rv ot, iv 6] [(.int 6), (.ref ob1)]))
  refine own_Fin.go (fun t k => XS.iconst X2.here hx rfl (hb hby d1_16) (XS.iadd X2.here hx rfl (hb hby d1_17) rfl k)) ?_
  show own_Fin _ _ _ _ _ _ _ (T2.setTop (mkF m 18 #[rv oa, iv 1, jv vb, sS, jv va, sS, rv ot, iv 6] [(.int ((6 : Int32) + (1 : Int32))), (.ref ob1)]))
  rw [show ((6 : Int32) + (1 : Int32)) = (7 : Int32) from by decide +kernel]
  refine own_Fin.go (fun t k => XS.aloadN X2.here hx rfl (hb hby d1_18) rfl rfl k) ?_
  refine own_gF X2 hx hZ hown (own_W hw 39 rfl) e2 c1_2 rfl rfl (hb hby d1_19) ?_
  intro T3 X3 e3
  refine own_Fin.go (fun t k => XS.iload X3.here hx rfl (hb hby d1_22) rfl (XS.iconst X3.here hx rfl (hb hby d1_24) (XS.iadd X3.here hx rfl (hb hby d1_25) rfl k))) ?_
  show own_Fin _ _ _ _ _ _ _ (T3.setTop (mkF m 26 #[rv oa, iv 1, jv vb, sS, jv va, sS, rv ot, iv 6] [(.int ((6 : Int32) + (1 : Int32))), (.ref ob1), (.int 7), (.ref ob1)]))
  rw [show ((6 : Int32) + (1 : Int32)) = (7 : Int32) from by decide +kernel]
  refine own_lal X3 hx hZ e3 c1_4 ⟨by decide, by decide⟩ (v := (0 : Int64)) rfl rfl rfl (hb hby d1_26) ?_
  refine own_Fin.go (fun t k => XS.lload X3.here hx rfl (hb hby d1_27) rfl k) ?_
  refine own_sC X3 hx hZ hown (own_W hw 103 rfl) (own_W hw 104 rfl) (own_W hw 17 rfl) (own_W hw 105 rfl) (by decide) (own_rm_sat l Z a0 hw [] (0 : Int64) va  T1.heap n0 Z1 ) 2 (by decide) (by decide) e3 rfl (by rw [hml]; rfl) [(.long 0), (.long va)] [(.int 7), (.ref ob1)] (lenOf own_pd8 rfl) rfl (Nat.le_of_eq rfl) (hb hby d1_29) rfl (by decide) (by decide) ?_
  rintro T5 Lc5 _ X5 ⟨rfl, N5q, e5⟩
  have N5 := Fr.app N1 N5q
  obtain ⟨cl6, Ar6, q6, S6, N6l, H6, G6⟩ := (id c1_4)
  have hin6 : ¬ ((7 : Int32) < 0 ∨ cl6.slots.size ≤ ((7 : Int32)).toNatClampNeg) := inb_of S6 ⟨by decide, by decide⟩
  obtain ⟨T6, h6, X6, e6, W6, st6⟩ := stJ X5 hx hZ e5 Ar6 (j := (7 : Int32)) hin6 (g := (mkF m 32 #[rv oa, iv 1, jv vb, sS, jv va, sS, rv ot, iv 6] [(.long (own_sat (0 : Int64) va)), (.int 7), (.ref ob1)])) rfl rfl (hb hby d1_32)
  refine own_Fin.go st6 ?_
  have V_ob1_6 := Arv.set Ar6 q6 S6 N6l H6 G6 rfl W6 7 rfl (Nat.le_of_ble_eq_true rfl)
  replace V_ob1_6 : Arv Z h6 ob1 kb1 .long (8 : Int32) [(.long 3458764515968024577), (.long 0), (.long yp), (.long wp), (.long ya), (.long wa), (.long vb), (.long (own_sat (0 : Int64) va))] (.long 0) := V_ob1_6
  have E_oa_6 := Exa.wr W6 c1_1
  have F_oa_cells_6 := Fld.other W6 c1_2 (Or.inl c1_8)
  have F_oa_sets_6 := Fld.other W6 c1_3 (Or.inl c1_8)
  have E_ot_6 := Exa.wr W6 c1_5
  have F_ot_buckets_6 := Fld.other W6 c1_6 (Or.inl c1_9)
  have Z6 := Nat.le_trans Z1 (Keep.of_wr W6).1
  have K6 := K1.wr W6 (Or.inr sz_ob1)
  have N6 := Fr.snoc X6 N5 g_ob1
  show own_Fin _ _ _ _ _ _ _ (T6.setTop (mkF m 33 #[rv oa, iv 1, jv vb, sS, jv va, sS, rv ot, iv 6] []))
  refine own_ret0 X6 hx Bd.returns (hb hby d1_33) Bd.notSynchronized (by decide) (by decide) ?_
  rw [e6]
  exact ⟨ob1, kb1, rfl, N6, K6, E_oa_6, F_oa_cells_6, F_oa_sets_6, V_ob1_6, E_ot_6, F_ot_buckets_6, sz_ob1, c1_8, c1_9⟩
theorem own_ef_soD0e (m : MethodId) (oa : Addr) (vb : Int64) (ot : Addr) : entryFrame m #[(.ref oa), (.int 1), (.long vb), (.ref ot)] 10 = mkF m 0 #[rv oa, iv 1, jv vb, sS, rv ot, uS, uS, uS, uS, uS] [] := by first | (simp [entryFrame, mkF, argsToLocals, Value.category]; done) | rfl
def own_Q_soD0e (Z : State) (oa : Addr) (vb : Int64) (ot : Addr) (oz : Addr) (kz : ClassId) (yp : Int64) (wp : Int64) (ya : Int64) (wa : Int64) (yb : Int64) (wb : Int64) (ub : Int64) (h0 : Heap) (n0 : Nat) (v : Option Value) (h : Heap) (L : List Loc) : Prop := v = some (.int 4) ∧ Fr n0 L ∧ h = h0
set_option maxRecDepth 65536 in
set_option maxHeartbeats 40000000 in
theorem own_rm_soD0e (l : Launch) (Z : State) (a0 : Array Value) (hw : ∀ d ∈ tables_1, d.before a0 Z = true) (ws : List Jvm.Cond) (oa : Addr) (vb : Int64) (ot : Addr) (oz : Addr) (kz : ClassId) (yp : Int64) (wp : Int64) (ya : Int64) (wa : Int64) (yb : Int64) (wb : Int64) (ub : Int64) (h0 : Heap) (n0 : Nat) (Z0 : n0 ≤ h0.size) (E_oa : Exa Z h0 oa own_k0) (F_oa_cells : Fld Z h0 oa own_k0 "cells" "[J" (.ref oz)) (F_oa_sets : Fld Z h0 oa own_k0 "sets" "[Ljava/lang/Object;" .null) (V_oz : Arv Z h0 oz kz .long (8 : Int32) [(.long 3458764515968024577), (.long 0), (.long yp), (.long wp), (.long ya), (.long wa), (.long yb), (.long wb)] (.long 0)) (E_ot : Exa Z h0 ot own_k2) (F_ot_buckets : Fld Z h0 ot own_k2 "buckets" "J" (.long ub)) (g_oa : n0 ≤ oa) (g_oz : n0 ≤ oz) (g_ot : n0 ≤ ot) (ne_oa_ot : oa ≠ ot) (ne_oa_oz : oa ≠ oz) (ne_ot_oz : ot ≠ oz) (qyb : ¬ yb < vb) (qya : ¬ ya < vb) (qe : ya = vb) :
    MetFree l own_y16 (head1 (Jvm.Cond.code own_y16 prog_4_method_10_code 10 (some .int) :: ws) ({ frames := 4, cells := 0, slots := 0, locals := 55 } : Room)) (fun a U => a = #[(.ref oa), (.int 1), (.long vb), (.ref ot)] ∧ Z.Warmed39 U.vm ∧ U.heap = h0) (fun _ _ _ _ _ => True) (fun _ U o U' => ∃ v L, o = .returned v ∧ own_Q_soD0e Z oa vb ot oz kz yp wp ya wa yb wb ub h0 n0 v U'.heap L ∧ FrameEnd U o U' L ({ frames := 4, cells := 0, slots := 0, locals := 55 } : Room).cells ({ frames := 4, cells := 0, slots := 0, locals := 55 } : Room).slots) := by
  refine MetFree.of_bodySF (plainFor_of_name own_pn0) hisR ?_
  intro p e s m args below meth c s₁ Bd hml0 hP hK
  obtain ⟨rfl, hZ, hh⟩ := hP
  have hx := Bd.exec
  have hby := Bd.bytes
  have hml : c.maxLocals = 10 := hml0
  have hown : s.vm.findClass own_k0 = some m.cls := findClass_of_methodNamed Bd.named
  have hnm := (name_of_methodNamed Bd.named Bd.method).1
  have X0 : Stand p l e ({ frames := 4, cells := 0, slots := 0, locals := 55 } : Room) s m #[(.ref oa), (.int 1), (.long vb), (.ref ot)] below meth c s₁ [] 0 0 := Stand.of_body Bd
  have e0 : s₁.heap = h0 := by rw [← hh, Bd.state]; rfl
  have N0 := Fr.nil n0
  show own_Fin p e below s (own_Q_soD0e Z oa vb ot oz kz yp wp ya wa yb wb ub h0 n0) ({ frames := 4, cells := 0, slots := 0, locals := 55 } : Room).cells ({ frames := 4, cells := 0, slots := 0, locals := 55 } : Room).slots (s₁.setTop (entryFrame m #[(.ref oa), (.int 1), (.long vb), (.ref ot)] 10))
  refine own_Fin.go (fun t k => castTop (own_ef_soD0e m oa vb ot) k) ?_
  refine own_Fin.go (fun t k => XS.aloadN X0.here hx rfl (hb hby d10_0) rfl rfl (XS.iloadN X0.here hx rfl (hb hby d10_1) rfl (XS.lloadN X0.here hx rfl (hb hby d10_2) rfl k))) ?_
  refine own_pC X0 hx hZ hown (own_W hw 54 rfl) (own_W hw 55 rfl) (own_W hw 48 rfl) rfl (own_W hw 56 rfl) (own_W hw 57 rfl) (own_W hw 17 rfl) (by decide) (own_rm_ix2 l Z a0 hw [] oa vb oz kz (8 : Int32) (3458764515968024577 : Int64) (0 : Int64) yp wp ya wa yb wb ([]) h0 n0 Z0 E_oa F_oa_cells V_oz (by decide) (by decide) (by decide)) 0 (by decide) (by decide) e0 E_oa rfl (by rw [hml]; rfl) [(.int 1), (.long vb)] (lenOf own_pd4 rfl) rfl (Nat.le_of_eq rfl) (hb hby d10_3) rfl (by decide) (by decide) ?_
  rintro T1 Lc1 _ X1 ⟨rfl, N1q, e1⟩
  have N1 := Fr.app N0 N1q
  show own_Fin _ _ _ _ _ _ _ (T1.setTop (mkF m 6 #[rv oa, iv 1, jv vb, sS, rv ot, uS, uS, uS, uS, uS] [(.int (own_lb2 ya yb vb))]))
  rw [show (own_lb2 ya yb vb) = (4 : Int32) from by simp only [own_lb2, if_neg qyb, if_neg qya]]
  refine own_Fin.go (fun t k => XS.istore X1.here hx rfl (hb hby d10_6) rfl (l' := #[rv oa, iv 1, jv vb, sS, rv ot, iv 4, uS, uS, uS, uS]) rfl (XS.aloadN X1.here hx rfl (hb hby d10_8) rfl rfl (XS.iloadN X1.here hx rfl (hb hby d10_9) rfl k))) ?_
  refine own_pC X1 hx hZ hown (own_W hw 58 rfl) (own_W hw 59 rfl) (own_W hw 48 rfl) rfl (own_W hw 60 rfl) (own_W hw 61 rfl) (own_W hw 17 rfl) (by decide) (own_rm_st1 l Z a0 hw [] oa oz kz (8 : Int32) (3458764515968024577 : Int64) (0 : Int64) ([(.long yp), (.long wp), (.long ya), (.long wa), (.long yb), (.long wb)]) h0 n0 Z0 E_oa F_oa_cells V_oz (by decide)) 0 (by decide) (by decide) e1 E_oa rfl (by rw [hml]; rfl) [(.int 1)] (lenOf own_pd1 rfl) rfl (Nat.le_of_eq rfl) (hb hby d10_10) rfl (by decide) (by decide) ?_
  rintro T2 Lc2 _ X2 ⟨rfl, N2q, e2⟩
  have N2 := Fr.app N1 N2q
  show own_Fin _ _ _ _ _ _ _ (T2.setTop (mkF m 13 #[rv oa, iv 1, jv vb, sS, rv ot, iv 4, uS, uS, uS, uS] [(.int (own_stb (3458764515968024577 : Int64)))]))
  rw [show (own_stb (3458764515968024577 : Int64)) = (4 : Int32) from by decide +kernel]
  refine own_Fin.go (fun t k => XS.iconst X2.here hx rfl (hb hby d10_13) (XS.aloadN X2.here hx rfl (hb hby d10_14) rfl rfl (XS.iloadN X2.here hx rfl (hb hby d10_15) rfl k))) ?_
  refine own_pC X2 hx hZ hown (own_W hw 70 rfl) (own_W hw 71 rfl) (own_W hw 48 rfl) rfl (own_W hw 72 rfl) (own_W hw 73 rfl) (own_W hw 17 rfl) (by decide) (own_rm_len1 l Z a0 hw [] oa oz kz (8 : Int32) (3458764515968024577 : Int64) (0 : Int64) ([(.long yp), (.long wp), (.long ya), (.long wa), (.long yb), (.long wb)]) h0 n0 Z0 F_oa_cells V_oz (by decide)) 2 (by decide) (by decide) e2 E_oa rfl (by rw [hml]; rfl) [(.int 1)] (lenOf own_pd1 rfl) rfl (Nat.le_of_eq rfl) (hb hby d10_16) rfl (by decide) (by decide) ?_
  rintro T3 Lc3 _ X3 ⟨rfl, N3q, e3⟩
  have N3 := Fr.app N2 N3q
  show own_Fin _ _ _ _ _ _ _ (T3.setTop (mkF m 19 #[rv oa, iv 1, jv vb, sS, rv ot, iv 4, uS, uS, uS, uS] [(.int (own_lenb (3458764515968024577 : Int64))), (.int 2), (.int 4)]))
  rw [show (own_lenb (3458764515968024577 : Int64)) = (2 : Int32) from by decide +kernel]
  refine own_Fin.go (fun t k => XS.imul X3.here hx rfl (hb hby d10_19) rfl k) ?_
  show own_Fin _ _ _ _ _ _ _ (T3.setTop (mkF m 20 #[rv oa, iv 1, jv vb, sS, rv ot, iv 4, uS, uS, uS, uS] [(.int ((2 : Int32) * (2 : Int32))), (.int 4)]))
  rw [show ((2 : Int32) * (2 : Int32)) = (4 : Int32) from by decide +kernel]
  refine own_Fin.go (fun t k => XS.iadd X3.here hx rfl (hb hby d10_20) rfl k) ?_
  show own_Fin _ _ _ _ _ _ _ (T3.setTop (mkF m 21 #[rv oa, iv 1, jv vb, sS, rv ot, iv 4, uS, uS, uS, uS] [(.int ((4 : Int32) + (4 : Int32)))]))
  rw [show ((4 : Int32) + (4 : Int32)) = (8 : Int32) from by decide +kernel]
  refine own_Fin.go (fun t k => XS.istore X3.here hx rfl (hb hby d10_21) rfl (l' := #[rv oa, iv 1, jv vb, sS, rv ot, iv 4, iv 8, uS, uS, uS]) rfl (XS.iload X3.here hx rfl (hb hby d10_23) rfl (XS.iload X3.here hx rfl (hb hby d10_25) rfl (XS.icmpNo X3.here hx rfl (hb hby d10_27) rfl (by decide) k)))) ?_
  refine own_Fin.go (fun t k => XS.aloadN X3.here hx rfl (hb hby d10_30) rfl rfl k) ?_
  refine own_gF X3 hx hZ hown (own_W hw 39 rfl) e3 F_oa_cells rfl rfl (hb hby d10_31) ?_
  intro T4 X4 e4
  show own_Fin _ _ _ _ _ _ _ (T4.setTop (mkF m 34 #[rv oa, iv 1, jv vb, sS, rv ot, iv 4, iv 8, uS, uS, uS] [(.ref oz)]))
  refine own_Fin.go (fun t k => XS.iload X4.here hx rfl (hb hby d10_34) rfl k) ?_
  refine own_lal X4 hx hZ e4 V_oz ⟨by decide, by decide⟩ (v := ya) rfl rfl rfl (hb hby d10_36) ?_
  refine own_Fin.go (fun t k => XS.lloadN X4.here hx rfl (hb hby d10_37) rfl (XS.lcmp X4.here hx rfl (hb hby d10_38) rfl k)) ?_
  have hc39 : ya = vb := qe
  refine own_Fin.go (fun t k => XS.ifNo X4.here hx rfl (hb hby d10_39) rfl (Jvm.Free.XT.ll_ne_f hc39) k) ?_
  show own_Fin _ _ _ _ _ _ _ (T4.setTop (mkF m 42 #[rv oa, iv 1, jv vb, sS, rv ot, iv 4, iv 8, uS, uS, uS] []))
  refine own_Fin.go (fun t k => XS.iload X4.here hx rfl (hb hby d10_42) rfl k) ?_
  refine own_retI X4 hx Bd.returns (hb hby d10_44) Bd.notSynchronized (by decide) (by decide) ?_
  rw [e4]
  exact ⟨rfl, N3, rfl⟩
theorem own_ef_adD0e (m : MethodId) (oa : Addr) (vb : Int64) (va : Int64) (ot : Addr) : entryFrame m #[(.ref oa), (.int 1), (.long vb), (.long va), (.ref ot)] 8 = mkF m 0 #[rv oa, iv 1, jv vb, sS, jv va, sS, rv ot, uS] [] := by first | (simp [entryFrame, mkF, argsToLocals, Value.category]; done) | rfl
def own_Q_adD0e (Z : State) (oa : Addr) (vb : Int64) (va : Int64) (ot : Addr) (oz : Addr) (kz : ClassId) (yp : Int64) (wp : Int64) (ya : Int64) (wa : Int64) (yb : Int64) (wb : Int64) (ub : Int64) (h0 : Heap) (n0 : Nat) (v : Option Value) (h : Heap) (L : List Loc) : Prop := v = none ∧ Fr n0 L ∧ Keep h0 h [oa, ot, oz] ∧ Exa Z h oa own_k0 ∧ Fld Z h oa own_k0 "cells" "[J" (.ref oz) ∧ Fld Z h oa own_k0 "sets" "[Ljava/lang/Object;" .null ∧ Arv Z h oz kz .long (8 : Int32) [(.long 3458764515968024577), (.long 0), (.long yp), (.long wp), (.long ya), (.long (own_sat wa va)), (.long yb), (.long wb)] (.long 0) ∧ Exa Z h ot own_k2 ∧ Fld Z h ot own_k2 "buckets" "J" (.long ub)
set_option maxRecDepth 65536 in
set_option maxHeartbeats 40000000 in
theorem own_rm_adD0e (l : Launch) (Z : State) (a0 : Array Value) (hw : ∀ d ∈ tables_1, d.before a0 Z = true) (ws : List Jvm.Cond) (oa : Addr) (vb : Int64) (va : Int64) (ot : Addr) (oz : Addr) (kz : ClassId) (yp : Int64) (wp : Int64) (ya : Int64) (wa : Int64) (yb : Int64) (wb : Int64) (ub : Int64) (h0 : Heap) (n0 : Nat) (Z0 : n0 ≤ h0.size) (E_oa : Exa Z h0 oa own_k0) (F_oa_cells : Fld Z h0 oa own_k0 "cells" "[J" (.ref oz)) (F_oa_sets : Fld Z h0 oa own_k0 "sets" "[Ljava/lang/Object;" .null) (V_oz : Arv Z h0 oz kz .long (8 : Int32) [(.long 3458764515968024577), (.long 0), (.long yp), (.long wp), (.long ya), (.long wa), (.long yb), (.long wb)] (.long 0)) (E_ot : Exa Z h0 ot own_k2) (F_ot_buckets : Fld Z h0 ot own_k2 "buckets" "J" (.long ub)) (g_oa : n0 ≤ oa) (g_oz : n0 ≤ oz) (g_ot : n0 ≤ ot) (ne_oa_ot : oa ≠ ot) (ne_oa_oz : oa ≠ oz) (ne_ot_oz : ot ≠ oz) (qyb : ¬ yb < vb) (qya : ¬ ya < vb) (qe : ya = vb) :
    MetFree l own_y17 (head1 (Jvm.Cond.code own_y17 prog_4_method_4_code 8 none :: ws) ({ frames := 5, cells := 0, slots := 0, locals := 76 } : Room)) (fun a U => a = #[(.ref oa), (.int 1), (.long vb), (.long va), (.ref ot)] ∧ Z.Warmed39 U.vm ∧ U.heap = h0) (fun _ _ _ _ _ => True) (fun _ U o U' => ∃ v L, o = .returned v ∧ own_Q_adD0e Z oa vb va ot oz kz yp wp ya wa yb wb ub h0 n0 v U'.heap L ∧ FrameEnd U o U' L ({ frames := 5, cells := 0, slots := 0, locals := 76 } : Room).cells ({ frames := 5, cells := 0, slots := 0, locals := 76 } : Room).slots) := by
  refine MetFree.of_bodySF (plainFor_of_name own_pn0) hisR ?_
  intro p e s m args below meth c s₁ Bd hml0 hP hK
  obtain ⟨rfl, hZ, hh⟩ := hP
  have hx := Bd.exec
  have hby := Bd.bytes
  have hml : c.maxLocals = 8 := hml0
  have hown : s.vm.findClass own_k0 = some m.cls := findClass_of_methodNamed Bd.named
  have hnm := (name_of_methodNamed Bd.named Bd.method).1
  have X0 : Stand p l e ({ frames := 5, cells := 0, slots := 0, locals := 76 } : Room) s m #[(.ref oa), (.int 1), (.long vb), (.long va), (.ref ot)] below meth c s₁ [] 0 0 := Stand.of_body Bd
  have e0 : s₁.heap = h0 := by rw [← hh, Bd.state]; rfl
  have N0 := Fr.nil n0
  have K0 := Keep.refl h0 [oa, ot, oz]
  show own_Fin p e below s (own_Q_adD0e Z oa vb va ot oz kz yp wp ya wa yb wb ub h0 n0) ({ frames := 5, cells := 0, slots := 0, locals := 76 } : Room).cells ({ frames := 5, cells := 0, slots := 0, locals := 76 } : Room).slots (s₁.setTop (entryFrame m #[(.ref oa), (.int 1), (.long vb), (.long va), (.ref ot)] 8))
  refine own_Fin.go (fun t k => castTop (own_ef_adD0e m oa vb va ot) k) ?_
  refine own_Fin.go (fun t k => XS.aloadN X0.here hx rfl (hb hby d1_0) rfl rfl (XS.iloadN X0.here hx rfl (hb hby d1_1) rfl (XS.lloadN X0.here hx rfl (hb hby d1_2) rfl (XS.aload X0.here hx rfl (hb hby d1_3) rfl rfl k)))) ?_
  show own_Fin _ _ _ _ _ _ _ (s₁.setTop (mkF m 5 #[rv oa, iv 1, jv vb, sS, jv va, sS, rv ot, uS] [(.ref ot), (.long vb), (.int 1), (.ref oa)]))
  refine own_pC X0 hx hZ hown (own_W hw 50 rfl) (own_W hw 51 rfl) (own_W hw 48 rfl) rfl (own_W hw 52 rfl) (own_W hw 53 rfl) (own_W hw 17 rfl) (by decide) (own_rm_soD0e l Z a0 hw [] oa vb ot oz kz yp wp ya wa yb wb ub h0 n0 Z0 E_oa F_oa_cells F_oa_sets V_oz E_ot F_ot_buckets g_oa g_oz g_ot ne_oa_ot ne_oa_oz ne_ot_oz (by assumption) (by assumption) (by assumption)) 0 (by decide) (by decide) e0 E_oa rfl (by rw [hml]; rfl) [(.int 1), (.long vb), (.ref ot)] (lenOf own_pd7 rfl) rfl (Nat.le_of_eq rfl) (hb hby d1_5) rfl (by decide) (by decide) ?_
  rintro T1 Lc1 _ X1 ⟨rfl, N1q, e1⟩
  have N1 := Fr.app N0 N1q
  refine own_Fin.go (fun t k => XS.istore X1.here hx rfl (hb hby d1_8) rfl (l' := #[rv oa, iv 1, jv vb, sS, jv va, sS, rv ot, iv 4]) rfl (XS.aloadN X1.here hx rfl (hb hby d1_10) rfl rfl k)) ?_
  refine own_gF X1 hx hZ hown (own_W hw 39 rfl) e1 F_oa_cells rfl rfl (hb hby d1_11) ?_
  intro T2 X2 e2
  refine own_Fin.go (fun t k => XS.iload X2.here hx rfl (hb hby d1_14) rfl k) ?_
  show own_Fin _ _ _ _ _ _ _ (T2.setTop (mkF m 16 #[rv oa, iv 1, jv vb, sS, jv va, sS, rv ot, iv 4] [(.int 4), (.ref oz)]))
  refine own_Fin.go (fun t k => XS.iconst X2.here hx rfl (hb hby d1_16) (XS.iadd X2.here hx rfl (hb hby d1_17) rfl k)) ?_
  show own_Fin _ _ _ _ _ _ _ (T2.setTop (mkF m 18 #[rv oa, iv 1, jv vb, sS, jv va, sS, rv ot, iv 4] [(.int ((4 : Int32) + (1 : Int32))), (.ref oz)]))
  rw [show ((4 : Int32) + (1 : Int32)) = (5 : Int32) from by decide +kernel]
  refine own_Fin.go (fun t k => XS.aloadN X2.here hx rfl (hb hby d1_18) rfl rfl k) ?_
  refine own_gF X2 hx hZ hown (own_W hw 39 rfl) e2 F_oa_cells rfl rfl (hb hby d1_19) ?_
  intro T3 X3 e3
  refine own_Fin.go (fun t k => XS.iload X3.here hx rfl (hb hby d1_22) rfl (XS.iconst X3.here hx rfl (hb hby d1_24) (XS.iadd X3.here hx rfl (hb hby d1_25) rfl k))) ?_
  show own_Fin _ _ _ _ _ _ _ (T3.setTop (mkF m 26 #[rv oa, iv 1, jv vb, sS, jv va, sS, rv ot, iv 4] [(.int ((4 : Int32) + (1 : Int32))), (.ref oz), (.int 5), (.ref oz)]))
  rw [show ((4 : Int32) + (1 : Int32)) = (5 : Int32) from by decide +kernel]
  refine own_lal X3 hx hZ e3 V_oz ⟨by decide, by decide⟩ (v := wa) rfl rfl rfl (hb hby d1_26) ?_
  refine own_Fin.go (fun t k => XS.lload X3.here hx rfl (hb hby d1_27) rfl k) ?_
  refine own_sC X3 hx hZ hown (own_W hw 103 rfl) (own_W hw 104 rfl) (own_W hw 17 rfl) (own_W hw 105 rfl) (by decide) (own_rm_sat l Z a0 hw [] wa va  h0 n0 Z0 ) 2 (by decide) (by decide) e3 rfl (by rw [hml]; rfl) [(.long wa), (.long va)] [(.int 5), (.ref oz)] (lenOf own_pd8 rfl) rfl (Nat.le_of_eq rfl) (hb hby d1_29) rfl (by decide) (by decide) ?_
  rintro T5 Lc5 _ X5 ⟨rfl, N5q, e5⟩
  have N5 := Fr.app N1 N5q
  obtain ⟨cl6, Ar6, q6, S6, N6l, H6, G6⟩ := (id V_oz)
  have hin6 : ¬ ((5 : Int32) < 0 ∨ cl6.slots.size ≤ ((5 : Int32)).toNatClampNeg) := inb_of S6 ⟨by decide, by decide⟩
  obtain ⟨T6, h6, X6, e6, W6, st6⟩ := stJ X5 hx hZ e5 Ar6 (j := (5 : Int32)) hin6 (g := (mkF m 32 #[rv oa, iv 1, jv vb, sS, jv va, sS, rv ot, iv 4] [(.long (own_sat wa va)), (.int 5), (.ref oz)])) rfl rfl (hb hby d1_32)
  refine own_Fin.go st6 ?_
  have V_oz_6 := Arv.set Ar6 q6 S6 N6l H6 G6 rfl W6 5 rfl (Nat.le_of_ble_eq_true rfl)
  replace V_oz_6 : Arv Z h6 oz kz .long (8 : Int32) [(.long 3458764515968024577), (.long 0), (.long yp), (.long wp), (.long ya), (.long (own_sat wa va)), (.long yb), (.long wb)] (.long 0) := V_oz_6
  have E_oa_6 := Exa.wr W6 E_oa
  have F_oa_cells_6 := Fld.other W6 F_oa_cells (Or.inl ne_oa_oz)
  have F_oa_sets_6 := Fld.other W6 F_oa_sets (Or.inl ne_oa_oz)
  have E_ot_6 := Exa.wr W6 E_ot
  have F_ot_buckets_6 := Fld.other W6 F_ot_buckets (Or.inl ne_ot_oz)
  have Z6 := Nat.le_trans Z0 (Keep.of_wr W6).1
  have K6 := K0.wr W6 (Or.inl (List.mem_of_getElem? (i := 2) rfl))
  have N6 := Fr.snoc X6 N5 g_oz
  show own_Fin _ _ _ _ _ _ _ (T6.setTop (mkF m 33 #[rv oa, iv 1, jv vb, sS, jv va, sS, rv ot, iv 4] []))
  refine own_ret0 X6 hx Bd.returns (hb hby d1_33) Bd.notSynchronized (by decide) (by decide) ?_
  rw [e6]
  exact ⟨rfl, N6, K6, E_oa_6, F_oa_cells_6, F_oa_sets_6, V_oz_6, E_ot_6, F_ot_buckets_6⟩
theorem own_ef_soD0n (m : MethodId) (oa : Addr) (vb : Int64) (ot : Addr) : entryFrame m #[(.ref oa), (.int 1), (.long vb), (.ref ot)] 10 = mkF m 0 #[rv oa, iv 1, jv vb, sS, rv ot, uS, uS, uS, uS, uS] [] := by first | (simp [entryFrame, mkF, argsToLocals, Value.category]; done) | rfl
def own_Q_soD0n (Z : State) (oa : Addr) (vb : Int64) (ot : Addr) (oz : Addr) (kz : ClassId) (yp : Int64) (wp : Int64) (ya : Int64) (wa : Int64) (yb : Int64) (wb : Int64) (ub : Int64) (h0 : Heap) (n0 : Nat) (v : Option Value) (h : Heap) (L : List Loc) : Prop := ∃ ob : Addr, ∃ kb : ClassId, v = some (.int 4) ∧ Fr n0 L ∧ Keep h0 h [oa, ot, oz] ∧ Exa Z h oa own_k0 ∧ Fld Z h oa own_k0 "cells" "[J" (.ref ob) ∧ Fld Z h oa own_k0 "sets" "[Ljava/lang/Object;" .null ∧ Arv Z h ob kb .long (10 : Int32) [(.long 3458764517041766401), (.long 0), (.long yp), (.long wp), (.long vb), (.long 0), (.long ya), (.long wa), (.long yb), (.long wb)] (.long 0) ∧ Exa Z h ot own_k2 ∧ Fld Z h ot own_k2 "buckets" "J" (.long (ub + (1 : Int64))) ∧ h0.size ≤ ob ∧ oa ≠ ob ∧ ot ≠ ob
set_option maxRecDepth 65536 in
set_option maxHeartbeats 40000000 in
theorem own_rm_soD0n (l : Launch) (Z : State) (a0 : Array Value) (hw : ∀ d ∈ tables_1, d.before a0 Z = true) (ws : List Jvm.Cond) (oa : Addr) (vb : Int64) (ot : Addr) (oz : Addr) (kz : ClassId) (yp : Int64) (wp : Int64) (ya : Int64) (wa : Int64) (yb : Int64) (wb : Int64) (ub : Int64) (h0 : Heap) (n0 : Nat) (Z0 : n0 ≤ h0.size) (E_oa : Exa Z h0 oa own_k0) (F_oa_cells : Fld Z h0 oa own_k0 "cells" "[J" (.ref oz)) (F_oa_sets : Fld Z h0 oa own_k0 "sets" "[Ljava/lang/Object;" .null) (V_oz : Arv Z h0 oz kz .long (8 : Int32) [(.long 3458764515968024577), (.long 0), (.long yp), (.long wp), (.long ya), (.long wa), (.long yb), (.long wb)] (.long 0)) (E_ot : Exa Z h0 ot own_k2) (F_ot_buckets : Fld Z h0 ot own_k2 "buckets" "J" (.long ub)) (g_oa : n0 ≤ oa) (g_oz : n0 ≤ oz) (g_ot : n0 ≤ ot) (ne_oa_ot : oa ≠ ot) (ne_oa_oz : oa ≠ oz) (ne_ot_oz : ot ≠ oz) (qyb : ¬ yb < vb) (qya : ¬ ya < vb) (qe : ¬ ya = vb) :
    MetFree l own_y16 (head1 (Jvm.Cond.code own_y16 prog_4_method_10_code 10 (some .int) :: ws) ({ frames := 4, cells := 1, slots := 10, locals := 55 } : Room)) (fun a U => a = #[(.ref oa), (.int 1), (.long vb), (.ref ot)] ∧ Z.Warmed39 U.vm ∧ U.heap = h0) (fun _ _ _ _ _ => True) (fun _ U o U' => ∃ v L, o = .returned v ∧ own_Q_soD0n Z oa vb ot oz kz yp wp ya wa yb wb ub h0 n0 v U'.heap L ∧ FrameEnd U o U' L ({ frames := 4, cells := 1, slots := 10, locals := 55 } : Room).cells ({ frames := 4, cells := 1, slots := 10, locals := 55 } : Room).slots) := by
  refine MetFree.of_bodySF (plainFor_of_name own_pn0) hisR ?_
  intro p e s m args below meth c s₁ Bd hml0 hP hK
  obtain ⟨rfl, hZ, hh⟩ := hP
  have hx := Bd.exec
  have hby := Bd.bytes
  have hml : c.maxLocals = 10 := hml0
  have hown : s.vm.findClass own_k0 = some m.cls := findClass_of_methodNamed Bd.named
  have hnm := (name_of_methodNamed Bd.named Bd.method).1
  have X0 : Stand p l e ({ frames := 4, cells := 1, slots := 10, locals := 55 } : Room) s m #[(.ref oa), (.int 1), (.long vb), (.ref ot)] below meth c s₁ [] 0 0 := Stand.of_body Bd
  have e0 : s₁.heap = h0 := by rw [← hh, Bd.state]; rfl
  have N0 := Fr.nil n0
  have K0 := Keep.refl h0 [oa, ot, oz]
  show own_Fin p e below s (own_Q_soD0n Z oa vb ot oz kz yp wp ya wa yb wb ub h0 n0) ({ frames := 4, cells := 1, slots := 10, locals := 55 } : Room).cells ({ frames := 4, cells := 1, slots := 10, locals := 55 } : Room).slots (s₁.setTop (entryFrame m #[(.ref oa), (.int 1), (.long vb), (.ref ot)] 10))
  refine own_Fin.go (fun t k => castTop (own_ef_soD0n m oa vb ot) k) ?_
  refine own_Fin.go (fun t k => XS.aloadN X0.here hx rfl (hb hby d10_0) rfl rfl (XS.iloadN X0.here hx rfl (hb hby d10_1) rfl (XS.lloadN X0.here hx rfl (hb hby d10_2) rfl k))) ?_
  refine own_pC X0 hx hZ hown (own_W hw 54 rfl) (own_W hw 55 rfl) (own_W hw 48 rfl) rfl (own_W hw 56 rfl) (own_W hw 57 rfl) (own_W hw 17 rfl) (by decide) (own_rm_ix2 l Z a0 hw [] oa vb oz kz (8 : Int32) (3458764515968024577 : Int64) (0 : Int64) yp wp ya wa yb wb ([]) h0 n0 Z0 E_oa F_oa_cells V_oz (by decide) (by decide) (by decide)) 0 (by decide) (by decide) e0 E_oa rfl (by rw [hml]; rfl) [(.int 1), (.long vb)] (lenOf own_pd4 rfl) rfl (Nat.le_of_eq rfl) (hb hby d10_3) rfl (by decide) (by decide) ?_
  rintro T1 Lc1 _ X1 ⟨rfl, N1q, e1⟩
  have N1 := Fr.app N0 N1q
  show own_Fin _ _ _ _ _ _ _ (T1.setTop (mkF m 6 #[rv oa, iv 1, jv vb, sS, rv ot, uS, uS, uS, uS, uS] [(.int (own_lb2 ya yb vb))]))
  rw [show (own_lb2 ya yb vb) = (4 : Int32) from by simp only [own_lb2, if_neg qyb, if_neg qya]]
  refine own_Fin.go (fun t k => XS.istore X1.here hx rfl (hb hby d10_6) rfl (l' := #[rv oa, iv 1, jv vb, sS, rv ot, iv 4, uS, uS, uS, uS]) rfl (XS.aloadN X1.here hx rfl (hb hby d10_8) rfl rfl (XS.iloadN X1.here hx rfl (hb hby d10_9) rfl k))) ?_
  refine own_pC X1 hx hZ hown (own_W hw 58 rfl) (own_W hw 59 rfl) (own_W hw 48 rfl) rfl (own_W hw 60 rfl) (own_W hw 61 rfl) (own_W hw 17 rfl) (by decide) (own_rm_st1 l Z a0 hw [] oa oz kz (8 : Int32) (3458764515968024577 : Int64) (0 : Int64) ([(.long yp), (.long wp), (.long ya), (.long wa), (.long yb), (.long wb)]) h0 n0 Z0 E_oa F_oa_cells V_oz (by decide)) 0 (by decide) (by decide) e1 E_oa rfl (by rw [hml]; rfl) [(.int 1)] (lenOf own_pd1 rfl) rfl (Nat.le_of_eq rfl) (hb hby d10_10) rfl (by decide) (by decide) ?_
  rintro T2 Lc2 _ X2 ⟨rfl, N2q, e2⟩
  have N2 := Fr.app N1 N2q
  show own_Fin _ _ _ _ _ _ _ (T2.setTop (mkF m 13 #[rv oa, iv 1, jv vb, sS, rv ot, iv 4, uS, uS, uS, uS] [(.int (own_stb (3458764515968024577 : Int64)))]))
  rw [show (own_stb (3458764515968024577 : Int64)) = (4 : Int32) from by decide +kernel]
  refine own_Fin.go (fun t k => XS.iconst X2.here hx rfl (hb hby d10_13) (XS.aloadN X2.here hx rfl (hb hby d10_14) rfl rfl (XS.iloadN X2.here hx rfl (hb hby d10_15) rfl k))) ?_
  refine own_pC X2 hx hZ hown (own_W hw 70 rfl) (own_W hw 71 rfl) (own_W hw 48 rfl) rfl (own_W hw 72 rfl) (own_W hw 73 rfl) (own_W hw 17 rfl) (by decide) (own_rm_len1 l Z a0 hw [] oa oz kz (8 : Int32) (3458764515968024577 : Int64) (0 : Int64) ([(.long yp), (.long wp), (.long ya), (.long wa), (.long yb), (.long wb)]) h0 n0 Z0 F_oa_cells V_oz (by decide)) 2 (by decide) (by decide) e2 E_oa rfl (by rw [hml]; rfl) [(.int 1)] (lenOf own_pd1 rfl) rfl (Nat.le_of_eq rfl) (hb hby d10_16) rfl (by decide) (by decide) ?_
  rintro T3 Lc3 _ X3 ⟨rfl, N3q, e3⟩
  have N3 := Fr.app N2 N3q
  show own_Fin _ _ _ _ _ _ _ (T3.setTop (mkF m 19 #[rv oa, iv 1, jv vb, sS, rv ot, iv 4, uS, uS, uS, uS] [(.int (own_lenb (3458764515968024577 : Int64))), (.int 2), (.int 4)]))
  rw [show (own_lenb (3458764515968024577 : Int64)) = (2 : Int32) from by decide +kernel]
  refine own_Fin.go (fun t k => XS.imul X3.here hx rfl (hb hby d10_19) rfl k) ?_
  show own_Fin _ _ _ _ _ _ _ (T3.setTop (mkF m 20 #[rv oa, iv 1, jv vb, sS, rv ot, iv 4, uS, uS, uS, uS] [(.int ((2 : Int32) * (2 : Int32))), (.int 4)]))
  rw [show ((2 : Int32) * (2 : Int32)) = (4 : Int32) from by decide +kernel]
  refine own_Fin.go (fun t k => XS.iadd X3.here hx rfl (hb hby d10_20) rfl k) ?_
  show own_Fin _ _ _ _ _ _ _ (T3.setTop (mkF m 21 #[rv oa, iv 1, jv vb, sS, rv ot, iv 4, uS, uS, uS, uS] [(.int ((4 : Int32) + (4 : Int32)))]))
  rw [show ((4 : Int32) + (4 : Int32)) = (8 : Int32) from by decide +kernel]
  refine own_Fin.go (fun t k => XS.istore X3.here hx rfl (hb hby d10_21) rfl (l' := #[rv oa, iv 1, jv vb, sS, rv ot, iv 4, iv 8, uS, uS, uS]) rfl (XS.iload X3.here hx rfl (hb hby d10_23) rfl (XS.iload X3.here hx rfl (hb hby d10_25) rfl (XS.icmpNo X3.here hx rfl (hb hby d10_27) rfl (by decide) k)))) ?_
  refine own_Fin.go (fun t k => XS.aloadN X3.here hx rfl (hb hby d10_30) rfl rfl k) ?_
  refine own_gF X3 hx hZ hown (own_W hw 39 rfl) e3 F_oa_cells rfl rfl (hb hby d10_31) ?_
  intro T4 X4 e4
  show own_Fin _ _ _ _ _ _ _ (T4.setTop (mkF m 34 #[rv oa, iv 1, jv vb, sS, rv ot, iv 4, iv 8, uS, uS, uS] [(.ref oz)]))
  refine own_Fin.go (fun t k => XS.iload X4.here hx rfl (hb hby d10_34) rfl k) ?_
  refine own_lal X4 hx hZ e4 V_oz ⟨by decide, by decide⟩ (v := ya) rfl rfl rfl (hb hby d10_36) ?_
  refine own_Fin.go (fun t k => XS.lloadN X4.here hx rfl (hb hby d10_37) rfl (XS.lcmp X4.here hx rfl (hb hby d10_38) rfl k)) ?_
  have hc39 : ¬ (ya = vb) := qe
  refine own_Fin.go (fun t k => XS.ifYes X4.here hx rfl (pc0 := 39) (pc' := 45) rfl (hb hby d10_39) rfl (Jvm.Free.XT.ll_ne_t hc39) (by decide) (by decide) k) ?_
  show own_Fin _ _ _ _ _ _ _ (T4.setTop (mkF m 45 #[rv oa, iv 1, jv vb, sS, rv ot, iv 4, iv 8, uS, uS, uS] []))
  refine own_Fin.go (fun t k => XS.aloadN X4.here hx rfl (hb hby d10_45) rfl rfl k) ?_
  refine own_pC X4 hx hZ hown (own_W hw 79 rfl) (own_W hw 80 rfl) (own_W hw 48 rfl) rfl (own_W hw 81 rfl) (own_W hw 82 rfl) (own_W hw 17 rfl) (by decide) (own_rm_used l Z a0 hw [] oa oz kz (8 : Int32) (3458764515968024577 : Int64) (0 : Int64) ([(.long yp), (.long wp), (.long ya), (.long wa), (.long yb), (.long wb)]) h0 n0 Z0 E_oa F_oa_cells V_oz (by decide) (by decide)) 0 (by decide) (by decide) e4 E_oa rfl (by rw [hml]; rfl) [] (lenOf own_pd0 rfl) rfl (Nat.le_of_eq rfl) (hb hby d10_46) rfl (by decide) (by decide) ?_
  rintro T6 Lc6 _ X6 ⟨rfl, N6q, e6⟩
  have N6 := Fr.app N3 N6q
  show own_Fin _ _ _ _ _ _ _ (T6.setTop (mkF m 49 #[rv oa, iv 1, jv vb, sS, rv ot, iv 4, iv 8, uS, uS, uS] [(.int (own_std (3458764515968024577 : Int64) (0 : Int64)))]))
  rw [show (own_std (3458764515968024577 : Int64) (0 : Int64)) = (8 : Int32) from by decide +kernel]
  refine own_Fin.go (fun t k => XS.istore X6.here hx rfl (hb hby d10_49) rfl (l' := #[rv oa, iv 1, jv vb, sS, rv ot, iv 4, iv 8, iv 8, uS, uS]) rfl (XS.iload X6.here hx rfl (hb hby d10_51) rfl (XS.iconst X6.here hx rfl (hb hby d10_53) (XS.iadd X6.here hx rfl (hb hby d10_54) rfl k)))) ?_
  show own_Fin _ _ _ _ _ _ _ (T6.setTop (mkF m 55 #[rv oa, iv 1, jv vb, sS, rv ot, iv 4, iv 8, iv 8, uS, uS] [(.int ((8 : Int32) + (2 : Int32)))]))
  rw [show ((8 : Int32) + (2 : Int32)) = (10 : Int32) from by decide +kernel]
  refine own_Fin.go (fun t k => XS.aloadN X6.here hx rfl (hb hby d10_55) rfl rfl k) ?_
  refine own_gF X6 hx hZ hown (own_W hw 39 rfl) e6 F_oa_cells rfl rfl (hb hby d10_56) ?_
  intro T7 X7 e7
  obtain ⟨cl8, Ar8, -, S8, N8l, -, -⟩ := (id V_oz)
  refine own_Fin.go (fun t k => X7.arraylength hx (by rw [e7]; exact Ar8.1) (State.isArrayOf_alike hZ.alike Ar8.2.1) (g := (mkF m 59 #[rv oa, iv 1, jv vb, sS, rv ot, iv 4, iv 8, iv 8, uS, uS] [(.ref oz), (.int 10)])) rfl rfl (hb hby d10_59) t k) ?_
  rw [len_of S8 N8l]
  refine own_Fin.go (fun t k => XS.icmpNo X7.here hx rfl (hb hby d10_60) rfl (by decide) (XS.aloadN X7.here hx rfl (hb hby d10_63) rfl rfl (XS.aloadN X7.here hx rfl (hb hby d10_64) rfl rfl k))) ?_
  refine own_gF X7 hx hZ hown (own_W hw 39 rfl) e7 F_oa_cells rfl rfl (hb hby d10_65) ?_
  intro T9 X9 e9
  show own_Fin _ _ _ _ _ _ _ (T9.setTop (mkF m 68 #[rv oa, iv 1, jv vb, sS, rv ot, iv 4, iv 8, iv 8, uS, uS] [(.ref oz), (.ref oa)]))
  refine own_Fin.go (fun t k => XS.iload X9.here hx rfl (hb hby d10_68) rfl (XS.iconst X9.here hx rfl (hb hby d10_70) (XS.iadd X9.here hx rfl (hb hby d10_71) rfl k))) ?_
  show own_Fin _ _ _ _ _ _ _ (T9.setTop (mkF m 72 #[rv oa, iv 1, jv vb, sS, rv ot, iv 4, iv 8, iv 8, uS, uS] [(.int ((8 : Int32) + (2 : Int32))), (.ref oz), (.ref oa)]))
  rw [show ((8 : Int32) + (2 : Int32)) = (10 : Int32) from by decide +kernel]
  refine own_Fin.go (fun t k => XS.iload X9.here hx rfl (hb hby d10_72) rfl (XS.iconst X9.here hx rfl (hb hby d10_74) (XS.iushr X9.here hx rfl (hb hby d10_75) rfl k))) ?_
  show own_Fin _ _ _ _ _ _ _ (T9.setTop (mkF m 76 #[rv oa, iv 1, jv vb, sS, rv ot, iv 4, iv 8, iv 8, uS, uS] [(.int (((8 : Int32).toUInt32 >>> ((4 : Int32) &&& 31).toUInt32).toInt32)), (.int 10), (.ref oz), (.ref oa)]))
  rw [show (((8 : Int32).toUInt32 >>> ((4 : Int32) &&& 31).toUInt32).toInt32) = (0 : Int32) from by decide +kernel]
  refine own_Fin.go (fun t k => XS.iconst X9.here hx rfl (hb hby d10_76) (XS.ishl X9.here hx rfl (hb hby d10_77) rfl k)) ?_
  show own_Fin _ _ _ _ _ _ _ (T9.setTop (mkF m 78 #[rv oa, iv 1, jv vb, sS, rv ot, iv 4, iv 8, iv 8, uS, uS] [(.int ((0 : Int32) <<< ((1 : Int32) &&& 31))), (.int 10), (.ref oz), (.ref oa)]))
  rw [show ((0 : Int32) <<< ((1 : Int32) &&& 31)) = (0 : Int32) from by decide +kernel]
  refine own_Fin.go (fun t k => XS.iadd X9.here hx rfl (hb hby d10_78) rfl k) ?_
  show own_Fin _ _ _ _ _ _ _ (T9.setTop (mkF m 79 #[rv oa, iv 1, jv vb, sS, rv ot, iv 4, iv 8, iv 8, uS, uS] [(.int ((10 : Int32) + (0 : Int32))), (.ref oz), (.ref oa)]))
  rw [show ((10 : Int32) + (0 : Int32)) = (10 : Int32) from by decide +kernel]
  refine own_sC X9 hx hZ hown (own_W hw 83 rfl) (own_W hw 84 rfl) (own_W hw 85 rfl) (own_W hw 86 rfl) (by decide) (own_rm_cpy8 l Z a0 hw [] oz kz (3458764515968024577 : Int64) (0 : Int64) yp wp ya wa yb wb h0 n0 Z0 V_oz) 1 (by decide) (by decide) e9 rfl (by rw [hml]; rfl) [(.ref oz), (.int 10)] [(.ref oa)] (lenOf own_pd5 rfl) rfl (Nat.le_of_eq rfl) (hb hby d10_79) rfl (by decide) (by decide) ?_
  rintro T10 Lc10 _ X10 ⟨r10, kb10, rfl, N10q, K10q, c10_1, c10_2⟩
  have N10 := Fr.app N6 N10q
  have E_oa_10 := E_oa.keep K10q
  have F_oa_cells_10 := F_oa_cells.keep K10q nin0
  have F_oa_sets_10 := F_oa_sets.keep K10q nin0
  have V_oz_10 := V_oz.keep K10q nin0
  have E_ot_10 := E_ot.keep K10q
  have F_ot_buckets_10 := F_ot_buckets.keep K10q nin0
  have Z10 := Nat.le_trans Z0 K10q.1
  have K10 := K0.trans K10q all0
  have ne_oa_r10 : oa ≠ r10 := Nat.ne_of_lt (Nat.lt_of_lt_of_le F_oa_sets.lt c10_2)
  have ne_oz_r10 : oz ≠ r10 := Nat.ne_of_lt (Nat.lt_of_lt_of_le V_oz.lt c10_2)
  have ne_ot_r10 : ot ≠ r10 := Nat.ne_of_lt (Nat.lt_of_lt_of_le F_ot_buckets.lt c10_2)
  have g_r10 : n0 ≤ r10 := Nat.le_trans Z0 c10_2
  have sz_r10 : h0.size ≤ r10 := Nat.le_trans K0.1 c10_2
  obtain ⟨T11, h11, X11, e11, W11, st11⟩ := putF X10 hx hZ hown (host := "") (Or.inl (own_W hw 39 rfl)) Via.refl rfl F_oa_cells_10 E_oa_10 (Or.inl (own_W hw 40 rfl)) (own_W hw 16 rfl) (ty := (.array .long)) (by decide) rfl rfl (g := (mkF m 82 #[rv oa, iv 1, jv vb, sS, rv ot, iv 4, iv 8, iv 8, uS, uS] [(.ref r10), (.ref oa)])) rfl rfl (hb hby d10_82)
  refine own_Fin.go st11 ?_
  have F_oa_cells_11 := Fld.same W11 F_oa_cells_10
  have E_oa_11 := Exa.wr W11 E_oa_10
  have F_oa_sets_11 := Fld.other W11 F_oa_sets_10 (Or.inr (slot_ne (Or.inl (own_W hw 44 rfl)) (Or.inl (own_W hw 40 rfl)) (by decide) (t := (.array (.object "java/lang/Object"))) (t' := (.array .long)) (by decide) (by decide)))
  have V_oz_11 := Arv.other V_oz_10 W11 (Ne.symm ne_oa_oz)
  have E_ot_11 := Exa.wr W11 E_ot_10
  have F_ot_buckets_11 := Fld.other W11 F_ot_buckets_10 (Or.inl (Ne.symm ne_oa_ot))
  have V_r10_11 := Arv.other c10_1 W11 (Ne.symm ne_oa_r10)
  have Z11 := Nat.le_trans Z10 (Keep.of_wr W11).1
  have K11 := K10.wr W11 (Or.inl (List.mem_of_getElem? (i := 0) rfl))
  have N11 := Fr.snoc X11 N10 g_oa
  refine own_Fin.go (fun t k => XS.aloadN X11.here hx rfl (hb hby d10_85) rfl rfl k) ?_
  refine own_gF X11 hx hZ hown (own_W hw 39 rfl) e11 F_oa_cells_11 rfl rfl (hb hby d10_86) ?_
  intro T12 X12 e12
  refine own_Fin.go (fun t k => XS.iload X12.here hx rfl (hb hby d10_89) rfl (XS.aloadN X12.here hx rfl (hb hby d10_91) rfl rfl k)) ?_
  refine own_gF X12 hx hZ hown (own_W hw 39 rfl) e12 F_oa_cells_11 rfl rfl (hb hby d10_92) ?_
  intro T13 X13 e13
  show own_Fin _ _ _ _ _ _ _ (T13.setTop (mkF m 95 #[rv oa, iv 1, jv vb, sS, rv ot, iv 4, iv 8, iv 8, uS, uS] [(.ref r10), (.int 4), (.ref r10)]))
  refine own_Fin.go (fun t k => XS.iload X13.here hx rfl (hb hby d10_95) rfl (XS.iconst X13.here hx rfl (hb hby d10_97) (XS.iadd X13.here hx rfl (hb hby d10_98) rfl k))) ?_
  show own_Fin _ _ _ _ _ _ _ (T13.setTop (mkF m 99 #[rv oa, iv 1, jv vb, sS, rv ot, iv 4, iv 8, iv 8, uS, uS] [(.int ((4 : Int32) + (2 : Int32))), (.ref r10), (.int 4), (.ref r10)]))
  rw [show ((4 : Int32) + (2 : Int32)) = (6 : Int32) from by decide +kernel]
  refine own_Fin.go (fun t k => XS.iload X13.here hx rfl (hb hby d10_99) rfl (XS.iload X13.here hx rfl (hb hby d10_101) rfl (XS.isub X13.here hx rfl (hb hby d10_103) rfl k))) ?_
  show own_Fin _ _ _ _ _ _ _ (T13.setTop (mkF m 104 #[rv oa, iv 1, jv vb, sS, rv ot, iv 4, iv 8, iv 8, uS, uS] [(.int ((8 : Int32) - (4 : Int32))), (.int 6), (.ref r10), (.int 4), (.ref r10)]))
  rw [show ((8 : Int32) - (4 : Int32)) = (4 : Int32) from by decide +kernel]
  obtain ⟨T14, h14, L14, X14, e14, N14, K14q, V14c, st14⟩ := cpA X13 hx hZ hown (own_W hw 95 rfl) (own_W hw 94 rfl) (own_W hw 92 rfl) (own_W hw 93 rfl) e13 V_r10_11 V_r10_11 (us := [(.long ya), (.long wa), (.long yb), (.long wb)]) (Or.inl ⟨rfl, rfl⟩) (by decide) (by decide) (by decide) (by decide) (by decide) rfl (Nat.le_of_ble_eq_true rfl) N11 g_r10 (g := (mkF m 104 #[rv oa, iv 1, jv vb, sS, rv ot, iv 4, iv 8, iv 8, uS, uS] [(.int 4), (.int 6), (.ref r10), (.int 4), (.ref r10)])) rfl (by rw [hml]; rfl) rfl (hb hby d10_104) (by decide) (W := 0) (Nat.le_of_eq rfl) (by decide)
  refine own_Fin.go st14 ?_
  have V_r10_14 : Arv Z h14 r10 kb10 .long (10 : Int32) [(.long 3458764515968024577), (.long 0), (.long yp), (.long wp), (.long ya), (.long wa), (.long ya), (.long wa), (.long yb), (.long wb)] (.long 0) := V14c
  have E_oa_14 := E_oa_11.keep K14q
  have F_oa_cells_14 := F_oa_cells_11.keep K14q (ninS ne_oa_r10 nin0)
  have F_oa_sets_14 := F_oa_sets_11.keep K14q (ninS ne_oa_r10 nin0)
  have E_ot_14 := E_ot_11.keep K14q
  have F_ot_buckets_14 := F_ot_buckets_11.keep K14q (ninS ne_ot_r10 nin0)
  have Z14 := Nat.le_trans Z11 K14q.1
  have K14 := K11.trans K14q (allS (Or.inr sz_r10) all0)
  refine own_Fin.go (fun t k => XS.aloadN X14.here hx rfl (hb hby d10_107) rfl rfl k) ?_
  refine own_gF X14 hx hZ hown (own_W hw 39 rfl) e14 F_oa_cells_14 rfl rfl (hb hby d10_108) ?_
  intro T15 X15 e15
  refine own_Fin.go (fun t k => XS.iload X15.here hx rfl (hb hby d10_111) rfl (XS.lloadN X15.here hx rfl (hb hby d10_113) rfl k)) ?_
  obtain ⟨cl16, Ar16, q16, S16, N16l, H16, G16⟩ := (id V_r10_14)
  have hin16 : ¬ ((4 : Int32) < 0 ∨ cl16.slots.size ≤ ((4 : Int32)).toNatClampNeg) := inb_of S16 ⟨by decide, by decide⟩
  obtain ⟨T16, h16, X16, e16, W16, st16⟩ := stJ X15 hx hZ e15 Ar16 (j := (4 : Int32)) hin16 (g := (mkF m 114 #[rv oa, iv 1, jv vb, sS, rv ot, iv 4, iv 8, iv 8, uS, uS] [(.long vb), (.int 4), (.ref r10)])) rfl rfl (hb hby d10_114)
  refine own_Fin.go st16 ?_
  have V_r10_16 := Arv.set Ar16 q16 S16 N16l H16 G16 rfl W16 4 rfl (Nat.le_of_ble_eq_true rfl)
  replace V_r10_16 : Arv Z h16 r10 kb10 .long (10 : Int32) [(.long 3458764515968024577), (.long 0), (.long yp), (.long wp), (.long vb), (.long wa), (.long ya), (.long wa), (.long yb), (.long wb)] (.long 0) := V_r10_16
  have E_oa_16 := Exa.wr W16 E_oa_14
  have F_oa_cells_16 := Fld.other W16 F_oa_cells_14 (Or.inl ne_oa_r10)
  have F_oa_sets_16 := Fld.other W16 F_oa_sets_14 (Or.inl ne_oa_r10)
  have E_ot_16 := Exa.wr W16 E_ot_14
  have F_ot_buckets_16 := Fld.other W16 F_ot_buckets_14 (Or.inl ne_ot_r10)
  have Z16 := Nat.le_trans Z14 (Keep.of_wr W16).1
  have K16 := K14.wr W16 (Or.inr sz_r10)
  have N16 := Fr.snoc X16 N14 g_r10
  show own_Fin _ _ _ _ _ _ _ (T16.setTop (mkF m 115 #[rv oa, iv 1, jv vb, sS, rv ot, iv 4, iv 8, iv 8, uS, uS] []))
  refine own_Fin.go (fun t k => XS.aloadN X16.here hx rfl (hb hby d10_115) rfl rfl k) ?_
  refine own_gF X16 hx hZ hown (own_W hw 39 rfl) e16 F_oa_cells_16 rfl rfl (hb hby d10_116) ?_
  intro T17 X17 e17
  refine own_Fin.go (fun t k => XS.iload X17.here hx rfl (hb hby d10_119) rfl (XS.iconst X17.here hx rfl (hb hby d10_121) (XS.iadd X17.here hx rfl (hb hby d10_122) rfl k))) ?_
  show own_Fin _ _ _ _ _ _ _ (T17.setTop (mkF m 123 #[rv oa, iv 1, jv vb, sS, rv ot, iv 4, iv 8, iv 8, uS, uS] [(.int ((4 : Int32) + (1 : Int32))), (.ref r10)]))
  rw [show ((4 : Int32) + (1 : Int32)) = (5 : Int32) from by decide +kernel]
  refine own_Fin.go (fun t k => XS.lconst X17.here hx rfl (hb hby d10_123) k) ?_
  obtain ⟨cl18, Ar18, q18, S18, N18l, H18, G18⟩ := (id V_r10_16)
  have hin18 : ¬ ((5 : Int32) < 0 ∨ cl18.slots.size ≤ ((5 : Int32)).toNatClampNeg) := inb_of S18 ⟨by decide, by decide⟩
  obtain ⟨T18, h18, X18, e18, W18, st18⟩ := stJ X17 hx hZ e17 Ar18 (j := (5 : Int32)) hin18 (g := (mkF m 124 #[rv oa, iv 1, jv vb, sS, rv ot, iv 4, iv 8, iv 8, uS, uS] [(.long 0), (.int 5), (.ref r10)])) rfl rfl (hb hby d10_124)
  refine own_Fin.go st18 ?_
  have V_r10_18 := Arv.set Ar18 q18 S18 N18l H18 G18 rfl W18 5 rfl (Nat.le_of_ble_eq_true rfl)
  replace V_r10_18 : Arv Z h18 r10 kb10 .long (10 : Int32) [(.long 3458764515968024577), (.long 0), (.long yp), (.long wp), (.long vb), (.long 0), (.long ya), (.long wa), (.long yb), (.long wb)] (.long 0) := V_r10_18
  have E_oa_18 := Exa.wr W18 E_oa_16
  have F_oa_cells_18 := Fld.other W18 F_oa_cells_16 (Or.inl ne_oa_r10)
  have F_oa_sets_18 := Fld.other W18 F_oa_sets_16 (Or.inl ne_oa_r10)
  have E_ot_18 := Exa.wr W18 E_ot_16
  have F_ot_buckets_18 := Fld.other W18 F_ot_buckets_16 (Or.inl ne_ot_r10)
  have Z18 := Nat.le_trans Z16 (Keep.of_wr W18).1
  have K18 := K16.wr W18 (Or.inr sz_r10)
  have N18 := Fr.snoc X18 N16 g_r10
  refine own_Fin.go (fun t k => XS.aloadN X18.here hx rfl (hb hby d10_125) rfl rfl k) ?_
  refine own_gF X18 hx hZ hown (own_W hw 43 rfl) e18 F_oa_sets_18 rfl rfl (hb hby d10_126) ?_
  intro T19 X19 e19
  refine own_Fin.go (fun t k => XS.ifnullYes X19.here hx rfl (pc0 := 129) (pc' := 216) rfl (hb hby d10_129) rfl (by decide) (by decide) k) ?_
  show own_Fin _ _ _ _ _ _ _ (T19.setTop (mkF m 216 #[rv oa, iv 1, jv vb, sS, rv ot, iv 4, iv 8, iv 8, uS, uS] []))
  refine own_Fin.go (fun t k => XS.aloadN X19.here hx rfl (hb hby d10_216) rfl rfl (XS.iloadN X19.here hx rfl (hb hby d10_217) rfl (XS.aloadN X19.here hx rfl (hb hby d10_218) rfl rfl (XS.iloadN X19.here hx rfl (hb hby d10_219) rfl k)))) ?_
  refine own_pC X19 hx hZ hown (own_W hw 70 rfl) (own_W hw 71 rfl) (own_W hw 48 rfl) rfl (own_W hw 72 rfl) (own_W hw 73 rfl) (own_W hw 17 rfl) (by decide) (own_rm_len1 l Z a0 hw [] oa r10 kb10 (10 : Int32) (3458764515968024577 : Int64) (0 : Int64) ([(.long yp), (.long wp), (.long vb), (.long 0), (.long ya), (.long wa), (.long yb), (.long wb)]) h18 n0 Z18 F_oa_cells_18 V_r10_18 (by decide)) 2 (by decide) (by decide) e19 E_oa_18 rfl (by rw [hml]; rfl) [(.int 1)] (lenOf own_pd1 rfl) rfl (Nat.le_of_eq rfl) (hb hby d10_220) rfl (by decide) (by decide) ?_
  rintro T20 Lc20 _ X20 ⟨rfl, N20q, e20⟩
  have N20 := Fr.app N18 N20q
  show own_Fin _ _ _ _ _ _ _ (T20.setTop (mkF m 223 #[rv oa, iv 1, jv vb, sS, rv ot, iv 4, iv 8, iv 8, uS, uS] [(.int (own_lenb (3458764515968024577 : Int64))), (.int 1), (.ref oa)]))
  rw [show (own_lenb (3458764515968024577 : Int64)) = (2 : Int32) from by decide +kernel]
  refine own_Fin.go (fun t k => XS.iconst X20.here hx rfl (hb hby d10_223) (XS.iadd X20.here hx rfl (hb hby d10_224) rfl k)) ?_
  show own_Fin _ _ _ _ _ _ _ (T20.setTop (mkF m 225 #[rv oa, iv 1, jv vb, sS, rv ot, iv 4, iv 8, iv 8, uS, uS] [(.int ((2 : Int32) + (1 : Int32))), (.int 1), (.ref oa)]))
  rw [show ((2 : Int32) + (1 : Int32)) = (3 : Int32) from by decide +kernel]
  refine own_pC X20 hx hZ hown (own_W hw 96 rfl) (own_W hw 97 rfl) (own_W hw 48 rfl) rfl (own_W hw 98 rfl) (own_W hw 99 rfl) (own_W hw 17 rfl) (by decide) (own_rm_sl1 l Z a0 hw [] oa (3 : Int32) r10 kb10 (10 : Int32) (3458764515968024577 : Int64) (0 : Int64) ([(.long yp), (.long wp), (.long vb), (.long 0), (.long ya), (.long wa), (.long yb), (.long wb)]) h18 n0 Z18 F_oa_cells_18 V_r10_18 (by decide) g_r10 ne_oa_r10) 0 (by decide) (by decide) e20 E_oa_18 rfl (by rw [hml]; rfl) [(.int 1), (.int 3)] (lenOf own_pd6 rfl) rfl (Nat.le_of_eq rfl) (hb hby d10_225) rfl (by decide) (by decide) ?_
  rintro T21 Lc21 _ X21 ⟨rfl, N21q, K21q, c21_1⟩
  have N21 := Fr.app N20 N21q
  have E_oa_21 := E_oa_18.keep K21q
  have F_oa_cells_21 := F_oa_cells_18.keep K21q (ninS ne_oa_r10 nin0)
  have F_oa_sets_21 := F_oa_sets_18.keep K21q (ninS ne_oa_r10 nin0)
  have E_ot_21 := E_ot_18.keep K21q
  have F_ot_buckets_21 := F_ot_buckets_18.keep K21q (ninS ne_ot_r10 nin0)
  have Z21 := Nat.le_trans Z18 K21q.1
  have K21 := K18.trans K21q (allS (Or.inr sz_r10) all0)
  rw [show (own_slb (3458764515968024577 : Int64) (3 : Int32)) = (3458764517041766401 : Int64) from by decide +kernel] at c21_1
  refine own_Fin.go (fun t k => XS.aload X21.here hx rfl (hb hby d10_228) rfl rfl (XS.dup X21.here hx rfl (hb hby d10_230) rfl rfl k)) ?_
  refine own_gF X21 hx hZ hown (own_W hw 101 rfl) rfl F_ot_buckets_21 rfl rfl (hb hby d10_231) ?_
  intro T22 X22 e22
  refine own_Fin.go (fun t k => XS.lconst X22.here hx rfl (hb hby d10_234) (XS.ladd X22.here hx rfl (hb hby d10_235) rfl k)) ?_
  obtain ⟨T23, h23, X23, e23, W23, st23⟩ := putF X22 hx hZ hown (host := "") (Or.inl (own_W hw 101 rfl)) Via.refl e22 F_ot_buckets_21 E_ot_21 (Or.inl (own_W hw 102 rfl)) (own_W hw 7 rfl) (ty := .long) (by decide) rfl rfl (g := (mkF m 236 #[rv oa, iv 1, jv vb, sS, rv ot, iv 4, iv 8, iv 8, uS, uS] [(.long (ub + (1 : Int64))), (.ref ot)])) rfl rfl (hb hby d10_236)
  refine own_Fin.go st23 ?_
  have F_ot_buckets_23 := Fld.same W23 F_ot_buckets_21
  have E_oa_23 := Exa.wr W23 E_oa_21
  have F_oa_cells_23 := Fld.other W23 F_oa_cells_21 (Or.inl ne_oa_ot)
  have F_oa_sets_23 := Fld.other W23 F_oa_sets_21 (Or.inl ne_oa_ot)
  have E_ot_23 := Exa.wr W23 E_ot_21
  have V_r10_23 := Arv.other c21_1 W23 (Ne.symm ne_ot_r10)
  have Z23 := Nat.le_trans Z21 (Keep.of_wr W23).1
  have K23 := K21.wr W23 (Or.inl (List.mem_of_getElem? (i := 1) rfl))
  have N23 := Fr.snoc X23 N21 g_ot
  show own_Fin _ _ _ _ _ _ _ (T23.setTop (mkF m 239 #[rv oa, iv 1, jv vb, sS, rv ot, iv 4, iv 8, iv 8, uS, uS] []))
  refine own_Fin.go (fun t k => XS.iload X23.here hx rfl (hb hby d10_239) rfl k) ?_
  refine own_retI X23 hx Bd.returns (hb hby d10_241) Bd.notSynchronized (by decide) (by decide) ?_
  rw [e23]
  exact ⟨r10, kb10, rfl, N23, K23, E_oa_23, F_oa_cells_23, F_oa_sets_23, V_r10_23, E_ot_23, F_ot_buckets_23, sz_r10, ne_oa_r10, ne_ot_r10⟩
theorem own_ef_adD0n (m : MethodId) (oa : Addr) (vb : Int64) (va : Int64) (ot : Addr) : entryFrame m #[(.ref oa), (.int 1), (.long vb), (.long va), (.ref ot)] 8 = mkF m 0 #[rv oa, iv 1, jv vb, sS, jv va, sS, rv ot, uS] [] := by first | (simp [entryFrame, mkF, argsToLocals, Value.category]; done) | rfl
def own_Q_adD0n (Z : State) (oa : Addr) (vb : Int64) (va : Int64) (ot : Addr) (oz : Addr) (kz : ClassId) (yp : Int64) (wp : Int64) (ya : Int64) (wa : Int64) (yb : Int64) (wb : Int64) (ub : Int64) (h0 : Heap) (n0 : Nat) (v : Option Value) (h : Heap) (L : List Loc) : Prop := ∃ ob : Addr, ∃ kb : ClassId, v = none ∧ Fr n0 L ∧ Keep h0 h [oa, ot, oz] ∧ Exa Z h oa own_k0 ∧ Fld Z h oa own_k0 "cells" "[J" (.ref ob) ∧ Fld Z h oa own_k0 "sets" "[Ljava/lang/Object;" .null ∧ Arv Z h ob kb .long (10 : Int32) [(.long 3458764517041766401), (.long 0), (.long yp), (.long wp), (.long vb), (.long (own_sat (0 : Int64) va)), (.long ya), (.long wa), (.long yb), (.long wb)] (.long 0) ∧ Exa Z h ot own_k2 ∧ Fld Z h ot own_k2 "buckets" "J" (.long (ub + (1 : Int64))) ∧ h0.size ≤ ob ∧ oa ≠ ob ∧ ot ≠ ob
set_option maxRecDepth 65536 in
set_option maxHeartbeats 40000000 in
theorem own_rm_adD0n (l : Launch) (Z : State) (a0 : Array Value) (hw : ∀ d ∈ tables_1, d.before a0 Z = true) (ws : List Jvm.Cond) (oa : Addr) (vb : Int64) (va : Int64) (ot : Addr) (oz : Addr) (kz : ClassId) (yp : Int64) (wp : Int64) (ya : Int64) (wa : Int64) (yb : Int64) (wb : Int64) (ub : Int64) (h0 : Heap) (n0 : Nat) (Z0 : n0 ≤ h0.size) (E_oa : Exa Z h0 oa own_k0) (F_oa_cells : Fld Z h0 oa own_k0 "cells" "[J" (.ref oz)) (F_oa_sets : Fld Z h0 oa own_k0 "sets" "[Ljava/lang/Object;" .null) (V_oz : Arv Z h0 oz kz .long (8 : Int32) [(.long 3458764515968024577), (.long 0), (.long yp), (.long wp), (.long ya), (.long wa), (.long yb), (.long wb)] (.long 0)) (E_ot : Exa Z h0 ot own_k2) (F_ot_buckets : Fld Z h0 ot own_k2 "buckets" "J" (.long ub)) (g_oa : n0 ≤ oa) (g_oz : n0 ≤ oz) (g_ot : n0 ≤ ot) (ne_oa_ot : oa ≠ ot) (ne_oa_oz : oa ≠ oz) (ne_ot_oz : ot ≠ oz) (qyb : ¬ yb < vb) (qya : ¬ ya < vb) (qe : ¬ ya = vb) :
    MetFree l own_y17 (head1 (Jvm.Cond.code own_y17 prog_4_method_4_code 8 none :: ws) ({ frames := 5, cells := 1, slots := 10, locals := 76 } : Room)) (fun a U => a = #[(.ref oa), (.int 1), (.long vb), (.long va), (.ref ot)] ∧ Z.Warmed39 U.vm ∧ U.heap = h0) (fun _ _ _ _ _ => True) (fun _ U o U' => ∃ v L, o = .returned v ∧ own_Q_adD0n Z oa vb va ot oz kz yp wp ya wa yb wb ub h0 n0 v U'.heap L ∧ FrameEnd U o U' L ({ frames := 5, cells := 1, slots := 10, locals := 76 } : Room).cells ({ frames := 5, cells := 1, slots := 10, locals := 76 } : Room).slots) := by
  refine MetFree.of_bodySF (plainFor_of_name own_pn0) hisR ?_
  intro p e s m args below meth c s₁ Bd hml0 hP hK
  obtain ⟨rfl, hZ, hh⟩ := hP
  have hx := Bd.exec
  have hby := Bd.bytes
  have hml : c.maxLocals = 8 := hml0
  have hown : s.vm.findClass own_k0 = some m.cls := findClass_of_methodNamed Bd.named
  have hnm := (name_of_methodNamed Bd.named Bd.method).1
  have X0 : Stand p l e ({ frames := 5, cells := 1, slots := 10, locals := 76 } : Room) s m #[(.ref oa), (.int 1), (.long vb), (.long va), (.ref ot)] below meth c s₁ [] 0 0 := Stand.of_body Bd
  have e0 : s₁.heap = h0 := by rw [← hh, Bd.state]; rfl
  have N0 := Fr.nil n0
  have K0 := Keep.refl h0 [oa, ot, oz]
  show own_Fin p e below s (own_Q_adD0n Z oa vb va ot oz kz yp wp ya wa yb wb ub h0 n0) ({ frames := 5, cells := 1, slots := 10, locals := 76 } : Room).cells ({ frames := 5, cells := 1, slots := 10, locals := 76 } : Room).slots (s₁.setTop (entryFrame m #[(.ref oa), (.int 1), (.long vb), (.long va), (.ref ot)] 8))
  refine own_Fin.go (fun t k => castTop (own_ef_adD0n m oa vb va ot) k) ?_
  refine own_Fin.go (fun t k => XS.aloadN X0.here hx rfl (hb hby d1_0) rfl rfl (XS.iloadN X0.here hx rfl (hb hby d1_1) rfl (XS.lloadN X0.here hx rfl (hb hby d1_2) rfl (XS.aload X0.here hx rfl (hb hby d1_3) rfl rfl k)))) ?_
  show own_Fin _ _ _ _ _ _ _ (s₁.setTop (mkF m 5 #[rv oa, iv 1, jv vb, sS, jv va, sS, rv ot, uS] [(.ref ot), (.long vb), (.int 1), (.ref oa)]))
  refine own_pC X0 hx hZ hown (own_W hw 50 rfl) (own_W hw 51 rfl) (own_W hw 48 rfl) rfl (own_W hw 52 rfl) (own_W hw 53 rfl) (own_W hw 17 rfl) (by decide) (own_rm_soD0n l Z a0 hw [] oa vb ot oz kz yp wp ya wa yb wb ub h0 n0 Z0 E_oa F_oa_cells F_oa_sets V_oz E_ot F_ot_buckets g_oa g_oz g_ot ne_oa_ot ne_oa_oz ne_ot_oz (by assumption) (by assumption) (by assumption)) 0 (by decide) (by decide) e0 E_oa rfl (by rw [hml]; rfl) [(.int 1), (.long vb), (.ref ot)] (lenOf own_pd7 rfl) rfl (Nat.le_of_eq rfl) (hb hby d1_5) rfl (by decide) (by decide) ?_
  rintro T1 Lc1 _ X1 ⟨ob1, kb1, rfl, N1q, K1q, c1_1, c1_2, c1_3, c1_4, c1_5, c1_6, c1_7, c1_8, c1_9⟩
  have N1 := Fr.app N0 N1q
  have Z1 := Nat.le_trans Z0 K1q.1
  have K1 := K0.trans K1q (allS (Or.inl (List.mem_of_getElem? (i := 0) rfl)) (allS (Or.inl (List.mem_of_getElem? (i := 1) rfl)) (allS (Or.inl (List.mem_of_getElem? (i := 2) rfl)) all0)))
  have ne_oa_ob1 : oa ≠ ob1 := Nat.ne_of_lt (Nat.lt_of_lt_of_le F_oa_sets.lt c1_7)
  have ne_oz_ob1 : oz ≠ ob1 := Nat.ne_of_lt (Nat.lt_of_lt_of_le V_oz.lt c1_7)
  have ne_ot_ob1 : ot ≠ ob1 := Nat.ne_of_lt (Nat.lt_of_lt_of_le F_ot_buckets.lt c1_7)
  have g_ob1 : n0 ≤ ob1 := Nat.le_trans Z0 c1_7
  have sz_ob1 : h0.size ≤ ob1 := Nat.le_trans K0.1 c1_7
  refine own_Fin.go (fun t k => XS.istore X1.here hx rfl (hb hby d1_8) rfl (l' := #[rv oa, iv 1, jv vb, sS, jv va, sS, rv ot, iv 4]) rfl (XS.aloadN X1.here hx rfl (hb hby d1_10) rfl rfl k)) ?_
  refine own_gF X1 hx hZ hown (own_W hw 39 rfl) rfl c1_2 rfl rfl (hb hby d1_11) ?_
  intro T2 X2 e2
  refine own_Fin.go (fun t k => XS.iload X2.here hx rfl (hb hby d1_14) rfl k) ?_
  show own_Fin _ _ _ _ _ _ _ (T2.setTop (mkF m 16 #[rv oa, iv 1, jv vb, sS, jv va, sS, rv ot, iv 4] [(.int 4), (.ref ob1)]))
  refine own_Fin.go (fun t k => XS.iconst X2.here hx rfl (hb hby d1_16) (XS.iadd X2.here hx rfl (hb hby d1_17) rfl k)) ?_
  show own_Fin _ _ _ _ _ _ _ (T2.setTop (mkF m 18 #[rv oa, iv 1, jv vb, sS, jv va, sS, rv ot, iv 4] [(.int ((4 : Int32) + (1 : Int32))), (.ref ob1)]))
  rw [show ((4 : Int32) + (1 : Int32)) = (5 : Int32) from by decide +kernel]
  refine own_Fin.go (fun t k => XS.aloadN X2.here hx rfl (hb hby d1_18) rfl rfl k) ?_
  refine own_gF X2 hx hZ hown (own_W hw 39 rfl) e2 c1_2 rfl rfl (hb hby d1_19) ?_
  intro T3 X3 e3
  refine own_Fin.go (fun t k => XS.iload X3.here hx rfl (hb hby d1_22) rfl (XS.iconst X3.here hx rfl (hb hby d1_24) (XS.iadd X3.here hx rfl (hb hby d1_25) rfl k))) ?_
  show own_Fin _ _ _ _ _ _ _ (T3.setTop (mkF m 26 #[rv oa, iv 1, jv vb, sS, jv va, sS, rv ot, iv 4] [(.int ((4 : Int32) + (1 : Int32))), (.ref ob1), (.int 5), (.ref ob1)]))
  rw [show ((4 : Int32) + (1 : Int32)) = (5 : Int32) from by decide +kernel]
  refine own_lal X3 hx hZ e3 c1_4 ⟨by decide, by decide⟩ (v := (0 : Int64)) rfl rfl rfl (hb hby d1_26) ?_
  refine own_Fin.go (fun t k => XS.lload X3.here hx rfl (hb hby d1_27) rfl k) ?_
  refine own_sC X3 hx hZ hown (own_W hw 103 rfl) (own_W hw 104 rfl) (own_W hw 17 rfl) (own_W hw 105 rfl) (by decide) (own_rm_sat l Z a0 hw [] (0 : Int64) va  T1.heap n0 Z1 ) 2 (by decide) (by decide) e3 rfl (by rw [hml]; rfl) [(.long 0), (.long va)] [(.int 5), (.ref ob1)] (lenOf own_pd8 rfl) rfl (Nat.le_of_eq rfl) (hb hby d1_29) rfl (by decide) (by decide) ?_
  rintro T5 Lc5 _ X5 ⟨rfl, N5q, e5⟩
  have N5 := Fr.app N1 N5q
  obtain ⟨cl6, Ar6, q6, S6, N6l, H6, G6⟩ := (id c1_4)
  have hin6 : ¬ ((5 : Int32) < 0 ∨ cl6.slots.size ≤ ((5 : Int32)).toNatClampNeg) := inb_of S6 ⟨by decide, by decide⟩
  obtain ⟨T6, h6, X6, e6, W6, st6⟩ := stJ X5 hx hZ e5 Ar6 (j := (5 : Int32)) hin6 (g := (mkF m 32 #[rv oa, iv 1, jv vb, sS, jv va, sS, rv ot, iv 4] [(.long (own_sat (0 : Int64) va)), (.int 5), (.ref ob1)])) rfl rfl (hb hby d1_32)
  refine own_Fin.go st6 ?_
  have V_ob1_6 := Arv.set Ar6 q6 S6 N6l H6 G6 rfl W6 5 rfl (Nat.le_of_ble_eq_true rfl)
  replace V_ob1_6 : Arv Z h6 ob1 kb1 .long (10 : Int32) [(.long 3458764517041766401), (.long 0), (.long yp), (.long wp), (.long vb), (.long (own_sat (0 : Int64) va)), (.long ya), (.long wa), (.long yb), (.long wb)] (.long 0) := V_ob1_6
  have E_oa_6 := Exa.wr W6 c1_1
  have F_oa_cells_6 := Fld.other W6 c1_2 (Or.inl c1_8)
  have F_oa_sets_6 := Fld.other W6 c1_3 (Or.inl c1_8)
  have E_ot_6 := Exa.wr W6 c1_5
  have F_ot_buckets_6 := Fld.other W6 c1_6 (Or.inl c1_9)
  have Z6 := Nat.le_trans Z1 (Keep.of_wr W6).1
  have K6 := K1.wr W6 (Or.inr sz_ob1)
  have N6 := Fr.snoc X6 N5 g_ob1
  show own_Fin _ _ _ _ _ _ _ (T6.setTop (mkF m 33 #[rv oa, iv 1, jv vb, sS, jv va, sS, rv ot, iv 4] []))
  refine own_ret0 X6 hx Bd.returns (hb hby d1_33) Bd.notSynchronized (by decide) (by decide) ?_
  rw [e6]
  exact ⟨ob1, kb1, rfl, N6, K6, E_oa_6, F_oa_cells_6, F_oa_sets_6, V_ob1_6, E_ot_6, F_ot_buckets_6, sz_ob1, c1_8, c1_9⟩
theorem own_ef_soD1e (m : MethodId) (oa : Addr) (vb : Int64) (ot : Addr) : entryFrame m #[(.ref oa), (.int 1), (.long vb), (.ref ot)] 10 = mkF m 0 #[rv oa, iv 1, jv vb, sS, rv ot, uS, uS, uS, uS, uS] [] := by first | (simp [entryFrame, mkF, argsToLocals, Value.category]; done) | rfl
def own_Q_soD1e (Z : State) (oa : Addr) (vb : Int64) (ot : Addr) (oz : Addr) (kz : ClassId) (yp : Int64) (wp : Int64) (ya : Int64) (wa : Int64) (yb : Int64) (wb : Int64) (ub : Int64) (h0 : Heap) (n0 : Nat) (v : Option Value) (h : Heap) (L : List Loc) : Prop := v = some (.int 6) ∧ Fr n0 L ∧ h = h0
set_option maxRecDepth 65536 in
set_option maxHeartbeats 40000000 in
theorem own_rm_soD1e (l : Launch) (Z : State) (a0 : Array Value) (hw : ∀ d ∈ tables_1, d.before a0 Z = true) (ws : List Jvm.Cond) (oa : Addr) (vb : Int64) (ot : Addr) (oz : Addr) (kz : ClassId) (yp : Int64) (wp : Int64) (ya : Int64) (wa : Int64) (yb : Int64) (wb : Int64) (ub : Int64) (h0 : Heap) (n0 : Nat) (Z0 : n0 ≤ h0.size) (E_oa : Exa Z h0 oa own_k0) (F_oa_cells : Fld Z h0 oa own_k0 "cells" "[J" (.ref oz)) (F_oa_sets : Fld Z h0 oa own_k0 "sets" "[Ljava/lang/Object;" .null) (V_oz : Arv Z h0 oz kz .long (8 : Int32) [(.long 3458764515968024577), (.long 0), (.long yp), (.long wp), (.long ya), (.long wa), (.long yb), (.long wb)] (.long 0)) (E_ot : Exa Z h0 ot own_k2) (F_ot_buckets : Fld Z h0 ot own_k2 "buckets" "J" (.long ub)) (g_oa : n0 ≤ oa) (g_oz : n0 ≤ oz) (g_ot : n0 ≤ ot) (ne_oa_ot : oa ≠ ot) (ne_oa_oz : oa ≠ oz) (ne_ot_oz : ot ≠ oz) (qyb : ¬ yb < vb) (qya : ya < vb) (qe : yb = vb) :
    MetFree l own_y16 (head1 (Jvm.Cond.code own_y16 prog_4_method_10_code 10 (some .int) :: ws) ({ frames := 4, cells := 0, slots := 0, locals := 55 } : Room)) (fun a U => a = #[(.ref oa), (.int 1), (.long vb), (.ref ot)] ∧ Z.Warmed39 U.vm ∧ U.heap = h0) (fun _ _ _ _ _ => True) (fun _ U o U' => ∃ v L, o = .returned v ∧ own_Q_soD1e Z oa vb ot oz kz yp wp ya wa yb wb ub h0 n0 v U'.heap L ∧ FrameEnd U o U' L ({ frames := 4, cells := 0, slots := 0, locals := 55 } : Room).cells ({ frames := 4, cells := 0, slots := 0, locals := 55 } : Room).slots) := by
  refine MetFree.of_bodySF (plainFor_of_name own_pn0) hisR ?_
  intro p e s m args below meth c s₁ Bd hml0 hP hK
  obtain ⟨rfl, hZ, hh⟩ := hP
  have hx := Bd.exec
  have hby := Bd.bytes
  have hml : c.maxLocals = 10 := hml0
  have hown : s.vm.findClass own_k0 = some m.cls := findClass_of_methodNamed Bd.named
  have hnm := (name_of_methodNamed Bd.named Bd.method).1
  have X0 : Stand p l e ({ frames := 4, cells := 0, slots := 0, locals := 55 } : Room) s m #[(.ref oa), (.int 1), (.long vb), (.ref ot)] below meth c s₁ [] 0 0 := Stand.of_body Bd
  have e0 : s₁.heap = h0 := by rw [← hh, Bd.state]; rfl
  have N0 := Fr.nil n0
  show own_Fin p e below s (own_Q_soD1e Z oa vb ot oz kz yp wp ya wa yb wb ub h0 n0) ({ frames := 4, cells := 0, slots := 0, locals := 55 } : Room).cells ({ frames := 4, cells := 0, slots := 0, locals := 55 } : Room).slots (s₁.setTop (entryFrame m #[(.ref oa), (.int 1), (.long vb), (.ref ot)] 10))
  refine own_Fin.go (fun t k => castTop (own_ef_soD1e m oa vb ot) k) ?_
  refine own_Fin.go (fun t k => XS.aloadN X0.here hx rfl (hb hby d10_0) rfl rfl (XS.iloadN X0.here hx rfl (hb hby d10_1) rfl (XS.lloadN X0.here hx rfl (hb hby d10_2) rfl k))) ?_
  refine own_pC X0 hx hZ hown (own_W hw 54 rfl) (own_W hw 55 rfl) (own_W hw 48 rfl) rfl (own_W hw 56 rfl) (own_W hw 57 rfl) (own_W hw 17 rfl) (by decide) (own_rm_ix2 l Z a0 hw [] oa vb oz kz (8 : Int32) (3458764515968024577 : Int64) (0 : Int64) yp wp ya wa yb wb ([]) h0 n0 Z0 E_oa F_oa_cells V_oz (by decide) (by decide) (by decide)) 0 (by decide) (by decide) e0 E_oa rfl (by rw [hml]; rfl) [(.int 1), (.long vb)] (lenOf own_pd4 rfl) rfl (Nat.le_of_eq rfl) (hb hby d10_3) rfl (by decide) (by decide) ?_
  rintro T1 Lc1 _ X1 ⟨rfl, N1q, e1⟩
  have N1 := Fr.app N0 N1q
  show own_Fin _ _ _ _ _ _ _ (T1.setTop (mkF m 6 #[rv oa, iv 1, jv vb, sS, rv ot, uS, uS, uS, uS, uS] [(.int (own_lb2 ya yb vb))]))
  rw [show (own_lb2 ya yb vb) = (6 : Int32) from by simp only [own_lb2, if_neg qyb, if_pos qya]]
  refine own_Fin.go (fun t k => XS.istore X1.here hx rfl (hb hby d10_6) rfl (l' := #[rv oa, iv 1, jv vb, sS, rv ot, iv 6, uS, uS, uS, uS]) rfl (XS.aloadN X1.here hx rfl (hb hby d10_8) rfl rfl (XS.iloadN X1.here hx rfl (hb hby d10_9) rfl k))) ?_
  refine own_pC X1 hx hZ hown (own_W hw 58 rfl) (own_W hw 59 rfl) (own_W hw 48 rfl) rfl (own_W hw 60 rfl) (own_W hw 61 rfl) (own_W hw 17 rfl) (by decide) (own_rm_st1 l Z a0 hw [] oa oz kz (8 : Int32) (3458764515968024577 : Int64) (0 : Int64) ([(.long yp), (.long wp), (.long ya), (.long wa), (.long yb), (.long wb)]) h0 n0 Z0 E_oa F_oa_cells V_oz (by decide)) 0 (by decide) (by decide) e1 E_oa rfl (by rw [hml]; rfl) [(.int 1)] (lenOf own_pd1 rfl) rfl (Nat.le_of_eq rfl) (hb hby d10_10) rfl (by decide) (by decide) ?_
  rintro T2 Lc2 _ X2 ⟨rfl, N2q, e2⟩
  have N2 := Fr.app N1 N2q
  show own_Fin _ _ _ _ _ _ _ (T2.setTop (mkF m 13 #[rv oa, iv 1, jv vb, sS, rv ot, iv 6, uS, uS, uS, uS] [(.int (own_stb (3458764515968024577 : Int64)))]))
  rw [show (own_stb (3458764515968024577 : Int64)) = (4 : Int32) from by decide +kernel]
  refine own_Fin.go (fun t k => XS.iconst X2.here hx rfl (hb hby d10_13) (XS.aloadN X2.here hx rfl (hb hby d10_14) rfl rfl (XS.iloadN X2.here hx rfl (hb hby d10_15) rfl k))) ?_
  refine own_pC X2 hx hZ hown (own_W hw 70 rfl) (own_W hw 71 rfl) (own_W hw 48 rfl) rfl (own_W hw 72 rfl) (own_W hw 73 rfl) (own_W hw 17 rfl) (by decide) (own_rm_len1 l Z a0 hw [] oa oz kz (8 : Int32) (3458764515968024577 : Int64) (0 : Int64) ([(.long yp), (.long wp), (.long ya), (.long wa), (.long yb), (.long wb)]) h0 n0 Z0 F_oa_cells V_oz (by decide)) 2 (by decide) (by decide) e2 E_oa rfl (by rw [hml]; rfl) [(.int 1)] (lenOf own_pd1 rfl) rfl (Nat.le_of_eq rfl) (hb hby d10_16) rfl (by decide) (by decide) ?_
  rintro T3 Lc3 _ X3 ⟨rfl, N3q, e3⟩
  have N3 := Fr.app N2 N3q
  show own_Fin _ _ _ _ _ _ _ (T3.setTop (mkF m 19 #[rv oa, iv 1, jv vb, sS, rv ot, iv 6, uS, uS, uS, uS] [(.int (own_lenb (3458764515968024577 : Int64))), (.int 2), (.int 4)]))
  rw [show (own_lenb (3458764515968024577 : Int64)) = (2 : Int32) from by decide +kernel]
  refine own_Fin.go (fun t k => XS.imul X3.here hx rfl (hb hby d10_19) rfl k) ?_
  show own_Fin _ _ _ _ _ _ _ (T3.setTop (mkF m 20 #[rv oa, iv 1, jv vb, sS, rv ot, iv 6, uS, uS, uS, uS] [(.int ((2 : Int32) * (2 : Int32))), (.int 4)]))
  rw [show ((2 : Int32) * (2 : Int32)) = (4 : Int32) from by decide +kernel]
  refine own_Fin.go (fun t k => XS.iadd X3.here hx rfl (hb hby d10_20) rfl k) ?_
  show own_Fin _ _ _ _ _ _ _ (T3.setTop (mkF m 21 #[rv oa, iv 1, jv vb, sS, rv ot, iv 6, uS, uS, uS, uS] [(.int ((4 : Int32) + (4 : Int32)))]))
  rw [show ((4 : Int32) + (4 : Int32)) = (8 : Int32) from by decide +kernel]
  refine own_Fin.go (fun t k => XS.istore X3.here hx rfl (hb hby d10_21) rfl (l' := #[rv oa, iv 1, jv vb, sS, rv ot, iv 6, iv 8, uS, uS, uS]) rfl (XS.iload X3.here hx rfl (hb hby d10_23) rfl (XS.iload X3.here hx rfl (hb hby d10_25) rfl (XS.icmpNo X3.here hx rfl (hb hby d10_27) rfl (by decide) k)))) ?_
  refine own_Fin.go (fun t k => XS.aloadN X3.here hx rfl (hb hby d10_30) rfl rfl k) ?_
  refine own_gF X3 hx hZ hown (own_W hw 39 rfl) e3 F_oa_cells rfl rfl (hb hby d10_31) ?_
  intro T4 X4 e4
  show own_Fin _ _ _ _ _ _ _ (T4.setTop (mkF m 34 #[rv oa, iv 1, jv vb, sS, rv ot, iv 6, iv 8, uS, uS, uS] [(.ref oz)]))
  refine own_Fin.go (fun t k => XS.iload X4.here hx rfl (hb hby d10_34) rfl k) ?_
  refine own_lal X4 hx hZ e4 V_oz ⟨by decide, by decide⟩ (v := yb) rfl rfl rfl (hb hby d10_36) ?_
  refine own_Fin.go (fun t k => XS.lloadN X4.here hx rfl (hb hby d10_37) rfl (XS.lcmp X4.here hx rfl (hb hby d10_38) rfl k)) ?_
  have hc39 : yb = vb := qe
  refine own_Fin.go (fun t k => XS.ifNo X4.here hx rfl (hb hby d10_39) rfl (Jvm.Free.XT.ll_ne_f hc39) k) ?_
  show own_Fin _ _ _ _ _ _ _ (T4.setTop (mkF m 42 #[rv oa, iv 1, jv vb, sS, rv ot, iv 6, iv 8, uS, uS, uS] []))
  refine own_Fin.go (fun t k => XS.iload X4.here hx rfl (hb hby d10_42) rfl k) ?_
  refine own_retI X4 hx Bd.returns (hb hby d10_44) Bd.notSynchronized (by decide) (by decide) ?_
  rw [e4]
  exact ⟨rfl, N3, rfl⟩
theorem own_ef_adD1e (m : MethodId) (oa : Addr) (vb : Int64) (va : Int64) (ot : Addr) : entryFrame m #[(.ref oa), (.int 1), (.long vb), (.long va), (.ref ot)] 8 = mkF m 0 #[rv oa, iv 1, jv vb, sS, jv va, sS, rv ot, uS] [] := by first | (simp [entryFrame, mkF, argsToLocals, Value.category]; done) | rfl
def own_Q_adD1e (Z : State) (oa : Addr) (vb : Int64) (va : Int64) (ot : Addr) (oz : Addr) (kz : ClassId) (yp : Int64) (wp : Int64) (ya : Int64) (wa : Int64) (yb : Int64) (wb : Int64) (ub : Int64) (h0 : Heap) (n0 : Nat) (v : Option Value) (h : Heap) (L : List Loc) : Prop := v = none ∧ Fr n0 L ∧ Keep h0 h [oa, ot, oz] ∧ Exa Z h oa own_k0 ∧ Fld Z h oa own_k0 "cells" "[J" (.ref oz) ∧ Fld Z h oa own_k0 "sets" "[Ljava/lang/Object;" .null ∧ Arv Z h oz kz .long (8 : Int32) [(.long 3458764515968024577), (.long 0), (.long yp), (.long wp), (.long ya), (.long wa), (.long yb), (.long (own_sat wb va))] (.long 0) ∧ Exa Z h ot own_k2 ∧ Fld Z h ot own_k2 "buckets" "J" (.long ub)
set_option maxRecDepth 65536 in
set_option maxHeartbeats 40000000 in
theorem own_rm_adD1e (l : Launch) (Z : State) (a0 : Array Value) (hw : ∀ d ∈ tables_1, d.before a0 Z = true) (ws : List Jvm.Cond) (oa : Addr) (vb : Int64) (va : Int64) (ot : Addr) (oz : Addr) (kz : ClassId) (yp : Int64) (wp : Int64) (ya : Int64) (wa : Int64) (yb : Int64) (wb : Int64) (ub : Int64) (h0 : Heap) (n0 : Nat) (Z0 : n0 ≤ h0.size) (E_oa : Exa Z h0 oa own_k0) (F_oa_cells : Fld Z h0 oa own_k0 "cells" "[J" (.ref oz)) (F_oa_sets : Fld Z h0 oa own_k0 "sets" "[Ljava/lang/Object;" .null) (V_oz : Arv Z h0 oz kz .long (8 : Int32) [(.long 3458764515968024577), (.long 0), (.long yp), (.long wp), (.long ya), (.long wa), (.long yb), (.long wb)] (.long 0)) (E_ot : Exa Z h0 ot own_k2) (F_ot_buckets : Fld Z h0 ot own_k2 "buckets" "J" (.long ub)) (g_oa : n0 ≤ oa) (g_oz : n0 ≤ oz) (g_ot : n0 ≤ ot) (ne_oa_ot : oa ≠ ot) (ne_oa_oz : oa ≠ oz) (ne_ot_oz : ot ≠ oz) (qyb : ¬ yb < vb) (qya : ya < vb) (qe : yb = vb) :
    MetFree l own_y17 (head1 (Jvm.Cond.code own_y17 prog_4_method_4_code 8 none :: ws) ({ frames := 5, cells := 0, slots := 0, locals := 76 } : Room)) (fun a U => a = #[(.ref oa), (.int 1), (.long vb), (.long va), (.ref ot)] ∧ Z.Warmed39 U.vm ∧ U.heap = h0) (fun _ _ _ _ _ => True) (fun _ U o U' => ∃ v L, o = .returned v ∧ own_Q_adD1e Z oa vb va ot oz kz yp wp ya wa yb wb ub h0 n0 v U'.heap L ∧ FrameEnd U o U' L ({ frames := 5, cells := 0, slots := 0, locals := 76 } : Room).cells ({ frames := 5, cells := 0, slots := 0, locals := 76 } : Room).slots) := by
  refine MetFree.of_bodySF (plainFor_of_name own_pn0) hisR ?_
  intro p e s m args below meth c s₁ Bd hml0 hP hK
  obtain ⟨rfl, hZ, hh⟩ := hP
  have hx := Bd.exec
  have hby := Bd.bytes
  have hml : c.maxLocals = 8 := hml0
  have hown : s.vm.findClass own_k0 = some m.cls := findClass_of_methodNamed Bd.named
  have hnm := (name_of_methodNamed Bd.named Bd.method).1
  have X0 : Stand p l e ({ frames := 5, cells := 0, slots := 0, locals := 76 } : Room) s m #[(.ref oa), (.int 1), (.long vb), (.long va), (.ref ot)] below meth c s₁ [] 0 0 := Stand.of_body Bd
  have e0 : s₁.heap = h0 := by rw [← hh, Bd.state]; rfl
  have N0 := Fr.nil n0
  have K0 := Keep.refl h0 [oa, ot, oz]
  show own_Fin p e below s (own_Q_adD1e Z oa vb va ot oz kz yp wp ya wa yb wb ub h0 n0) ({ frames := 5, cells := 0, slots := 0, locals := 76 } : Room).cells ({ frames := 5, cells := 0, slots := 0, locals := 76 } : Room).slots (s₁.setTop (entryFrame m #[(.ref oa), (.int 1), (.long vb), (.long va), (.ref ot)] 8))
  refine own_Fin.go (fun t k => castTop (own_ef_adD1e m oa vb va ot) k) ?_
  refine own_Fin.go (fun t k => XS.aloadN X0.here hx rfl (hb hby d1_0) rfl rfl (XS.iloadN X0.here hx rfl (hb hby d1_1) rfl (XS.lloadN X0.here hx rfl (hb hby d1_2) rfl (XS.aload X0.here hx rfl (hb hby d1_3) rfl rfl k)))) ?_
  show own_Fin _ _ _ _ _ _ _ (s₁.setTop (mkF m 5 #[rv oa, iv 1, jv vb, sS, jv va, sS, rv ot, uS] [(.ref ot), (.long vb), (.int 1), (.ref oa)]))
  refine own_pC X0 hx hZ hown (own_W hw 50 rfl) (own_W hw 51 rfl) (own_W hw 48 rfl) rfl (own_W hw 52 rfl) (own_W hw 53 rfl) (own_W hw 17 rfl) (by decide) (own_rm_soD1e l Z a0 hw [] oa vb ot oz kz yp wp ya wa yb wb ub h0 n0 Z0 E_oa F_oa_cells F_oa_sets V_oz E_ot F_ot_buckets g_oa g_oz g_ot ne_oa_ot ne_oa_oz ne_ot_oz (by assumption) (by assumption) (by assumption)) 0 (by decide) (by decide) e0 E_oa rfl (by rw [hml]; rfl) [(.int 1), (.long vb), (.ref ot)] (lenOf own_pd7 rfl) rfl (Nat.le_of_eq rfl) (hb hby d1_5) rfl (by decide) (by decide) ?_
  rintro T1 Lc1 _ X1 ⟨rfl, N1q, e1⟩
  have N1 := Fr.app N0 N1q
  refine own_Fin.go (fun t k => XS.istore X1.here hx rfl (hb hby d1_8) rfl (l' := #[rv oa, iv 1, jv vb, sS, jv va, sS, rv ot, iv 6]) rfl (XS.aloadN X1.here hx rfl (hb hby d1_10) rfl rfl k)) ?_
  refine own_gF X1 hx hZ hown (own_W hw 39 rfl) e1 F_oa_cells rfl rfl (hb hby d1_11) ?_
  intro T2 X2 e2
  refine own_Fin.go (fun t k => XS.iload X2.here hx rfl (hb hby d1_14) rfl k) ?_
  show own_Fin _ _ _ _ _ _ _ (T2.setTop (mkF m 16 #[rv oa, iv 1, jv vb, sS, jv va, sS, rv ot, iv 6] [(.int 6), (.ref oz)]))
  refine own_Fin.go (fun t k => XS.iconst X2.here hx rfl (hb hby d1_16) (XS.iadd X2.here hx rfl (hb hby d1_17) rfl k)) ?_
  show own_Fin _ _ _ _ _ _ _ (T2.setTop (mkF m 18 #[rv oa, iv 1, jv vb, sS, jv va, sS, rv ot, iv 6] [(.int ((6 : Int32) + (1 : Int32))), (.ref oz)]))
  rw [show ((6 : Int32) + (1 : Int32)) = (7 : Int32) from by decide +kernel]
  refine own_Fin.go (fun t k => XS.aloadN X2.here hx rfl (hb hby d1_18) rfl rfl k) ?_
  refine own_gF X2 hx hZ hown (own_W hw 39 rfl) e2 F_oa_cells rfl rfl (hb hby d1_19) ?_
  intro T3 X3 e3
  refine own_Fin.go (fun t k => XS.iload X3.here hx rfl (hb hby d1_22) rfl (XS.iconst X3.here hx rfl (hb hby d1_24) (XS.iadd X3.here hx rfl (hb hby d1_25) rfl k))) ?_
  show own_Fin _ _ _ _ _ _ _ (T3.setTop (mkF m 26 #[rv oa, iv 1, jv vb, sS, jv va, sS, rv ot, iv 6] [(.int ((6 : Int32) + (1 : Int32))), (.ref oz), (.int 7), (.ref oz)]))
  rw [show ((6 : Int32) + (1 : Int32)) = (7 : Int32) from by decide +kernel]
  refine own_lal X3 hx hZ e3 V_oz ⟨by decide, by decide⟩ (v := wb) rfl rfl rfl (hb hby d1_26) ?_
  refine own_Fin.go (fun t k => XS.lload X3.here hx rfl (hb hby d1_27) rfl k) ?_
  refine own_sC X3 hx hZ hown (own_W hw 103 rfl) (own_W hw 104 rfl) (own_W hw 17 rfl) (own_W hw 105 rfl) (by decide) (own_rm_sat l Z a0 hw [] wb va  h0 n0 Z0 ) 2 (by decide) (by decide) e3 rfl (by rw [hml]; rfl) [(.long wb), (.long va)] [(.int 7), (.ref oz)] (lenOf own_pd8 rfl) rfl (Nat.le_of_eq rfl) (hb hby d1_29) rfl (by decide) (by decide) ?_
  rintro T5 Lc5 _ X5 ⟨rfl, N5q, e5⟩
  have N5 := Fr.app N1 N5q
  obtain ⟨cl6, Ar6, q6, S6, N6l, H6, G6⟩ := (id V_oz)
  have hin6 : ¬ ((7 : Int32) < 0 ∨ cl6.slots.size ≤ ((7 : Int32)).toNatClampNeg) := inb_of S6 ⟨by decide, by decide⟩
  obtain ⟨T6, h6, X6, e6, W6, st6⟩ := stJ X5 hx hZ e5 Ar6 (j := (7 : Int32)) hin6 (g := (mkF m 32 #[rv oa, iv 1, jv vb, sS, jv va, sS, rv ot, iv 6] [(.long (own_sat wb va)), (.int 7), (.ref oz)])) rfl rfl (hb hby d1_32)
  refine own_Fin.go st6 ?_
  have V_oz_6 := Arv.set Ar6 q6 S6 N6l H6 G6 rfl W6 7 rfl (Nat.le_of_ble_eq_true rfl)
  replace V_oz_6 : Arv Z h6 oz kz .long (8 : Int32) [(.long 3458764515968024577), (.long 0), (.long yp), (.long wp), (.long ya), (.long wa), (.long yb), (.long (own_sat wb va))] (.long 0) := V_oz_6
  have E_oa_6 := Exa.wr W6 E_oa
  have F_oa_cells_6 := Fld.other W6 F_oa_cells (Or.inl ne_oa_oz)
  have F_oa_sets_6 := Fld.other W6 F_oa_sets (Or.inl ne_oa_oz)
  have E_ot_6 := Exa.wr W6 E_ot
  have F_ot_buckets_6 := Fld.other W6 F_ot_buckets (Or.inl ne_ot_oz)
  have Z6 := Nat.le_trans Z0 (Keep.of_wr W6).1
  have K6 := K0.wr W6 (Or.inl (List.mem_of_getElem? (i := 2) rfl))
  have N6 := Fr.snoc X6 N5 g_oz
  show own_Fin _ _ _ _ _ _ _ (T6.setTop (mkF m 33 #[rv oa, iv 1, jv vb, sS, jv va, sS, rv ot, iv 6] []))
  refine own_ret0 X6 hx Bd.returns (hb hby d1_33) Bd.notSynchronized (by decide) (by decide) ?_
  rw [e6]
  exact ⟨rfl, N6, K6, E_oa_6, F_oa_cells_6, F_oa_sets_6, V_oz_6, E_ot_6, F_ot_buckets_6⟩
theorem own_ef_soD1n (m : MethodId) (oa : Addr) (vb : Int64) (ot : Addr) : entryFrame m #[(.ref oa), (.int 1), (.long vb), (.ref ot)] 10 = mkF m 0 #[rv oa, iv 1, jv vb, sS, rv ot, uS, uS, uS, uS, uS] [] := by first | (simp [entryFrame, mkF, argsToLocals, Value.category]; done) | rfl
def own_Q_soD1n (Z : State) (oa : Addr) (vb : Int64) (ot : Addr) (oz : Addr) (kz : ClassId) (yp : Int64) (wp : Int64) (ya : Int64) (wa : Int64) (yb : Int64) (wb : Int64) (ub : Int64) (h0 : Heap) (n0 : Nat) (v : Option Value) (h : Heap) (L : List Loc) : Prop := ∃ ob : Addr, ∃ kb : ClassId, v = some (.int 6) ∧ Fr n0 L ∧ Keep h0 h [oa, ot, oz] ∧ Exa Z h oa own_k0 ∧ Fld Z h oa own_k0 "cells" "[J" (.ref ob) ∧ Fld Z h oa own_k0 "sets" "[Ljava/lang/Object;" .null ∧ Arv Z h ob kb .long (10 : Int32) [(.long 3458764517041766401), (.long 0), (.long yp), (.long wp), (.long ya), (.long wa), (.long vb), (.long 0), (.long yb), (.long wb)] (.long 0) ∧ Exa Z h ot own_k2 ∧ Fld Z h ot own_k2 "buckets" "J" (.long (ub + (1 : Int64))) ∧ h0.size ≤ ob ∧ oa ≠ ob ∧ ot ≠ ob
set_option maxRecDepth 65536 in
set_option maxHeartbeats 40000000 in
theorem own_rm_soD1n (l : Launch) (Z : State) (a0 : Array Value) (hw : ∀ d ∈ tables_1, d.before a0 Z = true) (ws : List Jvm.Cond) (oa : Addr) (vb : Int64) (ot : Addr) (oz : Addr) (kz : ClassId) (yp : Int64) (wp : Int64) (ya : Int64) (wa : Int64) (yb : Int64) (wb : Int64) (ub : Int64) (h0 : Heap) (n0 : Nat) (Z0 : n0 ≤ h0.size) (E_oa : Exa Z h0 oa own_k0) (F_oa_cells : Fld Z h0 oa own_k0 "cells" "[J" (.ref oz)) (F_oa_sets : Fld Z h0 oa own_k0 "sets" "[Ljava/lang/Object;" .null) (V_oz : Arv Z h0 oz kz .long (8 : Int32) [(.long 3458764515968024577), (.long 0), (.long yp), (.long wp), (.long ya), (.long wa), (.long yb), (.long wb)] (.long 0)) (E_ot : Exa Z h0 ot own_k2) (F_ot_buckets : Fld Z h0 ot own_k2 "buckets" "J" (.long ub)) (g_oa : n0 ≤ oa) (g_oz : n0 ≤ oz) (g_ot : n0 ≤ ot) (ne_oa_ot : oa ≠ ot) (ne_oa_oz : oa ≠ oz) (ne_ot_oz : ot ≠ oz) (qyb : ¬ yb < vb) (qya : ya < vb) (qe : ¬ yb = vb) :
    MetFree l own_y16 (head1 (Jvm.Cond.code own_y16 prog_4_method_10_code 10 (some .int) :: ws) ({ frames := 4, cells := 1, slots := 10, locals := 55 } : Room)) (fun a U => a = #[(.ref oa), (.int 1), (.long vb), (.ref ot)] ∧ Z.Warmed39 U.vm ∧ U.heap = h0) (fun _ _ _ _ _ => True) (fun _ U o U' => ∃ v L, o = .returned v ∧ own_Q_soD1n Z oa vb ot oz kz yp wp ya wa yb wb ub h0 n0 v U'.heap L ∧ FrameEnd U o U' L ({ frames := 4, cells := 1, slots := 10, locals := 55 } : Room).cells ({ frames := 4, cells := 1, slots := 10, locals := 55 } : Room).slots) := by
  refine MetFree.of_bodySF (plainFor_of_name own_pn0) hisR ?_
  intro p e s m args below meth c s₁ Bd hml0 hP hK
  obtain ⟨rfl, hZ, hh⟩ := hP
  have hx := Bd.exec
  have hby := Bd.bytes
  have hml : c.maxLocals = 10 := hml0
  have hown : s.vm.findClass own_k0 = some m.cls := findClass_of_methodNamed Bd.named
  have hnm := (name_of_methodNamed Bd.named Bd.method).1
  have X0 : Stand p l e ({ frames := 4, cells := 1, slots := 10, locals := 55 } : Room) s m #[(.ref oa), (.int 1), (.long vb), (.ref ot)] below meth c s₁ [] 0 0 := Stand.of_body Bd
  have e0 : s₁.heap = h0 := by rw [← hh, Bd.state]; rfl
  have N0 := Fr.nil n0
  have K0 := Keep.refl h0 [oa, ot, oz]
  show own_Fin p e below s (own_Q_soD1n Z oa vb ot oz kz yp wp ya wa yb wb ub h0 n0) ({ frames := 4, cells := 1, slots := 10, locals := 55 } : Room).cells ({ frames := 4, cells := 1, slots := 10, locals := 55 } : Room).slots (s₁.setTop (entryFrame m #[(.ref oa), (.int 1), (.long vb), (.ref ot)] 10))
  refine own_Fin.go (fun t k => castTop (own_ef_soD1n m oa vb ot) k) ?_
  refine own_Fin.go (fun t k => XS.aloadN X0.here hx rfl (hb hby d10_0) rfl rfl (XS.iloadN X0.here hx rfl (hb hby d10_1) rfl (XS.lloadN X0.here hx rfl (hb hby d10_2) rfl k))) ?_
  refine own_pC X0 hx hZ hown (own_W hw 54 rfl) (own_W hw 55 rfl) (own_W hw 48 rfl) rfl (own_W hw 56 rfl) (own_W hw 57 rfl) (own_W hw 17 rfl) (by decide) (own_rm_ix2 l Z a0 hw [] oa vb oz kz (8 : Int32) (3458764515968024577 : Int64) (0 : Int64) yp wp ya wa yb wb ([]) h0 n0 Z0 E_oa F_oa_cells V_oz (by decide) (by decide) (by decide)) 0 (by decide) (by decide) e0 E_oa rfl (by rw [hml]; rfl) [(.int 1), (.long vb)] (lenOf own_pd4 rfl) rfl (Nat.le_of_eq rfl) (hb hby d10_3) rfl (by decide) (by decide) ?_
  rintro T1 Lc1 _ X1 ⟨rfl, N1q, e1⟩
  have N1 := Fr.app N0 N1q
  show own_Fin _ _ _ _ _ _ _ (T1.setTop (mkF m 6 #[rv oa, iv 1, jv vb, sS, rv ot, uS, uS, uS, uS, uS] [(.int (own_lb2 ya yb vb))]))
  rw [show (own_lb2 ya yb vb) = (6 : Int32) from by simp only [own_lb2, if_neg qyb, if_pos qya]]
  refine own_Fin.go (fun t k => XS.istore X1.here hx rfl (hb hby d10_6) rfl (l' := #[rv oa, iv 1, jv vb, sS, rv ot, iv 6, uS, uS, uS, uS]) rfl (XS.aloadN X1.here hx rfl (hb hby d10_8) rfl rfl (XS.iloadN X1.here hx rfl (hb hby d10_9) rfl k))) ?_
  refine own_pC X1 hx hZ hown (own_W hw 58 rfl) (own_W hw 59 rfl) (own_W hw 48 rfl) rfl (own_W hw 60 rfl) (own_W hw 61 rfl) (own_W hw 17 rfl) (by decide) (own_rm_st1 l Z a0 hw [] oa oz kz (8 : Int32) (3458764515968024577 : Int64) (0 : Int64) ([(.long yp), (.long wp), (.long ya), (.long wa), (.long yb), (.long wb)]) h0 n0 Z0 E_oa F_oa_cells V_oz (by decide)) 0 (by decide) (by decide) e1 E_oa rfl (by rw [hml]; rfl) [(.int 1)] (lenOf own_pd1 rfl) rfl (Nat.le_of_eq rfl) (hb hby d10_10) rfl (by decide) (by decide) ?_
  rintro T2 Lc2 _ X2 ⟨rfl, N2q, e2⟩
  have N2 := Fr.app N1 N2q
  show own_Fin _ _ _ _ _ _ _ (T2.setTop (mkF m 13 #[rv oa, iv 1, jv vb, sS, rv ot, iv 6, uS, uS, uS, uS] [(.int (own_stb (3458764515968024577 : Int64)))]))
  rw [show (own_stb (3458764515968024577 : Int64)) = (4 : Int32) from by decide +kernel]
  refine own_Fin.go (fun t k => XS.iconst X2.here hx rfl (hb hby d10_13) (XS.aloadN X2.here hx rfl (hb hby d10_14) rfl rfl (XS.iloadN X2.here hx rfl (hb hby d10_15) rfl k))) ?_
  refine own_pC X2 hx hZ hown (own_W hw 70 rfl) (own_W hw 71 rfl) (own_W hw 48 rfl) rfl (own_W hw 72 rfl) (own_W hw 73 rfl) (own_W hw 17 rfl) (by decide) (own_rm_len1 l Z a0 hw [] oa oz kz (8 : Int32) (3458764515968024577 : Int64) (0 : Int64) ([(.long yp), (.long wp), (.long ya), (.long wa), (.long yb), (.long wb)]) h0 n0 Z0 F_oa_cells V_oz (by decide)) 2 (by decide) (by decide) e2 E_oa rfl (by rw [hml]; rfl) [(.int 1)] (lenOf own_pd1 rfl) rfl (Nat.le_of_eq rfl) (hb hby d10_16) rfl (by decide) (by decide) ?_
  rintro T3 Lc3 _ X3 ⟨rfl, N3q, e3⟩
  have N3 := Fr.app N2 N3q
  show own_Fin _ _ _ _ _ _ _ (T3.setTop (mkF m 19 #[rv oa, iv 1, jv vb, sS, rv ot, iv 6, uS, uS, uS, uS] [(.int (own_lenb (3458764515968024577 : Int64))), (.int 2), (.int 4)]))
  rw [show (own_lenb (3458764515968024577 : Int64)) = (2 : Int32) from by decide +kernel]
  refine own_Fin.go (fun t k => XS.imul X3.here hx rfl (hb hby d10_19) rfl k) ?_
  show own_Fin _ _ _ _ _ _ _ (T3.setTop (mkF m 20 #[rv oa, iv 1, jv vb, sS, rv ot, iv 6, uS, uS, uS, uS] [(.int ((2 : Int32) * (2 : Int32))), (.int 4)]))
  rw [show ((2 : Int32) * (2 : Int32)) = (4 : Int32) from by decide +kernel]
  refine own_Fin.go (fun t k => XS.iadd X3.here hx rfl (hb hby d10_20) rfl k) ?_
  show own_Fin _ _ _ _ _ _ _ (T3.setTop (mkF m 21 #[rv oa, iv 1, jv vb, sS, rv ot, iv 6, uS, uS, uS, uS] [(.int ((4 : Int32) + (4 : Int32)))]))
  rw [show ((4 : Int32) + (4 : Int32)) = (8 : Int32) from by decide +kernel]
  refine own_Fin.go (fun t k => XS.istore X3.here hx rfl (hb hby d10_21) rfl (l' := #[rv oa, iv 1, jv vb, sS, rv ot, iv 6, iv 8, uS, uS, uS]) rfl (XS.iload X3.here hx rfl (hb hby d10_23) rfl (XS.iload X3.here hx rfl (hb hby d10_25) rfl (XS.icmpNo X3.here hx rfl (hb hby d10_27) rfl (by decide) k)))) ?_
  refine own_Fin.go (fun t k => XS.aloadN X3.here hx rfl (hb hby d10_30) rfl rfl k) ?_
  refine own_gF X3 hx hZ hown (own_W hw 39 rfl) e3 F_oa_cells rfl rfl (hb hby d10_31) ?_
  intro T4 X4 e4
  show own_Fin _ _ _ _ _ _ _ (T4.setTop (mkF m 34 #[rv oa, iv 1, jv vb, sS, rv ot, iv 6, iv 8, uS, uS, uS] [(.ref oz)]))
  refine own_Fin.go (fun t k => XS.iload X4.here hx rfl (hb hby d10_34) rfl k) ?_
  refine own_lal X4 hx hZ e4 V_oz ⟨by decide, by decide⟩ (v := yb) rfl rfl rfl (hb hby d10_36) ?_
  refine own_Fin.go (fun t k => XS.lloadN X4.here hx rfl (hb hby d10_37) rfl (XS.lcmp X4.here hx rfl (hb hby d10_38) rfl k)) ?_
  have hc39 : ¬ (yb = vb) := qe
  refine own_Fin.go (fun t k => XS.ifYes X4.here hx rfl (pc0 := 39) (pc' := 45) rfl (hb hby d10_39) rfl (Jvm.Free.XT.ll_ne_t hc39) (by decide) (by decide) k) ?_
  show own_Fin _ _ _ _ _ _ _ (T4.setTop (mkF m 45 #[rv oa, iv 1, jv vb, sS, rv ot, iv 6, iv 8, uS, uS, uS] []))
  refine own_Fin.go (fun t k => XS.aloadN X4.here hx rfl (hb hby d10_45) rfl rfl k) ?_
  refine own_pC X4 hx hZ hown (own_W hw 79 rfl) (own_W hw 80 rfl) (own_W hw 48 rfl) rfl (own_W hw 81 rfl) (own_W hw 82 rfl) (own_W hw 17 rfl) (by decide) (own_rm_used l Z a0 hw [] oa oz kz (8 : Int32) (3458764515968024577 : Int64) (0 : Int64) ([(.long yp), (.long wp), (.long ya), (.long wa), (.long yb), (.long wb)]) h0 n0 Z0 E_oa F_oa_cells V_oz (by decide) (by decide)) 0 (by decide) (by decide) e4 E_oa rfl (by rw [hml]; rfl) [] (lenOf own_pd0 rfl) rfl (Nat.le_of_eq rfl) (hb hby d10_46) rfl (by decide) (by decide) ?_
  rintro T6 Lc6 _ X6 ⟨rfl, N6q, e6⟩
  have N6 := Fr.app N3 N6q
  show own_Fin _ _ _ _ _ _ _ (T6.setTop (mkF m 49 #[rv oa, iv 1, jv vb, sS, rv ot, iv 6, iv 8, uS, uS, uS] [(.int (own_std (3458764515968024577 : Int64) (0 : Int64)))]))
  rw [show (own_std (3458764515968024577 : Int64) (0 : Int64)) = (8 : Int32) from by decide +kernel]
  refine own_Fin.go (fun t k => XS.istore X6.here hx rfl (hb hby d10_49) rfl (l' := #[rv oa, iv 1, jv vb, sS, rv ot, iv 6, iv 8, iv 8, uS, uS]) rfl (XS.iload X6.here hx rfl (hb hby d10_51) rfl (XS.iconst X6.here hx rfl (hb hby d10_53) (XS.iadd X6.here hx rfl (hb hby d10_54) rfl k)))) ?_
  show own_Fin _ _ _ _ _ _ _ (T6.setTop (mkF m 55 #[rv oa, iv 1, jv vb, sS, rv ot, iv 6, iv 8, iv 8, uS, uS] [(.int ((8 : Int32) + (2 : Int32)))]))
  rw [show ((8 : Int32) + (2 : Int32)) = (10 : Int32) from by decide +kernel]
  refine own_Fin.go (fun t k => XS.aloadN X6.here hx rfl (hb hby d10_55) rfl rfl k) ?_
  refine own_gF X6 hx hZ hown (own_W hw 39 rfl) e6 F_oa_cells rfl rfl (hb hby d10_56) ?_
  intro T7 X7 e7
  obtain ⟨cl8, Ar8, -, S8, N8l, -, -⟩ := (id V_oz)
  refine own_Fin.go (fun t k => X7.arraylength hx (by rw [e7]; exact Ar8.1) (State.isArrayOf_alike hZ.alike Ar8.2.1) (g := (mkF m 59 #[rv oa, iv 1, jv vb, sS, rv ot, iv 6, iv 8, iv 8, uS, uS] [(.ref oz), (.int 10)])) rfl rfl (hb hby d10_59) t k) ?_
  rw [len_of S8 N8l]
  refine own_Fin.go (fun t k => XS.icmpNo X7.here hx rfl (hb hby d10_60) rfl (by decide) (XS.aloadN X7.here hx rfl (hb hby d10_63) rfl rfl (XS.aloadN X7.here hx rfl (hb hby d10_64) rfl rfl k))) ?_
  refine own_gF X7 hx hZ hown (own_W hw 39 rfl) e7 F_oa_cells rfl rfl (hb hby d10_65) ?_
  intro T9 X9 e9
  show own_Fin _ _ _ _ _ _ _ (T9.setTop (mkF m 68 #[rv oa, iv 1, jv vb, sS, rv ot, iv 6, iv 8, iv 8, uS, uS] [(.ref oz), (.ref oa)]))
  refine own_Fin.go (fun t k => XS.iload X9.here hx rfl (hb hby d10_68) rfl (XS.iconst X9.here hx rfl (hb hby d10_70) (XS.iadd X9.here hx rfl (hb hby d10_71) rfl k))) ?_
  show own_Fin _ _ _ _ _ _ _ (T9.setTop (mkF m 72 #[rv oa, iv 1, jv vb, sS, rv ot, iv 6, iv 8, iv 8, uS, uS] [(.int ((8 : Int32) + (2 : Int32))), (.ref oz), (.ref oa)]))
  rw [show ((8 : Int32) + (2 : Int32)) = (10 : Int32) from by decide +kernel]
  refine own_Fin.go (fun t k => XS.iload X9.here hx rfl (hb hby d10_72) rfl (XS.iconst X9.here hx rfl (hb hby d10_74) (XS.iushr X9.here hx rfl (hb hby d10_75) rfl k))) ?_
  show own_Fin _ _ _ _ _ _ _ (T9.setTop (mkF m 76 #[rv oa, iv 1, jv vb, sS, rv ot, iv 6, iv 8, iv 8, uS, uS] [(.int (((8 : Int32).toUInt32 >>> ((4 : Int32) &&& 31).toUInt32).toInt32)), (.int 10), (.ref oz), (.ref oa)]))
  rw [show (((8 : Int32).toUInt32 >>> ((4 : Int32) &&& 31).toUInt32).toInt32) = (0 : Int32) from by decide +kernel]
  refine own_Fin.go (fun t k => XS.iconst X9.here hx rfl (hb hby d10_76) (XS.ishl X9.here hx rfl (hb hby d10_77) rfl k)) ?_
  show own_Fin _ _ _ _ _ _ _ (T9.setTop (mkF m 78 #[rv oa, iv 1, jv vb, sS, rv ot, iv 6, iv 8, iv 8, uS, uS] [(.int ((0 : Int32) <<< ((1 : Int32) &&& 31))), (.int 10), (.ref oz), (.ref oa)]))
  rw [show ((0 : Int32) <<< ((1 : Int32) &&& 31)) = (0 : Int32) from by decide +kernel]
  refine own_Fin.go (fun t k => XS.iadd X9.here hx rfl (hb hby d10_78) rfl k) ?_
  show own_Fin _ _ _ _ _ _ _ (T9.setTop (mkF m 79 #[rv oa, iv 1, jv vb, sS, rv ot, iv 6, iv 8, iv 8, uS, uS] [(.int ((10 : Int32) + (0 : Int32))), (.ref oz), (.ref oa)]))
  rw [show ((10 : Int32) + (0 : Int32)) = (10 : Int32) from by decide +kernel]
  refine own_sC X9 hx hZ hown (own_W hw 83 rfl) (own_W hw 84 rfl) (own_W hw 85 rfl) (own_W hw 86 rfl) (by decide) (own_rm_cpy8 l Z a0 hw [] oz kz (3458764515968024577 : Int64) (0 : Int64) yp wp ya wa yb wb h0 n0 Z0 V_oz) 1 (by decide) (by decide) e9 rfl (by rw [hml]; rfl) [(.ref oz), (.int 10)] [(.ref oa)] (lenOf own_pd5 rfl) rfl (Nat.le_of_eq rfl) (hb hby d10_79) rfl (by decide) (by decide) ?_
  rintro T10 Lc10 _ X10 ⟨r10, kb10, rfl, N10q, K10q, c10_1, c10_2⟩
  have N10 := Fr.app N6 N10q
  have E_oa_10 := E_oa.keep K10q
  have F_oa_cells_10 := F_oa_cells.keep K10q nin0
  have F_oa_sets_10 := F_oa_sets.keep K10q nin0
  have V_oz_10 := V_oz.keep K10q nin0
  have E_ot_10 := E_ot.keep K10q
  have F_ot_buckets_10 := F_ot_buckets.keep K10q nin0
  have Z10 := Nat.le_trans Z0 K10q.1
  have K10 := K0.trans K10q all0
  have ne_oa_r10 : oa ≠ r10 := Nat.ne_of_lt (Nat.lt_of_lt_of_le F_oa_sets.lt c10_2)
  have ne_oz_r10 : oz ≠ r10 := Nat.ne_of_lt (Nat.lt_of_lt_of_le V_oz.lt c10_2)
  have ne_ot_r10 : ot ≠ r10 := Nat.ne_of_lt (Nat.lt_of_lt_of_le F_ot_buckets.lt c10_2)
  have g_r10 : n0 ≤ r10 := Nat.le_trans Z0 c10_2
  have sz_r10 : h0.size ≤ r10 := Nat.le_trans K0.1 c10_2
  obtain ⟨T11, h11, X11, e11, W11, st11⟩ := putF X10 hx hZ hown (host := "") (Or.inl (own_W hw 39 rfl)) Via.refl rfl F_oa_cells_10 E_oa_10 (Or.inl (own_W hw 40 rfl)) (own_W hw 16 rfl) (ty := (.array .long)) (by decide) rfl rfl (g := (mkF m 82 #[rv oa, iv 1, jv vb, sS, rv ot, iv 6, iv 8, iv 8, uS, uS] [(.ref r10), (.ref oa)])) rfl rfl (hb hby d10_82)
  refine own_Fin.go st11 ?_
  have F_oa_cells_11 := Fld.same W11 F_oa_cells_10
  have E_oa_11 := Exa.wr W11 E_oa_10
  have F_oa_sets_11 := Fld.other W11 F_oa_sets_10 (Or.inr (slot_ne (Or.inl (own_W hw 44 rfl)) (Or.inl (own_W hw 40 rfl)) (by decide) (t := (.array (.object "java/lang/Object"))) (t' := (.array .long)) (by decide) (by decide)))
  have V_oz_11 := Arv.other V_oz_10 W11 (Ne.symm ne_oa_oz)
  have E_ot_11 := Exa.wr W11 E_ot_10
  have F_ot_buckets_11 := Fld.other W11 F_ot_buckets_10 (Or.inl (Ne.symm ne_oa_ot))
  have V_r10_11 := Arv.other c10_1 W11 (Ne.symm ne_oa_r10)
  have Z11 := Nat.le_trans Z10 (Keep.of_wr W11).1
  have K11 := K10.wr W11 (Or.inl (List.mem_of_getElem? (i := 0) rfl))
  have N11 := Fr.snoc X11 N10 g_oa
  refine own_Fin.go (fun t k => XS.aloadN X11.here hx rfl (hb hby d10_85) rfl rfl k) ?_
  refine own_gF X11 hx hZ hown (own_W hw 39 rfl) e11 F_oa_cells_11 rfl rfl (hb hby d10_86) ?_
  intro T12 X12 e12
  refine own_Fin.go (fun t k => XS.iload X12.here hx rfl (hb hby d10_89) rfl (XS.aloadN X12.here hx rfl (hb hby d10_91) rfl rfl k)) ?_
  refine own_gF X12 hx hZ hown (own_W hw 39 rfl) e12 F_oa_cells_11 rfl rfl (hb hby d10_92) ?_
  intro T13 X13 e13
  show own_Fin _ _ _ _ _ _ _ (T13.setTop (mkF m 95 #[rv oa, iv 1, jv vb, sS, rv ot, iv 6, iv 8, iv 8, uS, uS] [(.ref r10), (.int 6), (.ref r10)]))
  refine own_Fin.go (fun t k => XS.iload X13.here hx rfl (hb hby d10_95) rfl (XS.iconst X13.here hx rfl (hb hby d10_97) (XS.iadd X13.here hx rfl (hb hby d10_98) rfl k))) ?_
  show own_Fin _ _ _ _ _ _ _ (T13.setTop (mkF m 99 #[rv oa, iv 1, jv vb, sS, rv ot, iv 6, iv 8, iv 8, uS, uS] [(.int ((6 : Int32) + (2 : Int32))), (.ref r10), (.int 6), (.ref r10)]))
  rw [show ((6 : Int32) + (2 : Int32)) = (8 : Int32) from by decide +kernel]
  refine own_Fin.go (fun t k => XS.iload X13.here hx rfl (hb hby d10_99) rfl (XS.iload X13.here hx rfl (hb hby d10_101) rfl (XS.isub X13.here hx rfl (hb hby d10_103) rfl k))) ?_
  show own_Fin _ _ _ _ _ _ _ (T13.setTop (mkF m 104 #[rv oa, iv 1, jv vb, sS, rv ot, iv 6, iv 8, iv 8, uS, uS] [(.int ((8 : Int32) - (6 : Int32))), (.int 8), (.ref r10), (.int 6), (.ref r10)]))
  rw [show ((8 : Int32) - (6 : Int32)) = (2 : Int32) from by decide +kernel]
  obtain ⟨T14, h14, L14, X14, e14, N14, K14q, V14c, st14⟩ := cpA X13 hx hZ hown (own_W hw 95 rfl) (own_W hw 94 rfl) (own_W hw 92 rfl) (own_W hw 93 rfl) e13 V_r10_11 V_r10_11 (us := [(.long yb), (.long wb)]) (Or.inl ⟨rfl, rfl⟩) (by decide) (by decide) (by decide) (by decide) (by decide) rfl (Nat.le_of_ble_eq_true rfl) N11 g_r10 (g := (mkF m 104 #[rv oa, iv 1, jv vb, sS, rv ot, iv 6, iv 8, iv 8, uS, uS] [(.int 2), (.int 8), (.ref r10), (.int 6), (.ref r10)])) rfl (by rw [hml]; rfl) rfl (hb hby d10_104) (by decide) (W := 0) (Nat.le_of_eq rfl) (by decide)
  refine own_Fin.go st14 ?_
  have V_r10_14 : Arv Z h14 r10 kb10 .long (10 : Int32) [(.long 3458764515968024577), (.long 0), (.long yp), (.long wp), (.long ya), (.long wa), (.long yb), (.long wb), (.long yb), (.long wb)] (.long 0) := V14c
  have E_oa_14 := E_oa_11.keep K14q
  have F_oa_cells_14 := F_oa_cells_11.keep K14q (ninS ne_oa_r10 nin0)
  have F_oa_sets_14 := F_oa_sets_11.keep K14q (ninS ne_oa_r10 nin0)
  have E_ot_14 := E_ot_11.keep K14q
  have F_ot_buckets_14 := F_ot_buckets_11.keep K14q (ninS ne_ot_r10 nin0)
  have Z14 := Nat.le_trans Z11 K14q.1
  have K14 := K11.trans K14q (allS (Or.inr sz_r10) all0)
  refine own_Fin.go (fun t k => XS.aloadN X14.here hx rfl (hb hby d10_107) rfl rfl k) ?_
  refine own_gF X14 hx hZ hown (own_W hw 39 rfl) e14 F_oa_cells_14 rfl rfl (hb hby d10_108) ?_
  intro T15 X15 e15
  refine own_Fin.go (fun t k => XS.iload X15.here hx rfl (hb hby d10_111) rfl (XS.lloadN X15.here hx rfl (hb hby d10_113) rfl k)) ?_
  obtain ⟨cl16, Ar16, q16, S16, N16l, H16, G16⟩ := (id V_r10_14)
  have hin16 : ¬ ((6 : Int32) < 0 ∨ cl16.slots.size ≤ ((6 : Int32)).toNatClampNeg) := inb_of S16 ⟨by decide, by decide⟩
  obtain ⟨T16, h16, X16, e16, W16, st16⟩ := stJ X15 hx hZ e15 Ar16 (j := (6 : Int32)) hin16 (g := (mkF m 114 #[rv oa, iv 1, jv vb, sS, rv ot, iv 6, iv 8, iv 8, uS, uS] [(.long vb), (.int 6), (.ref r10)])) rfl rfl (hb hby d10_114)
  refine own_Fin.go st16 ?_
  have V_r10_16 := Arv.set Ar16 q16 S16 N16l H16 G16 rfl W16 6 rfl (Nat.le_of_ble_eq_true rfl)
  replace V_r10_16 : Arv Z h16 r10 kb10 .long (10 : Int32) [(.long 3458764515968024577), (.long 0), (.long yp), (.long wp), (.long ya), (.long wa), (.long vb), (.long wb), (.long yb), (.long wb)] (.long 0) := V_r10_16
  have E_oa_16 := Exa.wr W16 E_oa_14
  have F_oa_cells_16 := Fld.other W16 F_oa_cells_14 (Or.inl ne_oa_r10)
  have F_oa_sets_16 := Fld.other W16 F_oa_sets_14 (Or.inl ne_oa_r10)
  have E_ot_16 := Exa.wr W16 E_ot_14
  have F_ot_buckets_16 := Fld.other W16 F_ot_buckets_14 (Or.inl ne_ot_r10)
  have Z16 := Nat.le_trans Z14 (Keep.of_wr W16).1
  have K16 := K14.wr W16 (Or.inr sz_r10)
  have N16 := Fr.snoc X16 N14 g_r10
  show own_Fin _ _ _ _ _ _ _ (T16.setTop (mkF m 115 #[rv oa, iv 1, jv vb, sS, rv ot, iv 6, iv 8, iv 8, uS, uS] []))
  refine own_Fin.go (fun t k => XS.aloadN X16.here hx rfl (hb hby d10_115) rfl rfl k) ?_
  refine own_gF X16 hx hZ hown (own_W hw 39 rfl) e16 F_oa_cells_16 rfl rfl (hb hby d10_116) ?_
  intro T17 X17 e17
  refine own_Fin.go (fun t k => XS.iload X17.here hx rfl (hb hby d10_119) rfl (XS.iconst X17.here hx rfl (hb hby d10_121) (XS.iadd X17.here hx rfl (hb hby d10_122) rfl k))) ?_
  show own_Fin _ _ _ _ _ _ _ (T17.setTop (mkF m 123 #[rv oa, iv 1, jv vb, sS, rv ot, iv 6, iv 8, iv 8, uS, uS] [(.int ((6 : Int32) + (1 : Int32))), (.ref r10)]))
  rw [show ((6 : Int32) + (1 : Int32)) = (7 : Int32) from by decide +kernel]
  refine own_Fin.go (fun t k => XS.lconst X17.here hx rfl (hb hby d10_123) k) ?_
  obtain ⟨cl18, Ar18, q18, S18, N18l, H18, G18⟩ := (id V_r10_16)
  have hin18 : ¬ ((7 : Int32) < 0 ∨ cl18.slots.size ≤ ((7 : Int32)).toNatClampNeg) := inb_of S18 ⟨by decide, by decide⟩
  obtain ⟨T18, h18, X18, e18, W18, st18⟩ := stJ X17 hx hZ e17 Ar18 (j := (7 : Int32)) hin18 (g := (mkF m 124 #[rv oa, iv 1, jv vb, sS, rv ot, iv 6, iv 8, iv 8, uS, uS] [(.long 0), (.int 7), (.ref r10)])) rfl rfl (hb hby d10_124)
  refine own_Fin.go st18 ?_
  have V_r10_18 := Arv.set Ar18 q18 S18 N18l H18 G18 rfl W18 7 rfl (Nat.le_of_ble_eq_true rfl)
  replace V_r10_18 : Arv Z h18 r10 kb10 .long (10 : Int32) [(.long 3458764515968024577), (.long 0), (.long yp), (.long wp), (.long ya), (.long wa), (.long vb), (.long 0), (.long yb), (.long wb)] (.long 0) := V_r10_18
  have E_oa_18 := Exa.wr W18 E_oa_16
  have F_oa_cells_18 := Fld.other W18 F_oa_cells_16 (Or.inl ne_oa_r10)
  have F_oa_sets_18 := Fld.other W18 F_oa_sets_16 (Or.inl ne_oa_r10)
  have E_ot_18 := Exa.wr W18 E_ot_16
  have F_ot_buckets_18 := Fld.other W18 F_ot_buckets_16 (Or.inl ne_ot_r10)
  have Z18 := Nat.le_trans Z16 (Keep.of_wr W18).1
  have K18 := K16.wr W18 (Or.inr sz_r10)
  have N18 := Fr.snoc X18 N16 g_r10
  refine own_Fin.go (fun t k => XS.aloadN X18.here hx rfl (hb hby d10_125) rfl rfl k) ?_
  refine own_gF X18 hx hZ hown (own_W hw 43 rfl) e18 F_oa_sets_18 rfl rfl (hb hby d10_126) ?_
  intro T19 X19 e19
  refine own_Fin.go (fun t k => XS.ifnullYes X19.here hx rfl (pc0 := 129) (pc' := 216) rfl (hb hby d10_129) rfl (by decide) (by decide) k) ?_
  show own_Fin _ _ _ _ _ _ _ (T19.setTop (mkF m 216 #[rv oa, iv 1, jv vb, sS, rv ot, iv 6, iv 8, iv 8, uS, uS] []))
  refine own_Fin.go (fun t k => XS.aloadN X19.here hx rfl (hb hby d10_216) rfl rfl (XS.iloadN X19.here hx rfl (hb hby d10_217) rfl (XS.aloadN X19.here hx rfl (hb hby d10_218) rfl rfl (XS.iloadN X19.here hx rfl (hb hby d10_219) rfl k)))) ?_
  refine own_pC X19 hx hZ hown (own_W hw 70 rfl) (own_W hw 71 rfl) (own_W hw 48 rfl) rfl (own_W hw 72 rfl) (own_W hw 73 rfl) (own_W hw 17 rfl) (by decide) (own_rm_len1 l Z a0 hw [] oa r10 kb10 (10 : Int32) (3458764515968024577 : Int64) (0 : Int64) ([(.long yp), (.long wp), (.long ya), (.long wa), (.long vb), (.long 0), (.long yb), (.long wb)]) h18 n0 Z18 F_oa_cells_18 V_r10_18 (by decide)) 2 (by decide) (by decide) e19 E_oa_18 rfl (by rw [hml]; rfl) [(.int 1)] (lenOf own_pd1 rfl) rfl (Nat.le_of_eq rfl) (hb hby d10_220) rfl (by decide) (by decide) ?_
  rintro T20 Lc20 _ X20 ⟨rfl, N20q, e20⟩
  have N20 := Fr.app N18 N20q
  show own_Fin _ _ _ _ _ _ _ (T20.setTop (mkF m 223 #[rv oa, iv 1, jv vb, sS, rv ot, iv 6, iv 8, iv 8, uS, uS] [(.int (own_lenb (3458764515968024577 : Int64))), (.int 1), (.ref oa)]))
  rw [show (own_lenb (3458764515968024577 : Int64)) = (2 : Int32) from by decide +kernel]
  refine own_Fin.go (fun t k => XS.iconst X20.here hx rfl (hb hby d10_223) (XS.iadd X20.here hx rfl (hb hby d10_224) rfl k)) ?_
  show own_Fin _ _ _ _ _ _ _ (T20.setTop (mkF m 225 #[rv oa, iv 1, jv vb, sS, rv ot, iv 6, iv 8, iv 8, uS, uS] [(.int ((2 : Int32) + (1 : Int32))), (.int 1), (.ref oa)]))
  rw [show ((2 : Int32) + (1 : Int32)) = (3 : Int32) from by decide +kernel]
  refine own_pC X20 hx hZ hown (own_W hw 96 rfl) (own_W hw 97 rfl) (own_W hw 48 rfl) rfl (own_W hw 98 rfl) (own_W hw 99 rfl) (own_W hw 17 rfl) (by decide) (own_rm_sl1 l Z a0 hw [] oa (3 : Int32) r10 kb10 (10 : Int32) (3458764515968024577 : Int64) (0 : Int64) ([(.long yp), (.long wp), (.long ya), (.long wa), (.long vb), (.long 0), (.long yb), (.long wb)]) h18 n0 Z18 F_oa_cells_18 V_r10_18 (by decide) g_r10 ne_oa_r10) 0 (by decide) (by decide) e20 E_oa_18 rfl (by rw [hml]; rfl) [(.int 1), (.int 3)] (lenOf own_pd6 rfl) rfl (Nat.le_of_eq rfl) (hb hby d10_225) rfl (by decide) (by decide) ?_
  rintro T21 Lc21 _ X21 ⟨rfl, N21q, K21q, c21_1⟩
  have N21 := Fr.app N20 N21q
  have E_oa_21 := E_oa_18.keep K21q
  have F_oa_cells_21 := F_oa_cells_18.keep K21q (ninS ne_oa_r10 nin0)
  have F_oa_sets_21 := F_oa_sets_18.keep K21q (ninS ne_oa_r10 nin0)
  have E_ot_21 := E_ot_18.keep K21q
  have F_ot_buckets_21 := F_ot_buckets_18.keep K21q (ninS ne_ot_r10 nin0)
  have Z21 := Nat.le_trans Z18 K21q.1
  have K21 := K18.trans K21q (allS (Or.inr sz_r10) all0)
  rw [show (own_slb (3458764515968024577 : Int64) (3 : Int32)) = (3458764517041766401 : Int64) from by decide +kernel] at c21_1
  refine own_Fin.go (fun t k => XS.aload X21.here hx rfl (hb hby d10_228) rfl rfl (XS.dup X21.here hx rfl (hb hby d10_230) rfl rfl k)) ?_
  refine own_gF X21 hx hZ hown (own_W hw 101 rfl) rfl F_ot_buckets_21 rfl rfl (hb hby d10_231) ?_
  intro T22 X22 e22
  refine own_Fin.go (fun t k => XS.lconst X22.here hx rfl (hb hby d10_234) (XS.ladd X22.here hx rfl (hb hby d10_235) rfl k)) ?_
  obtain ⟨T23, h23, X23, e23, W23, st23⟩ := putF X22 hx hZ hown (host := "") (Or.inl (own_W hw 101 rfl)) Via.refl e22 F_ot_buckets_21 E_ot_21 (Or.inl (own_W hw 102 rfl)) (own_W hw 7 rfl) (ty := .long) (by decide) rfl rfl (g := (mkF m 236 #[rv oa, iv 1, jv vb, sS, rv ot, iv 6, iv 8, iv 8, uS, uS] [(.long (ub + (1 : Int64))), (.ref ot)])) rfl rfl (hb hby d10_236)
  refine own_Fin.go st23 ?_
  have F_ot_buckets_23 := Fld.same W23 F_ot_buckets_21
  have E_oa_23 := Exa.wr W23 E_oa_21
  have F_oa_cells_23 := Fld.other W23 F_oa_cells_21 (Or.inl ne_oa_ot)
  have F_oa_sets_23 := Fld.other W23 F_oa_sets_21 (Or.inl ne_oa_ot)
  have E_ot_23 := Exa.wr W23 E_ot_21
  have V_r10_23 := Arv.other c21_1 W23 (Ne.symm ne_ot_r10)
  have Z23 := Nat.le_trans Z21 (Keep.of_wr W23).1
  have K23 := K21.wr W23 (Or.inl (List.mem_of_getElem? (i := 1) rfl))
  have N23 := Fr.snoc X23 N21 g_ot
  show own_Fin _ _ _ _ _ _ _ (T23.setTop (mkF m 239 #[rv oa, iv 1, jv vb, sS, rv ot, iv 6, iv 8, iv 8, uS, uS] []))
  refine own_Fin.go (fun t k => XS.iload X23.here hx rfl (hb hby d10_239) rfl k) ?_
  refine own_retI X23 hx Bd.returns (hb hby d10_241) Bd.notSynchronized (by decide) (by decide) ?_
  rw [e23]
  exact ⟨r10, kb10, rfl, N23, K23, E_oa_23, F_oa_cells_23, F_oa_sets_23, V_r10_23, E_ot_23, F_ot_buckets_23, sz_r10, ne_oa_r10, ne_ot_r10⟩
theorem own_ef_adD1n (m : MethodId) (oa : Addr) (vb : Int64) (va : Int64) (ot : Addr) : entryFrame m #[(.ref oa), (.int 1), (.long vb), (.long va), (.ref ot)] 8 = mkF m 0 #[rv oa, iv 1, jv vb, sS, jv va, sS, rv ot, uS] [] := by first | (simp [entryFrame, mkF, argsToLocals, Value.category]; done) | rfl
def own_Q_adD1n (Z : State) (oa : Addr) (vb : Int64) (va : Int64) (ot : Addr) (oz : Addr) (kz : ClassId) (yp : Int64) (wp : Int64) (ya : Int64) (wa : Int64) (yb : Int64) (wb : Int64) (ub : Int64) (h0 : Heap) (n0 : Nat) (v : Option Value) (h : Heap) (L : List Loc) : Prop := ∃ ob : Addr, ∃ kb : ClassId, v = none ∧ Fr n0 L ∧ Keep h0 h [oa, ot, oz] ∧ Exa Z h oa own_k0 ∧ Fld Z h oa own_k0 "cells" "[J" (.ref ob) ∧ Fld Z h oa own_k0 "sets" "[Ljava/lang/Object;" .null ∧ Arv Z h ob kb .long (10 : Int32) [(.long 3458764517041766401), (.long 0), (.long yp), (.long wp), (.long ya), (.long wa), (.long vb), (.long (own_sat (0 : Int64) va)), (.long yb), (.long wb)] (.long 0) ∧ Exa Z h ot own_k2 ∧ Fld Z h ot own_k2 "buckets" "J" (.long (ub + (1 : Int64))) ∧ h0.size ≤ ob ∧ oa ≠ ob ∧ ot ≠ ob
set_option maxRecDepth 65536 in
set_option maxHeartbeats 40000000 in
theorem own_rm_adD1n (l : Launch) (Z : State) (a0 : Array Value) (hw : ∀ d ∈ tables_1, d.before a0 Z = true) (ws : List Jvm.Cond) (oa : Addr) (vb : Int64) (va : Int64) (ot : Addr) (oz : Addr) (kz : ClassId) (yp : Int64) (wp : Int64) (ya : Int64) (wa : Int64) (yb : Int64) (wb : Int64) (ub : Int64) (h0 : Heap) (n0 : Nat) (Z0 : n0 ≤ h0.size) (E_oa : Exa Z h0 oa own_k0) (F_oa_cells : Fld Z h0 oa own_k0 "cells" "[J" (.ref oz)) (F_oa_sets : Fld Z h0 oa own_k0 "sets" "[Ljava/lang/Object;" .null) (V_oz : Arv Z h0 oz kz .long (8 : Int32) [(.long 3458764515968024577), (.long 0), (.long yp), (.long wp), (.long ya), (.long wa), (.long yb), (.long wb)] (.long 0)) (E_ot : Exa Z h0 ot own_k2) (F_ot_buckets : Fld Z h0 ot own_k2 "buckets" "J" (.long ub)) (g_oa : n0 ≤ oa) (g_oz : n0 ≤ oz) (g_ot : n0 ≤ ot) (ne_oa_ot : oa ≠ ot) (ne_oa_oz : oa ≠ oz) (ne_ot_oz : ot ≠ oz) (qyb : ¬ yb < vb) (qya : ya < vb) (qe : ¬ yb = vb) :
    MetFree l own_y17 (head1 (Jvm.Cond.code own_y17 prog_4_method_4_code 8 none :: ws) ({ frames := 5, cells := 1, slots := 10, locals := 76 } : Room)) (fun a U => a = #[(.ref oa), (.int 1), (.long vb), (.long va), (.ref ot)] ∧ Z.Warmed39 U.vm ∧ U.heap = h0) (fun _ _ _ _ _ => True) (fun _ U o U' => ∃ v L, o = .returned v ∧ own_Q_adD1n Z oa vb va ot oz kz yp wp ya wa yb wb ub h0 n0 v U'.heap L ∧ FrameEnd U o U' L ({ frames := 5, cells := 1, slots := 10, locals := 76 } : Room).cells ({ frames := 5, cells := 1, slots := 10, locals := 76 } : Room).slots) := by
  refine MetFree.of_bodySF (plainFor_of_name own_pn0) hisR ?_
  intro p e s m args below meth c s₁ Bd hml0 hP hK
  obtain ⟨rfl, hZ, hh⟩ := hP
  have hx := Bd.exec
  have hby := Bd.bytes
  have hml : c.maxLocals = 8 := hml0
  have hown : s.vm.findClass own_k0 = some m.cls := findClass_of_methodNamed Bd.named
  have hnm := (name_of_methodNamed Bd.named Bd.method).1
  have X0 : Stand p l e ({ frames := 5, cells := 1, slots := 10, locals := 76 } : Room) s m #[(.ref oa), (.int 1), (.long vb), (.long va), (.ref ot)] below meth c s₁ [] 0 0 := Stand.of_body Bd
  have e0 : s₁.heap = h0 := by rw [← hh, Bd.state]; rfl
  have N0 := Fr.nil n0
  have K0 := Keep.refl h0 [oa, ot, oz]
  show own_Fin p e below s (own_Q_adD1n Z oa vb va ot oz kz yp wp ya wa yb wb ub h0 n0) ({ frames := 5, cells := 1, slots := 10, locals := 76 } : Room).cells ({ frames := 5, cells := 1, slots := 10, locals := 76 } : Room).slots (s₁.setTop (entryFrame m #[(.ref oa), (.int 1), (.long vb), (.long va), (.ref ot)] 8))
  refine own_Fin.go (fun t k => castTop (own_ef_adD1n m oa vb va ot) k) ?_
  refine own_Fin.go (fun t k => XS.aloadN X0.here hx rfl (hb hby d1_0) rfl rfl (XS.iloadN X0.here hx rfl (hb hby d1_1) rfl (XS.lloadN X0.here hx rfl (hb hby d1_2) rfl (XS.aload X0.here hx rfl (hb hby d1_3) rfl rfl k)))) ?_
  show own_Fin _ _ _ _ _ _ _ (s₁.setTop (mkF m 5 #[rv oa, iv 1, jv vb, sS, jv va, sS, rv ot, uS] [(.ref ot), (.long vb), (.int 1), (.ref oa)]))
  refine own_pC X0 hx hZ hown (own_W hw 50 rfl) (own_W hw 51 rfl) (own_W hw 48 rfl) rfl (own_W hw 52 rfl) (own_W hw 53 rfl) (own_W hw 17 rfl) (by decide) (own_rm_soD1n l Z a0 hw [] oa vb ot oz kz yp wp ya wa yb wb ub h0 n0 Z0 E_oa F_oa_cells F_oa_sets V_oz E_ot F_ot_buckets g_oa g_oz g_ot ne_oa_ot ne_oa_oz ne_ot_oz (by assumption) (by assumption) (by assumption)) 0 (by decide) (by decide) e0 E_oa rfl (by rw [hml]; rfl) [(.int 1), (.long vb), (.ref ot)] (lenOf own_pd7 rfl) rfl (Nat.le_of_eq rfl) (hb hby d1_5) rfl (by decide) (by decide) ?_
  rintro T1 Lc1 _ X1 ⟨ob1, kb1, rfl, N1q, K1q, c1_1, c1_2, c1_3, c1_4, c1_5, c1_6, c1_7, c1_8, c1_9⟩
  have N1 := Fr.app N0 N1q
  have Z1 := Nat.le_trans Z0 K1q.1
  have K1 := K0.trans K1q (allS (Or.inl (List.mem_of_getElem? (i := 0) rfl)) (allS (Or.inl (List.mem_of_getElem? (i := 1) rfl)) (allS (Or.inl (List.mem_of_getElem? (i := 2) rfl)) all0)))
  have ne_oa_ob1 : oa ≠ ob1 := Nat.ne_of_lt (Nat.lt_of_lt_of_le F_oa_sets.lt c1_7)
  have ne_oz_ob1 : oz ≠ ob1 := Nat.ne_of_lt (Nat.lt_of_lt_of_le V_oz.lt c1_7)
  have ne_ot_ob1 : ot ≠ ob1 := Nat.ne_of_lt (Nat.lt_of_lt_of_le F_ot_buckets.lt c1_7)
  have g_ob1 : n0 ≤ ob1 := Nat.le_trans Z0 c1_7
  have sz_ob1 : h0.size ≤ ob1 := Nat.le_trans K0.1 c1_7
  refine own_Fin.go (fun t k => XS.istore X1.here hx rfl (hb hby d1_8) rfl (l' := #[rv oa, iv 1, jv vb, sS, jv va, sS, rv ot, iv 6]) rfl (XS.aloadN X1.here hx rfl (hb hby d1_10) rfl rfl k)) ?_
  refine own_gF X1 hx hZ hown (own_W hw 39 rfl) rfl c1_2 rfl rfl (hb hby d1_11) ?_
  intro T2 X2 e2
  refine own_Fin.go (fun t k => XS.iload X2.here hx rfl (hb hby d1_14) rfl k) ?_
  show own_Fin _ _ _ _ _ _ _ (T2.setTop (mkF m 16 #[rv oa, iv 1, jv vb, sS, jv va, sS, rv ot, iv 6] [(.int 6), (.ref ob1)]))
  refine own_Fin.go (fun t k => XS.iconst X2.here hx rfl (hb hby d1_16) (XS.iadd X2.here hx rfl (hb hby d1_17) rfl k)) ?_
  show own_Fin _ _ _ _ _ _ _ (T2.setTop (mkF m 18 #[rv oa, iv 1, jv vb, sS, jv va, sS, rv ot, iv 6] [(.int ((6 : Int32) + (1 : Int32))), (.ref ob1)]))
  rw [show ((6 : Int32) + (1 : Int32)) = (7 : Int32) from by decide +kernel]
  refine own_Fin.go (fun t k => XS.aloadN X2.here hx rfl (hb hby d1_18) rfl rfl k) ?_
  refine own_gF X2 hx hZ hown (own_W hw 39 rfl) e2 c1_2 rfl rfl (hb hby d1_19) ?_
  intro T3 X3 e3
  refine own_Fin.go (fun t k => XS.iload X3.here hx rfl (hb hby d1_22) rfl (XS.iconst X3.here hx rfl (hb hby d1_24) (XS.iadd X3.here hx rfl (hb hby d1_25) rfl k))) ?_
  show own_Fin _ _ _ _ _ _ _ (T3.setTop (mkF m 26 #[rv oa, iv 1, jv vb, sS, jv va, sS, rv ot, iv 6] [(.int ((6 : Int32) + (1 : Int32))), (.ref ob1), (.int 7), (.ref ob1)]))
  rw [show ((6 : Int32) + (1 : Int32)) = (7 : Int32) from by decide +kernel]
  refine own_lal X3 hx hZ e3 c1_4 ⟨by decide, by decide⟩ (v := (0 : Int64)) rfl rfl rfl (hb hby d1_26) ?_
  refine own_Fin.go (fun t k => XS.lload X3.here hx rfl (hb hby d1_27) rfl k) ?_
  refine own_sC X3 hx hZ hown (own_W hw 103 rfl) (own_W hw 104 rfl) (own_W hw 17 rfl) (own_W hw 105 rfl) (by decide) (own_rm_sat l Z a0 hw [] (0 : Int64) va  T1.heap n0 Z1 ) 2 (by decide) (by decide) e3 rfl (by rw [hml]; rfl) [(.long 0), (.long va)] [(.int 7), (.ref ob1)] (lenOf own_pd8 rfl) rfl (Nat.le_of_eq rfl) (hb hby d1_29) rfl (by decide) (by decide) ?_
  rintro T5 Lc5 _ X5 ⟨rfl, N5q, e5⟩
  have N5 := Fr.app N1 N5q
  obtain ⟨cl6, Ar6, q6, S6, N6l, H6, G6⟩ := (id c1_4)
  have hin6 : ¬ ((7 : Int32) < 0 ∨ cl6.slots.size ≤ ((7 : Int32)).toNatClampNeg) := inb_of S6 ⟨by decide, by decide⟩
  obtain ⟨T6, h6, X6, e6, W6, st6⟩ := stJ X5 hx hZ e5 Ar6 (j := (7 : Int32)) hin6 (g := (mkF m 32 #[rv oa, iv 1, jv vb, sS, jv va, sS, rv ot, iv 6] [(.long (own_sat (0 : Int64) va)), (.int 7), (.ref ob1)])) rfl rfl (hb hby d1_32)
  refine own_Fin.go st6 ?_
  have V_ob1_6 := Arv.set Ar6 q6 S6 N6l H6 G6 rfl W6 7 rfl (Nat.le_of_ble_eq_true rfl)
  replace V_ob1_6 : Arv Z h6 ob1 kb1 .long (10 : Int32) [(.long 3458764517041766401), (.long 0), (.long yp), (.long wp), (.long ya), (.long wa), (.long vb), (.long (own_sat (0 : Int64) va)), (.long yb), (.long wb)] (.long 0) := V_ob1_6
  have E_oa_6 := Exa.wr W6 c1_1
  have F_oa_cells_6 := Fld.other W6 c1_2 (Or.inl c1_8)
  have F_oa_sets_6 := Fld.other W6 c1_3 (Or.inl c1_8)
  have E_ot_6 := Exa.wr W6 c1_5
  have F_ot_buckets_6 := Fld.other W6 c1_6 (Or.inl c1_9)
  have Z6 := Nat.le_trans Z1 (Keep.of_wr W6).1
  have K6 := K1.wr W6 (Or.inr sz_ob1)
  have N6 := Fr.snoc X6 N5 g_ob1
  show own_Fin _ _ _ _ _ _ _ (T6.setTop (mkF m 33 #[rv oa, iv 1, jv vb, sS, jv va, sS, rv ot, iv 6] []))
  refine own_ret0 X6 hx Bd.returns (hb hby d1_33) Bd.notSynchronized (by decide) (by decide) ?_
  rw [e6]
  exact ⟨ob1, kb1, rfl, N6, K6, E_oa_6, F_oa_cells_6, F_oa_sets_6, V_ob1_6, E_ot_6, F_ot_buckets_6, sz_ob1, c1_8, c1_9⟩
theorem own_ef_soD2n (m : MethodId) (oa : Addr) (vb : Int64) (ot : Addr) : entryFrame m #[(.ref oa), (.int 1), (.long vb), (.ref ot)] 10 = mkF m 0 #[rv oa, iv 1, jv vb, sS, rv ot, uS, uS, uS, uS, uS] [] := by first | (simp [entryFrame, mkF, argsToLocals, Value.category]; done) | rfl
def own_Q_soD2n (Z : State) (oa : Addr) (vb : Int64) (ot : Addr) (oz : Addr) (kz : ClassId) (yp : Int64) (wp : Int64) (ya : Int64) (wa : Int64) (yb : Int64) (wb : Int64) (ub : Int64) (h0 : Heap) (n0 : Nat) (v : Option Value) (h : Heap) (L : List Loc) : Prop := ∃ ob : Addr, ∃ kb : ClassId, v = some (.int 8) ∧ Fr n0 L ∧ Keep h0 h [oa, ot, oz] ∧ Exa Z h oa own_k0 ∧ Fld Z h oa own_k0 "cells" "[J" (.ref ob) ∧ Fld Z h oa own_k0 "sets" "[Ljava/lang/Object;" .null ∧ Arv Z h ob kb .long (10 : Int32) [(.long 3458764517041766401), (.long 0), (.long yp), (.long wp), (.long ya), (.long wa), (.long yb), (.long wb), (.long vb), (.long 0)] (.long 0) ∧ Exa Z h ot own_k2 ∧ Fld Z h ot own_k2 "buckets" "J" (.long (ub + (1 : Int64))) ∧ h0.size ≤ ob ∧ oa ≠ ob ∧ ot ≠ ob
set_option maxRecDepth 65536 in
set_option maxHeartbeats 40000000 in
theorem own_rm_soD2n (l : Launch) (Z : State) (a0 : Array Value) (hw : ∀ d ∈ tables_1, d.before a0 Z = true) (ws : List Jvm.Cond) (oa : Addr) (vb : Int64) (ot : Addr) (oz : Addr) (kz : ClassId) (yp : Int64) (wp : Int64) (ya : Int64) (wa : Int64) (yb : Int64) (wb : Int64) (ub : Int64) (h0 : Heap) (n0 : Nat) (Z0 : n0 ≤ h0.size) (E_oa : Exa Z h0 oa own_k0) (F_oa_cells : Fld Z h0 oa own_k0 "cells" "[J" (.ref oz)) (F_oa_sets : Fld Z h0 oa own_k0 "sets" "[Ljava/lang/Object;" .null) (V_oz : Arv Z h0 oz kz .long (8 : Int32) [(.long 3458764515968024577), (.long 0), (.long yp), (.long wp), (.long ya), (.long wa), (.long yb), (.long wb)] (.long 0)) (E_ot : Exa Z h0 ot own_k2) (F_ot_buckets : Fld Z h0 ot own_k2 "buckets" "J" (.long ub)) (g_oa : n0 ≤ oa) (g_oz : n0 ≤ oz) (g_ot : n0 ≤ ot) (ne_oa_ot : oa ≠ ot) (ne_oa_oz : oa ≠ oz) (ne_ot_oz : ot ≠ oz) (qyb : yb < vb) :
    MetFree l own_y16 (head1 (Jvm.Cond.code own_y16 prog_4_method_10_code 10 (some .int) :: ws) ({ frames := 4, cells := 1, slots := 10, locals := 55 } : Room)) (fun a U => a = #[(.ref oa), (.int 1), (.long vb), (.ref ot)] ∧ Z.Warmed39 U.vm ∧ U.heap = h0) (fun _ _ _ _ _ => True) (fun _ U o U' => ∃ v L, o = .returned v ∧ own_Q_soD2n Z oa vb ot oz kz yp wp ya wa yb wb ub h0 n0 v U'.heap L ∧ FrameEnd U o U' L ({ frames := 4, cells := 1, slots := 10, locals := 55 } : Room).cells ({ frames := 4, cells := 1, slots := 10, locals := 55 } : Room).slots) := by
  refine MetFree.of_bodySF (plainFor_of_name own_pn0) hisR ?_
  intro p e s m args below meth c s₁ Bd hml0 hP hK
  obtain ⟨rfl, hZ, hh⟩ := hP
  have hx := Bd.exec
  have hby := Bd.bytes
  have hml : c.maxLocals = 10 := hml0
  have hown : s.vm.findClass own_k0 = some m.cls := findClass_of_methodNamed Bd.named
  have hnm := (name_of_methodNamed Bd.named Bd.method).1
  have X0 : Stand p l e ({ frames := 4, cells := 1, slots := 10, locals := 55 } : Room) s m #[(.ref oa), (.int 1), (.long vb), (.ref ot)] below meth c s₁ [] 0 0 := Stand.of_body Bd
  have e0 : s₁.heap = h0 := by rw [← hh, Bd.state]; rfl
  have N0 := Fr.nil n0
  have K0 := Keep.refl h0 [oa, ot, oz]
  show own_Fin p e below s (own_Q_soD2n Z oa vb ot oz kz yp wp ya wa yb wb ub h0 n0) ({ frames := 4, cells := 1, slots := 10, locals := 55 } : Room).cells ({ frames := 4, cells := 1, slots := 10, locals := 55 } : Room).slots (s₁.setTop (entryFrame m #[(.ref oa), (.int 1), (.long vb), (.ref ot)] 10))
  refine own_Fin.go (fun t k => castTop (own_ef_soD2n m oa vb ot) k) ?_
  refine own_Fin.go (fun t k => XS.aloadN X0.here hx rfl (hb hby d10_0) rfl rfl (XS.iloadN X0.here hx rfl (hb hby d10_1) rfl (XS.lloadN X0.here hx rfl (hb hby d10_2) rfl k))) ?_
  refine own_pC X0 hx hZ hown (own_W hw 54 rfl) (own_W hw 55 rfl) (own_W hw 48 rfl) rfl (own_W hw 56 rfl) (own_W hw 57 rfl) (own_W hw 17 rfl) (by decide) (own_rm_ix2 l Z a0 hw [] oa vb oz kz (8 : Int32) (3458764515968024577 : Int64) (0 : Int64) yp wp ya wa yb wb ([]) h0 n0 Z0 E_oa F_oa_cells V_oz (by decide) (by decide) (by decide)) 0 (by decide) (by decide) e0 E_oa rfl (by rw [hml]; rfl) [(.int 1), (.long vb)] (lenOf own_pd4 rfl) rfl (Nat.le_of_eq rfl) (hb hby d10_3) rfl (by decide) (by decide) ?_
  rintro T1 Lc1 _ X1 ⟨rfl, N1q, e1⟩
  have N1 := Fr.app N0 N1q
  show own_Fin _ _ _ _ _ _ _ (T1.setTop (mkF m 6 #[rv oa, iv 1, jv vb, sS, rv ot, uS, uS, uS, uS, uS] [(.int (own_lb2 ya yb vb))]))
  rw [show (own_lb2 ya yb vb) = (8 : Int32) from by simp only [own_lb2, if_pos qyb]]
  refine own_Fin.go (fun t k => XS.istore X1.here hx rfl (hb hby d10_6) rfl (l' := #[rv oa, iv 1, jv vb, sS, rv ot, iv 8, uS, uS, uS, uS]) rfl (XS.aloadN X1.here hx rfl (hb hby d10_8) rfl rfl (XS.iloadN X1.here hx rfl (hb hby d10_9) rfl k))) ?_
  refine own_pC X1 hx hZ hown (own_W hw 58 rfl) (own_W hw 59 rfl) (own_W hw 48 rfl) rfl (own_W hw 60 rfl) (own_W hw 61 rfl) (own_W hw 17 rfl) (by decide) (own_rm_st1 l Z a0 hw [] oa oz kz (8 : Int32) (3458764515968024577 : Int64) (0 : Int64) ([(.long yp), (.long wp), (.long ya), (.long wa), (.long yb), (.long wb)]) h0 n0 Z0 E_oa F_oa_cells V_oz (by decide)) 0 (by decide) (by decide) e1 E_oa rfl (by rw [hml]; rfl) [(.int 1)] (lenOf own_pd1 rfl) rfl (Nat.le_of_eq rfl) (hb hby d10_10) rfl (by decide) (by decide) ?_
  rintro T2 Lc2 _ X2 ⟨rfl, N2q, e2⟩
  have N2 := Fr.app N1 N2q
  show own_Fin _ _ _ _ _ _ _ (T2.setTop (mkF m 13 #[rv oa, iv 1, jv vb, sS, rv ot, iv 8, uS, uS, uS, uS] [(.int (own_stb (3458764515968024577 : Int64)))]))
  rw [show (own_stb (3458764515968024577 : Int64)) = (4 : Int32) from by decide +kernel]
  refine own_Fin.go (fun t k => XS.iconst X2.here hx rfl (hb hby d10_13) (XS.aloadN X2.here hx rfl (hb hby d10_14) rfl rfl (XS.iloadN X2.here hx rfl (hb hby d10_15) rfl k))) ?_
  refine own_pC X2 hx hZ hown (own_W hw 70 rfl) (own_W hw 71 rfl) (own_W hw 48 rfl) rfl (own_W hw 72 rfl) (own_W hw 73 rfl) (own_W hw 17 rfl) (by decide) (own_rm_len1 l Z a0 hw [] oa oz kz (8 : Int32) (3458764515968024577 : Int64) (0 : Int64) ([(.long yp), (.long wp), (.long ya), (.long wa), (.long yb), (.long wb)]) h0 n0 Z0 F_oa_cells V_oz (by decide)) 2 (by decide) (by decide) e2 E_oa rfl (by rw [hml]; rfl) [(.int 1)] (lenOf own_pd1 rfl) rfl (Nat.le_of_eq rfl) (hb hby d10_16) rfl (by decide) (by decide) ?_
  rintro T3 Lc3 _ X3 ⟨rfl, N3q, e3⟩
  have N3 := Fr.app N2 N3q
  show own_Fin _ _ _ _ _ _ _ (T3.setTop (mkF m 19 #[rv oa, iv 1, jv vb, sS, rv ot, iv 8, uS, uS, uS, uS] [(.int (own_lenb (3458764515968024577 : Int64))), (.int 2), (.int 4)]))
  rw [show (own_lenb (3458764515968024577 : Int64)) = (2 : Int32) from by decide +kernel]
  refine own_Fin.go (fun t k => XS.imul X3.here hx rfl (hb hby d10_19) rfl k) ?_
  show own_Fin _ _ _ _ _ _ _ (T3.setTop (mkF m 20 #[rv oa, iv 1, jv vb, sS, rv ot, iv 8, uS, uS, uS, uS] [(.int ((2 : Int32) * (2 : Int32))), (.int 4)]))
  rw [show ((2 : Int32) * (2 : Int32)) = (4 : Int32) from by decide +kernel]
  refine own_Fin.go (fun t k => XS.iadd X3.here hx rfl (hb hby d10_20) rfl k) ?_
  show own_Fin _ _ _ _ _ _ _ (T3.setTop (mkF m 21 #[rv oa, iv 1, jv vb, sS, rv ot, iv 8, uS, uS, uS, uS] [(.int ((4 : Int32) + (4 : Int32)))]))
  rw [show ((4 : Int32) + (4 : Int32)) = (8 : Int32) from by decide +kernel]
  refine own_Fin.go (fun t k => XS.istore X3.here hx rfl (hb hby d10_21) rfl (l' := #[rv oa, iv 1, jv vb, sS, rv ot, iv 8, iv 8, uS, uS, uS]) rfl (XS.iload X3.here hx rfl (hb hby d10_23) rfl (XS.iload X3.here hx rfl (hb hby d10_25) rfl (XS.icmpYes X3.here hx rfl (pc0 := 27) (pc' := 45) rfl (hb hby d10_27) rfl (by decide) (by decide) (by decide) k)))) ?_
  refine own_Fin.go (fun t k => XS.aloadN X3.here hx rfl (hb hby d10_45) rfl rfl k) ?_
  refine own_pC X3 hx hZ hown (own_W hw 79 rfl) (own_W hw 80 rfl) (own_W hw 48 rfl) rfl (own_W hw 81 rfl) (own_W hw 82 rfl) (own_W hw 17 rfl) (by decide) (own_rm_used l Z a0 hw [] oa oz kz (8 : Int32) (3458764515968024577 : Int64) (0 : Int64) ([(.long yp), (.long wp), (.long ya), (.long wa), (.long yb), (.long wb)]) h0 n0 Z0 E_oa F_oa_cells V_oz (by decide) (by decide)) 0 (by decide) (by decide) e3 E_oa rfl (by rw [hml]; rfl) [] (lenOf own_pd0 rfl) rfl (Nat.le_of_eq rfl) (hb hby d10_46) rfl (by decide) (by decide) ?_
  rintro T4 Lc4 _ X4 ⟨rfl, N4q, e4⟩
  have N4 := Fr.app N3 N4q
  show own_Fin _ _ _ _ _ _ _ (T4.setTop (mkF m 49 #[rv oa, iv 1, jv vb, sS, rv ot, iv 8, iv 8, uS, uS, uS] [(.int (own_std (3458764515968024577 : Int64) (0 : Int64)))]))
  rw [show (own_std (3458764515968024577 : Int64) (0 : Int64)) = (8 : Int32) from by decide +kernel]
  refine own_Fin.go (fun t k => XS.istore X4.here hx rfl (hb hby d10_49) rfl (l' := #[rv oa, iv 1, jv vb, sS, rv ot, iv 8, iv 8, iv 8, uS, uS]) rfl (XS.iload X4.here hx rfl (hb hby d10_51) rfl (XS.iconst X4.here hx rfl (hb hby d10_53) (XS.iadd X4.here hx rfl (hb hby d10_54) rfl k)))) ?_
  show own_Fin _ _ _ _ _ _ _ (T4.setTop (mkF m 55 #[rv oa, iv 1, jv vb, sS, rv ot, iv 8, iv 8, iv 8, uS, uS] [(.int ((8 : Int32) + (2 : Int32)))]))
  rw [show ((8 : Int32) + (2 : Int32)) = (10 : Int32) from by decide +kernel]
  refine own_Fin.go (fun t k => XS.aloadN X4.here hx rfl (hb hby d10_55) rfl rfl k) ?_
  refine own_gF X4 hx hZ hown (own_W hw 39 rfl) e4 F_oa_cells rfl rfl (hb hby d10_56) ?_
  intro T5 X5 e5
  obtain ⟨cl6, Ar6, -, S6, N6l, -, -⟩ := (id V_oz)
  refine own_Fin.go (fun t k => X5.arraylength hx (by rw [e5]; exact Ar6.1) (State.isArrayOf_alike hZ.alike Ar6.2.1) (g := (mkF m 59 #[rv oa, iv 1, jv vb, sS, rv ot, iv 8, iv 8, iv 8, uS, uS] [(.ref oz), (.int 10)])) rfl rfl (hb hby d10_59) t k) ?_
  rw [len_of S6 N6l]
  refine own_Fin.go (fun t k => XS.icmpNo X5.here hx rfl (hb hby d10_60) rfl (by decide) (XS.aloadN X5.here hx rfl (hb hby d10_63) rfl rfl (XS.aloadN X5.here hx rfl (hb hby d10_64) rfl rfl k))) ?_
  refine own_gF X5 hx hZ hown (own_W hw 39 rfl) e5 F_oa_cells rfl rfl (hb hby d10_65) ?_
  intro T7 X7 e7
  show own_Fin _ _ _ _ _ _ _ (T7.setTop (mkF m 68 #[rv oa, iv 1, jv vb, sS, rv ot, iv 8, iv 8, iv 8, uS, uS] [(.ref oz), (.ref oa)]))
  refine own_Fin.go (fun t k => XS.iload X7.here hx rfl (hb hby d10_68) rfl (XS.iconst X7.here hx rfl (hb hby d10_70) (XS.iadd X7.here hx rfl (hb hby d10_71) rfl k))) ?_
  show own_Fin _ _ _ _ _ _ _ (T7.setTop (mkF m 72 #[rv oa, iv 1, jv vb, sS, rv ot, iv 8, iv 8, iv 8, uS, uS] [(.int ((8 : Int32) + (2 : Int32))), (.ref oz), (.ref oa)]))
  rw [show ((8 : Int32) + (2 : Int32)) = (10 : Int32) from by decide +kernel]
  refine own_Fin.go (fun t k => XS.iload X7.here hx rfl (hb hby d10_72) rfl (XS.iconst X7.here hx rfl (hb hby d10_74) (XS.iushr X7.here hx rfl (hb hby d10_75) rfl k))) ?_
  show own_Fin _ _ _ _ _ _ _ (T7.setTop (mkF m 76 #[rv oa, iv 1, jv vb, sS, rv ot, iv 8, iv 8, iv 8, uS, uS] [(.int (((8 : Int32).toUInt32 >>> ((4 : Int32) &&& 31).toUInt32).toInt32)), (.int 10), (.ref oz), (.ref oa)]))
  rw [show (((8 : Int32).toUInt32 >>> ((4 : Int32) &&& 31).toUInt32).toInt32) = (0 : Int32) from by decide +kernel]
  refine own_Fin.go (fun t k => XS.iconst X7.here hx rfl (hb hby d10_76) (XS.ishl X7.here hx rfl (hb hby d10_77) rfl k)) ?_
  show own_Fin _ _ _ _ _ _ _ (T7.setTop (mkF m 78 #[rv oa, iv 1, jv vb, sS, rv ot, iv 8, iv 8, iv 8, uS, uS] [(.int ((0 : Int32) <<< ((1 : Int32) &&& 31))), (.int 10), (.ref oz), (.ref oa)]))
  rw [show ((0 : Int32) <<< ((1 : Int32) &&& 31)) = (0 : Int32) from by decide +kernel]
  refine own_Fin.go (fun t k => XS.iadd X7.here hx rfl (hb hby d10_78) rfl k) ?_
  show own_Fin _ _ _ _ _ _ _ (T7.setTop (mkF m 79 #[rv oa, iv 1, jv vb, sS, rv ot, iv 8, iv 8, iv 8, uS, uS] [(.int ((10 : Int32) + (0 : Int32))), (.ref oz), (.ref oa)]))
  rw [show ((10 : Int32) + (0 : Int32)) = (10 : Int32) from by decide +kernel]
  refine own_sC X7 hx hZ hown (own_W hw 83 rfl) (own_W hw 84 rfl) (own_W hw 85 rfl) (own_W hw 86 rfl) (by decide) (own_rm_cpy8 l Z a0 hw [] oz kz (3458764515968024577 : Int64) (0 : Int64) yp wp ya wa yb wb h0 n0 Z0 V_oz) 1 (by decide) (by decide) e7 rfl (by rw [hml]; rfl) [(.ref oz), (.int 10)] [(.ref oa)] (lenOf own_pd5 rfl) rfl (Nat.le_of_eq rfl) (hb hby d10_79) rfl (by decide) (by decide) ?_
  rintro T8 Lc8 _ X8 ⟨r8, kb8, rfl, N8q, K8q, c8_1, c8_2⟩
  have N8 := Fr.app N4 N8q
  have E_oa_8 := E_oa.keep K8q
  have F_oa_cells_8 := F_oa_cells.keep K8q nin0
  have F_oa_sets_8 := F_oa_sets.keep K8q nin0
  have V_oz_8 := V_oz.keep K8q nin0
  have E_ot_8 := E_ot.keep K8q
  have F_ot_buckets_8 := F_ot_buckets.keep K8q nin0
  have Z8 := Nat.le_trans Z0 K8q.1
  have K8 := K0.trans K8q all0
  have ne_oa_r8 : oa ≠ r8 := Nat.ne_of_lt (Nat.lt_of_lt_of_le F_oa_sets.lt c8_2)
  have ne_oz_r8 : oz ≠ r8 := Nat.ne_of_lt (Nat.lt_of_lt_of_le V_oz.lt c8_2)
  have ne_ot_r8 : ot ≠ r8 := Nat.ne_of_lt (Nat.lt_of_lt_of_le F_ot_buckets.lt c8_2)
  have g_r8 : n0 ≤ r8 := Nat.le_trans Z0 c8_2
  have sz_r8 : h0.size ≤ r8 := Nat.le_trans K0.1 c8_2
  obtain ⟨T9, h9, X9, e9, W9, st9⟩ := putF X8 hx hZ hown (host := "") (Or.inl (own_W hw 39 rfl)) Via.refl rfl F_oa_cells_8 E_oa_8 (Or.inl (own_W hw 40 rfl)) (own_W hw 16 rfl) (ty := (.array .long)) (by decide) rfl rfl (g := (mkF m 82 #[rv oa, iv 1, jv vb, sS, rv ot, iv 8, iv 8, iv 8, uS, uS] [(.ref r8), (.ref oa)])) rfl rfl (hb hby d10_82)
  refine own_Fin.go st9 ?_
  have F_oa_cells_9 := Fld.same W9 F_oa_cells_8
  have E_oa_9 := Exa.wr W9 E_oa_8
  have F_oa_sets_9 := Fld.other W9 F_oa_sets_8 (Or.inr (slot_ne (Or.inl (own_W hw 44 rfl)) (Or.inl (own_W hw 40 rfl)) (by decide) (t := (.array (.object "java/lang/Object"))) (t' := (.array .long)) (by decide) (by decide)))
  have V_oz_9 := Arv.other V_oz_8 W9 (Ne.symm ne_oa_oz)
  have E_ot_9 := Exa.wr W9 E_ot_8
  have F_ot_buckets_9 := Fld.other W9 F_ot_buckets_8 (Or.inl (Ne.symm ne_oa_ot))
  have V_r8_9 := Arv.other c8_1 W9 (Ne.symm ne_oa_r8)
  have Z9 := Nat.le_trans Z8 (Keep.of_wr W9).1
  have K9 := K8.wr W9 (Or.inl (List.mem_of_getElem? (i := 0) rfl))
  have N9 := Fr.snoc X9 N8 g_oa
  refine own_Fin.go (fun t k => XS.aloadN X9.here hx rfl (hb hby d10_85) rfl rfl k) ?_
  refine own_gF X9 hx hZ hown (own_W hw 39 rfl) e9 F_oa_cells_9 rfl rfl (hb hby d10_86) ?_
  intro T10 X10 e10
  refine own_Fin.go (fun t k => XS.iload X10.here hx rfl (hb hby d10_89) rfl (XS.aloadN X10.here hx rfl (hb hby d10_91) rfl rfl k)) ?_
  refine own_gF X10 hx hZ hown (own_W hw 39 rfl) e10 F_oa_cells_9 rfl rfl (hb hby d10_92) ?_
  intro T11 X11 e11
  show own_Fin _ _ _ _ _ _ _ (T11.setTop (mkF m 95 #[rv oa, iv 1, jv vb, sS, rv ot, iv 8, iv 8, iv 8, uS, uS] [(.ref r8), (.int 8), (.ref r8)]))
  refine own_Fin.go (fun t k => XS.iload X11.here hx rfl (hb hby d10_95) rfl (XS.iconst X11.here hx rfl (hb hby d10_97) (XS.iadd X11.here hx rfl (hb hby d10_98) rfl k))) ?_
  show own_Fin _ _ _ _ _ _ _ (T11.setTop (mkF m 99 #[rv oa, iv 1, jv vb, sS, rv ot, iv 8, iv 8, iv 8, uS, uS] [(.int ((8 : Int32) + (2 : Int32))), (.ref r8), (.int 8), (.ref r8)]))
  rw [show ((8 : Int32) + (2 : Int32)) = (10 : Int32) from by decide +kernel]
  refine own_Fin.go (fun t k => XS.iload X11.here hx rfl (hb hby d10_99) rfl (XS.iload X11.here hx rfl (hb hby d10_101) rfl (XS.isub X11.here hx rfl (hb hby d10_103) rfl k))) ?_
  show own_Fin _ _ _ _ _ _ _ (T11.setTop (mkF m 104 #[rv oa, iv 1, jv vb, sS, rv ot, iv 8, iv 8, iv 8, uS, uS] [(.int ((8 : Int32) - (8 : Int32))), (.int 10), (.ref r8), (.int 8), (.ref r8)]))
  rw [show ((8 : Int32) - (8 : Int32)) = (0 : Int32) from by decide +kernel]
  obtain ⟨T12, h12, L12, X12, e12, N12, K12q, V12c, st12⟩ := cpA X11 hx hZ hown (own_W hw 95 rfl) (own_W hw 94 rfl) (own_W hw 92 rfl) (own_W hw 93 rfl) e11 V_r8_9 V_r8_9 (us := []) (Or.inl ⟨rfl, rfl⟩) (by decide) (by decide) (by decide) (by decide) (by decide) rfl (Nat.le_of_ble_eq_true rfl) N9 g_r8 (g := (mkF m 104 #[rv oa, iv 1, jv vb, sS, rv ot, iv 8, iv 8, iv 8, uS, uS] [(.int 0), (.int 10), (.ref r8), (.int 8), (.ref r8)])) rfl (by rw [hml]; rfl) rfl (hb hby d10_104) (by decide) (W := 0) (Nat.le_of_eq rfl) (by decide)
  refine own_Fin.go st12 ?_
  have V_r8_12 : Arv Z h12 r8 kb8 .long (10 : Int32) [(.long 3458764515968024577), (.long 0), (.long yp), (.long wp), (.long ya), (.long wa), (.long yb), (.long wb), (.long 0), (.long 0)] (.long 0) := V12c
  have E_oa_12 := E_oa_9.keep K12q
  have F_oa_cells_12 := F_oa_cells_9.keep K12q (ninS ne_oa_r8 nin0)
  have F_oa_sets_12 := F_oa_sets_9.keep K12q (ninS ne_oa_r8 nin0)
  have E_ot_12 := E_ot_9.keep K12q
  have F_ot_buckets_12 := F_ot_buckets_9.keep K12q (ninS ne_ot_r8 nin0)
  have Z12 := Nat.le_trans Z9 K12q.1
  have K12 := K9.trans K12q (allS (Or.inr sz_r8) all0)
  refine own_Fin.go (fun t k => XS.aloadN X12.here hx rfl (hb hby d10_107) rfl rfl k) ?_
  refine own_gF X12 hx hZ hown (own_W hw 39 rfl) e12 F_oa_cells_12 rfl rfl (hb hby d10_108) ?_
  intro T13 X13 e13
  refine own_Fin.go (fun t k => XS.iload X13.here hx rfl (hb hby d10_111) rfl (XS.lloadN X13.here hx rfl (hb hby d10_113) rfl k)) ?_
  obtain ⟨cl14, Ar14, q14, S14, N14l, H14, G14⟩ := (id V_r8_12)
  have hin14 : ¬ ((8 : Int32) < 0 ∨ cl14.slots.size ≤ ((8 : Int32)).toNatClampNeg) := inb_of S14 ⟨by decide, by decide⟩
  obtain ⟨T14, h14, X14, e14, W14, st14⟩ := stJ X13 hx hZ e13 Ar14 (j := (8 : Int32)) hin14 (g := (mkF m 114 #[rv oa, iv 1, jv vb, sS, rv ot, iv 8, iv 8, iv 8, uS, uS] [(.long vb), (.int 8), (.ref r8)])) rfl rfl (hb hby d10_114)
  refine own_Fin.go st14 ?_
  have V_r8_14 := Arv.set Ar14 q14 S14 N14l H14 G14 rfl W14 8 rfl (Nat.le_of_ble_eq_true rfl)
  replace V_r8_14 : Arv Z h14 r8 kb8 .long (10 : Int32) [(.long 3458764515968024577), (.long 0), (.long yp), (.long wp), (.long ya), (.long wa), (.long yb), (.long wb), (.long vb), (.long 0)] (.long 0) := V_r8_14
  have E_oa_14 := Exa.wr W14 E_oa_12
  have F_oa_cells_14 := Fld.other W14 F_oa_cells_12 (Or.inl ne_oa_r8)
  have F_oa_sets_14 := Fld.other W14 F_oa_sets_12 (Or.inl ne_oa_r8)
  have E_ot_14 := Exa.wr W14 E_ot_12
  have F_ot_buckets_14 := Fld.other W14 F_ot_buckets_12 (Or.inl ne_ot_r8)
  have Z14 := Nat.le_trans Z12 (Keep.of_wr W14).1
  have K14 := K12.wr W14 (Or.inr sz_r8)
  have N14 := Fr.snoc X14 N12 g_r8
  show own_Fin _ _ _ _ _ _ _ (T14.setTop (mkF m 115 #[rv oa, iv 1, jv vb, sS, rv ot, iv 8, iv 8, iv 8, uS, uS] []))
  refine own_Fin.go (fun t k => XS.aloadN X14.here hx rfl (hb hby d10_115) rfl rfl k) ?_
  refine own_gF X14 hx hZ hown (own_W hw 39 rfl) e14 F_oa_cells_14 rfl rfl (hb hby d10_116) ?_
  intro T15 X15 e15
  refine own_Fin.go (fun t k => XS.iload X15.here hx rfl (hb hby d10_119) rfl (XS.iconst X15.here hx rfl (hb hby d10_121) (XS.iadd X15.here hx rfl (hb hby d10_122) rfl k))) ?_
  show own_Fin _ _ _ _ _ _ _ (T15.setTop (mkF m 123 #[rv oa, iv 1, jv vb, sS, rv ot, iv 8, iv 8, iv 8, uS, uS] [(.int ((8 : Int32) + (1 : Int32))), (.ref r8)]))
  rw [show ((8 : Int32) + (1 : Int32)) = (9 : Int32) from by decide +kernel]
  refine own_Fin.go (fun t k => XS.lconst X15.here hx rfl (hb hby d10_123) k) ?_
  obtain ⟨cl16, Ar16, q16, S16, N16l, H16, G16⟩ := (id V_r8_14)
  have hin16 : ¬ ((9 : Int32) < 0 ∨ cl16.slots.size ≤ ((9 : Int32)).toNatClampNeg) := inb_of S16 ⟨by decide, by decide⟩
  obtain ⟨T16, h16, X16, e16, W16, st16⟩ := stJ X15 hx hZ e15 Ar16 (j := (9 : Int32)) hin16 (g := (mkF m 124 #[rv oa, iv 1, jv vb, sS, rv ot, iv 8, iv 8, iv 8, uS, uS] [(.long 0), (.int 9), (.ref r8)])) rfl rfl (hb hby d10_124)
  refine own_Fin.go st16 ?_
  have V_r8_16 := Arv.set Ar16 q16 S16 N16l H16 G16 rfl W16 9 rfl (Nat.le_of_ble_eq_true rfl)
  replace V_r8_16 : Arv Z h16 r8 kb8 .long (10 : Int32) [(.long 3458764515968024577), (.long 0), (.long yp), (.long wp), (.long ya), (.long wa), (.long yb), (.long wb), (.long vb), (.long 0)] (.long 0) := V_r8_16
  have E_oa_16 := Exa.wr W16 E_oa_14
  have F_oa_cells_16 := Fld.other W16 F_oa_cells_14 (Or.inl ne_oa_r8)
  have F_oa_sets_16 := Fld.other W16 F_oa_sets_14 (Or.inl ne_oa_r8)
  have E_ot_16 := Exa.wr W16 E_ot_14
  have F_ot_buckets_16 := Fld.other W16 F_ot_buckets_14 (Or.inl ne_ot_r8)
  have Z16 := Nat.le_trans Z14 (Keep.of_wr W16).1
  have K16 := K14.wr W16 (Or.inr sz_r8)
  have N16 := Fr.snoc X16 N14 g_r8
  refine own_Fin.go (fun t k => XS.aloadN X16.here hx rfl (hb hby d10_125) rfl rfl k) ?_
  refine own_gF X16 hx hZ hown (own_W hw 43 rfl) e16 F_oa_sets_16 rfl rfl (hb hby d10_126) ?_
  intro T17 X17 e17
  refine own_Fin.go (fun t k => XS.ifnullYes X17.here hx rfl (pc0 := 129) (pc' := 216) rfl (hb hby d10_129) rfl (by decide) (by decide) k) ?_
  show own_Fin _ _ _ _ _ _ _ (T17.setTop (mkF m 216 #[rv oa, iv 1, jv vb, sS, rv ot, iv 8, iv 8, iv 8, uS, uS] []))
  refine own_Fin.go (fun t k => XS.aloadN X17.here hx rfl (hb hby d10_216) rfl rfl (XS.iloadN X17.here hx rfl (hb hby d10_217) rfl (XS.aloadN X17.here hx rfl (hb hby d10_218) rfl rfl (XS.iloadN X17.here hx rfl (hb hby d10_219) rfl k)))) ?_
  refine own_pC X17 hx hZ hown (own_W hw 70 rfl) (own_W hw 71 rfl) (own_W hw 48 rfl) rfl (own_W hw 72 rfl) (own_W hw 73 rfl) (own_W hw 17 rfl) (by decide) (own_rm_len1 l Z a0 hw [] oa r8 kb8 (10 : Int32) (3458764515968024577 : Int64) (0 : Int64) ([(.long yp), (.long wp), (.long ya), (.long wa), (.long yb), (.long wb), (.long vb), (.long 0)]) h16 n0 Z16 F_oa_cells_16 V_r8_16 (by decide)) 2 (by decide) (by decide) e17 E_oa_16 rfl (by rw [hml]; rfl) [(.int 1)] (lenOf own_pd1 rfl) rfl (Nat.le_of_eq rfl) (hb hby d10_220) rfl (by decide) (by decide) ?_
  rintro T18 Lc18 _ X18 ⟨rfl, N18q, e18⟩
  have N18 := Fr.app N16 N18q
  show own_Fin _ _ _ _ _ _ _ (T18.setTop (mkF m 223 #[rv oa, iv 1, jv vb, sS, rv ot, iv 8, iv 8, iv 8, uS, uS] [(.int (own_lenb (3458764515968024577 : Int64))), (.int 1), (.ref oa)]))
  rw [show (own_lenb (3458764515968024577 : Int64)) = (2 : Int32) from by decide +kernel]
  refine own_Fin.go (fun t k => XS.iconst X18.here hx rfl (hb hby d10_223) (XS.iadd X18.here hx rfl (hb hby d10_224) rfl k)) ?_
  show own_Fin _ _ _ _ _ _ _ (T18.setTop (mkF m 225 #[rv oa, iv 1, jv vb, sS, rv ot, iv 8, iv 8, iv 8, uS, uS] [(.int ((2 : Int32) + (1 : Int32))), (.int 1), (.ref oa)]))
  rw [show ((2 : Int32) + (1 : Int32)) = (3 : Int32) from by decide +kernel]
  refine own_pC X18 hx hZ hown (own_W hw 96 rfl) (own_W hw 97 rfl) (own_W hw 48 rfl) rfl (own_W hw 98 rfl) (own_W hw 99 rfl) (own_W hw 17 rfl) (by decide) (own_rm_sl1 l Z a0 hw [] oa (3 : Int32) r8 kb8 (10 : Int32) (3458764515968024577 : Int64) (0 : Int64) ([(.long yp), (.long wp), (.long ya), (.long wa), (.long yb), (.long wb), (.long vb), (.long 0)]) h16 n0 Z16 F_oa_cells_16 V_r8_16 (by decide) g_r8 ne_oa_r8) 0 (by decide) (by decide) e18 E_oa_16 rfl (by rw [hml]; rfl) [(.int 1), (.int 3)] (lenOf own_pd6 rfl) rfl (Nat.le_of_eq rfl) (hb hby d10_225) rfl (by decide) (by decide) ?_
  rintro T19 Lc19 _ X19 ⟨rfl, N19q, K19q, c19_1⟩
  have N19 := Fr.app N18 N19q
  have E_oa_19 := E_oa_16.keep K19q
  have F_oa_cells_19 := F_oa_cells_16.keep K19q (ninS ne_oa_r8 nin0)
  have F_oa_sets_19 := F_oa_sets_16.keep K19q (ninS ne_oa_r8 nin0)
  have E_ot_19 := E_ot_16.keep K19q
  have F_ot_buckets_19 := F_ot_buckets_16.keep K19q (ninS ne_ot_r8 nin0)
  have Z19 := Nat.le_trans Z16 K19q.1
  have K19 := K16.trans K19q (allS (Or.inr sz_r8) all0)
  rw [show (own_slb (3458764515968024577 : Int64) (3 : Int32)) = (3458764517041766401 : Int64) from by decide +kernel] at c19_1
  refine own_Fin.go (fun t k => XS.aload X19.here hx rfl (hb hby d10_228) rfl rfl (XS.dup X19.here hx rfl (hb hby d10_230) rfl rfl k)) ?_
  refine own_gF X19 hx hZ hown (own_W hw 101 rfl) rfl F_ot_buckets_19 rfl rfl (hb hby d10_231) ?_
  intro T20 X20 e20
  refine own_Fin.go (fun t k => XS.lconst X20.here hx rfl (hb hby d10_234) (XS.ladd X20.here hx rfl (hb hby d10_235) rfl k)) ?_
  obtain ⟨T21, h21, X21, e21, W21, st21⟩ := putF X20 hx hZ hown (host := "") (Or.inl (own_W hw 101 rfl)) Via.refl e20 F_ot_buckets_19 E_ot_19 (Or.inl (own_W hw 102 rfl)) (own_W hw 7 rfl) (ty := .long) (by decide) rfl rfl (g := (mkF m 236 #[rv oa, iv 1, jv vb, sS, rv ot, iv 8, iv 8, iv 8, uS, uS] [(.long (ub + (1 : Int64))), (.ref ot)])) rfl rfl (hb hby d10_236)
  refine own_Fin.go st21 ?_
  have F_ot_buckets_21 := Fld.same W21 F_ot_buckets_19
  have E_oa_21 := Exa.wr W21 E_oa_19
  have F_oa_cells_21 := Fld.other W21 F_oa_cells_19 (Or.inl ne_oa_ot)
  have F_oa_sets_21 := Fld.other W21 F_oa_sets_19 (Or.inl ne_oa_ot)
  have E_ot_21 := Exa.wr W21 E_ot_19
  have V_r8_21 := Arv.other c19_1 W21 (Ne.symm ne_ot_r8)
  have Z21 := Nat.le_trans Z19 (Keep.of_wr W21).1
  have K21 := K19.wr W21 (Or.inl (List.mem_of_getElem? (i := 1) rfl))
  have N21 := Fr.snoc X21 N19 g_ot
  show own_Fin _ _ _ _ _ _ _ (T21.setTop (mkF m 239 #[rv oa, iv 1, jv vb, sS, rv ot, iv 8, iv 8, iv 8, uS, uS] []))
  refine own_Fin.go (fun t k => XS.iload X21.here hx rfl (hb hby d10_239) rfl k) ?_
  refine own_retI X21 hx Bd.returns (hb hby d10_241) Bd.notSynchronized (by decide) (by decide) ?_
  rw [e21]
  exact ⟨r8, kb8, rfl, N21, K21, E_oa_21, F_oa_cells_21, F_oa_sets_21, V_r8_21, E_ot_21, F_ot_buckets_21, sz_r8, ne_oa_r8, ne_ot_r8⟩
theorem own_ef_adD2n (m : MethodId) (oa : Addr) (vb : Int64) (va : Int64) (ot : Addr) : entryFrame m #[(.ref oa), (.int 1), (.long vb), (.long va), (.ref ot)] 8 = mkF m 0 #[rv oa, iv 1, jv vb, sS, jv va, sS, rv ot, uS] [] := by first | (simp [entryFrame, mkF, argsToLocals, Value.category]; done) | rfl
def own_Q_adD2n (Z : State) (oa : Addr) (vb : Int64) (va : Int64) (ot : Addr) (oz : Addr) (kz : ClassId) (yp : Int64) (wp : Int64) (ya : Int64) (wa : Int64) (yb : Int64) (wb : Int64) (ub : Int64) (h0 : Heap) (n0 : Nat) (v : Option Value) (h : Heap) (L : List Loc) : Prop := ∃ ob : Addr, ∃ kb : ClassId, v = none ∧ Fr n0 L ∧ Keep h0 h [oa, ot, oz] ∧ Exa Z h oa own_k0 ∧ Fld Z h oa own_k0 "cells" "[J" (.ref ob) ∧ Fld Z h oa own_k0 "sets" "[Ljava/lang/Object;" .null ∧ Arv Z h ob kb .long (10 : Int32) [(.long 3458764517041766401), (.long 0), (.long yp), (.long wp), (.long ya), (.long wa), (.long yb), (.long wb), (.long vb), (.long (own_sat (0 : Int64) va))] (.long 0) ∧ Exa Z h ot own_k2 ∧ Fld Z h ot own_k2 "buckets" "J" (.long (ub + (1 : Int64))) ∧ h0.size ≤ ob ∧ oa ≠ ob ∧ ot ≠ ob
set_option maxRecDepth 65536 in
set_option maxHeartbeats 40000000 in
theorem own_rm_adD2n (l : Launch) (Z : State) (a0 : Array Value) (hw : ∀ d ∈ tables_1, d.before a0 Z = true) (ws : List Jvm.Cond) (oa : Addr) (vb : Int64) (va : Int64) (ot : Addr) (oz : Addr) (kz : ClassId) (yp : Int64) (wp : Int64) (ya : Int64) (wa : Int64) (yb : Int64) (wb : Int64) (ub : Int64) (h0 : Heap) (n0 : Nat) (Z0 : n0 ≤ h0.size) (E_oa : Exa Z h0 oa own_k0) (F_oa_cells : Fld Z h0 oa own_k0 "cells" "[J" (.ref oz)) (F_oa_sets : Fld Z h0 oa own_k0 "sets" "[Ljava/lang/Object;" .null) (V_oz : Arv Z h0 oz kz .long (8 : Int32) [(.long 3458764515968024577), (.long 0), (.long yp), (.long wp), (.long ya), (.long wa), (.long yb), (.long wb)] (.long 0)) (E_ot : Exa Z h0 ot own_k2) (F_ot_buckets : Fld Z h0 ot own_k2 "buckets" "J" (.long ub)) (g_oa : n0 ≤ oa) (g_oz : n0 ≤ oz) (g_ot : n0 ≤ ot) (ne_oa_ot : oa ≠ ot) (ne_oa_oz : oa ≠ oz) (ne_ot_oz : ot ≠ oz) (qyb : yb < vb) :
    MetFree l own_y17 (head1 (Jvm.Cond.code own_y17 prog_4_method_4_code 8 none :: ws) ({ frames := 5, cells := 1, slots := 10, locals := 76 } : Room)) (fun a U => a = #[(.ref oa), (.int 1), (.long vb), (.long va), (.ref ot)] ∧ Z.Warmed39 U.vm ∧ U.heap = h0) (fun _ _ _ _ _ => True) (fun _ U o U' => ∃ v L, o = .returned v ∧ own_Q_adD2n Z oa vb va ot oz kz yp wp ya wa yb wb ub h0 n0 v U'.heap L ∧ FrameEnd U o U' L ({ frames := 5, cells := 1, slots := 10, locals := 76 } : Room).cells ({ frames := 5, cells := 1, slots := 10, locals := 76 } : Room).slots) := by
  refine MetFree.of_bodySF (plainFor_of_name own_pn0) hisR ?_
  intro p e s m args below meth c s₁ Bd hml0 hP hK
  obtain ⟨rfl, hZ, hh⟩ := hP
  have hx := Bd.exec
  have hby := Bd.bytes
  have hml : c.maxLocals = 8 := hml0
  have hown : s.vm.findClass own_k0 = some m.cls := findClass_of_methodNamed Bd.named
  have hnm := (name_of_methodNamed Bd.named Bd.method).1
  have X0 : Stand p l e ({ frames := 5, cells := 1, slots := 10, locals := 76 } : Room) s m #[(.ref oa), (.int 1), (.long vb), (.long va), (.ref ot)] below meth c s₁ [] 0 0 := Stand.of_body Bd
  have e0 : s₁.heap = h0 := by rw [← hh, Bd.state]; rfl
  have N0 := Fr.nil n0
  have K0 := Keep.refl h0 [oa, ot, oz]
  show own_Fin p e below s (own_Q_adD2n Z oa vb va ot oz kz yp wp ya wa yb wb ub h0 n0) ({ frames := 5, cells := 1, slots := 10, locals := 76 } : Room).cells ({ frames := 5, cells := 1, slots := 10, locals := 76 } : Room).slots (s₁.setTop (entryFrame m #[(.ref oa), (.int 1), (.long vb), (.long va), (.ref ot)] 8))
  refine own_Fin.go (fun t k => castTop (own_ef_adD2n m oa vb va ot) k) ?_
  refine own_Fin.go (fun t k => XS.aloadN X0.here hx rfl (hb hby d1_0) rfl rfl (XS.iloadN X0.here hx rfl (hb hby d1_1) rfl (XS.lloadN X0.here hx rfl (hb hby d1_2) rfl (XS.aload X0.here hx rfl (hb hby d1_3) rfl rfl k)))) ?_
  show own_Fin _ _ _ _ _ _ _ (s₁.setTop (mkF m 5 #[rv oa, iv 1, jv vb, sS, jv va, sS, rv ot, uS] [(.ref ot), (.long vb), (.int 1), (.ref oa)]))
  refine own_pC X0 hx hZ hown (own_W hw 50 rfl) (own_W hw 51 rfl) (own_W hw 48 rfl) rfl (own_W hw 52 rfl) (own_W hw 53 rfl) (own_W hw 17 rfl) (by decide) (own_rm_soD2n l Z a0 hw [] oa vb ot oz kz yp wp ya wa yb wb ub h0 n0 Z0 E_oa F_oa_cells F_oa_sets V_oz E_ot F_ot_buckets g_oa g_oz g_ot ne_oa_ot ne_oa_oz ne_ot_oz (by assumption)) 0 (by decide) (by decide) e0 E_oa rfl (by rw [hml]; rfl) [(.int 1), (.long vb), (.ref ot)] (lenOf own_pd7 rfl) rfl (Nat.le_of_eq rfl) (hb hby d1_5) rfl (by decide) (by decide) ?_
  rintro T1 Lc1 _ X1 ⟨ob1, kb1, rfl, N1q, K1q, c1_1, c1_2, c1_3, c1_4, c1_5, c1_6, c1_7, c1_8, c1_9⟩
  have N1 := Fr.app N0 N1q
  have Z1 := Nat.le_trans Z0 K1q.1
  have K1 := K0.trans K1q (allS (Or.inl (List.mem_of_getElem? (i := 0) rfl)) (allS (Or.inl (List.mem_of_getElem? (i := 1) rfl)) (allS (Or.inl (List.mem_of_getElem? (i := 2) rfl)) all0)))
  have ne_oa_ob1 : oa ≠ ob1 := Nat.ne_of_lt (Nat.lt_of_lt_of_le F_oa_sets.lt c1_7)
  have ne_oz_ob1 : oz ≠ ob1 := Nat.ne_of_lt (Nat.lt_of_lt_of_le V_oz.lt c1_7)
  have ne_ot_ob1 : ot ≠ ob1 := Nat.ne_of_lt (Nat.lt_of_lt_of_le F_ot_buckets.lt c1_7)
  have g_ob1 : n0 ≤ ob1 := Nat.le_trans Z0 c1_7
  have sz_ob1 : h0.size ≤ ob1 := Nat.le_trans K0.1 c1_7
  refine own_Fin.go (fun t k => XS.istore X1.here hx rfl (hb hby d1_8) rfl (l' := #[rv oa, iv 1, jv vb, sS, jv va, sS, rv ot, iv 8]) rfl (XS.aloadN X1.here hx rfl (hb hby d1_10) rfl rfl k)) ?_
  refine own_gF X1 hx hZ hown (own_W hw 39 rfl) rfl c1_2 rfl rfl (hb hby d1_11) ?_
  intro T2 X2 e2
  refine own_Fin.go (fun t k => XS.iload X2.here hx rfl (hb hby d1_14) rfl k) ?_
  show own_Fin _ _ _ _ _ _ _ (T2.setTop (mkF m 16 #[rv oa, iv 1, jv vb, sS, jv va, sS, rv ot, iv 8] [(.int 8), (.ref ob1)]))
  refine own_Fin.go (fun t k => XS.iconst X2.here hx rfl (hb hby d1_16) (XS.iadd X2.here hx rfl (hb hby d1_17) rfl k)) ?_
  show own_Fin _ _ _ _ _ _ _ (T2.setTop (mkF m 18 #[rv oa, iv 1, jv vb, sS, jv va, sS, rv ot, iv 8] [(.int ((8 : Int32) + (1 : Int32))), (.ref ob1)]))
  rw [show ((8 : Int32) + (1 : Int32)) = (9 : Int32) from by decide +kernel]
  refine own_Fin.go (fun t k => XS.aloadN X2.here hx rfl (hb hby d1_18) rfl rfl k) ?_
  refine own_gF X2 hx hZ hown (own_W hw 39 rfl) e2 c1_2 rfl rfl (hb hby d1_19) ?_
  intro T3 X3 e3
  refine own_Fin.go (fun t k => XS.iload X3.here hx rfl (hb hby d1_22) rfl (XS.iconst X3.here hx rfl (hb hby d1_24) (XS.iadd X3.here hx rfl (hb hby d1_25) rfl k))) ?_
  show own_Fin _ _ _ _ _ _ _ (T3.setTop (mkF m 26 #[rv oa, iv 1, jv vb, sS, jv va, sS, rv ot, iv 8] [(.int ((8 : Int32) + (1 : Int32))), (.ref ob1), (.int 9), (.ref ob1)]))
  rw [show ((8 : Int32) + (1 : Int32)) = (9 : Int32) from by decide +kernel]
  refine own_lal X3 hx hZ e3 c1_4 ⟨by decide, by decide⟩ (v := (0 : Int64)) rfl rfl rfl (hb hby d1_26) ?_
  refine own_Fin.go (fun t k => XS.lload X3.here hx rfl (hb hby d1_27) rfl k) ?_
  refine own_sC X3 hx hZ hown (own_W hw 103 rfl) (own_W hw 104 rfl) (own_W hw 17 rfl) (own_W hw 105 rfl) (by decide) (own_rm_sat l Z a0 hw [] (0 : Int64) va  T1.heap n0 Z1 ) 2 (by decide) (by decide) e3 rfl (by rw [hml]; rfl) [(.long 0), (.long va)] [(.int 9), (.ref ob1)] (lenOf own_pd8 rfl) rfl (Nat.le_of_eq rfl) (hb hby d1_29) rfl (by decide) (by decide) ?_
  rintro T5 Lc5 _ X5 ⟨rfl, N5q, e5⟩
  have N5 := Fr.app N1 N5q
  obtain ⟨cl6, Ar6, q6, S6, N6l, H6, G6⟩ := (id c1_4)
  have hin6 : ¬ ((9 : Int32) < 0 ∨ cl6.slots.size ≤ ((9 : Int32)).toNatClampNeg) := inb_of S6 ⟨by decide, by decide⟩
  obtain ⟨T6, h6, X6, e6, W6, st6⟩ := stJ X5 hx hZ e5 Ar6 (j := (9 : Int32)) hin6 (g := (mkF m 32 #[rv oa, iv 1, jv vb, sS, jv va, sS, rv ot, iv 8] [(.long (own_sat (0 : Int64) va)), (.int 9), (.ref ob1)])) rfl rfl (hb hby d1_32)
  refine own_Fin.go st6 ?_
  have V_ob1_6 := Arv.set Ar6 q6 S6 N6l H6 G6 rfl W6 9 rfl (Nat.le_of_ble_eq_true rfl)
  replace V_ob1_6 : Arv Z h6 ob1 kb1 .long (10 : Int32) [(.long 3458764517041766401), (.long 0), (.long yp), (.long wp), (.long ya), (.long wa), (.long yb), (.long wb), (.long vb), (.long (own_sat (0 : Int64) va))] (.long 0) := V_ob1_6
  have E_oa_6 := Exa.wr W6 c1_1
  have F_oa_cells_6 := Fld.other W6 c1_2 (Or.inl c1_8)
  have F_oa_sets_6 := Fld.other W6 c1_3 (Or.inl c1_8)
  have E_ot_6 := Exa.wr W6 c1_5
  have F_ot_buckets_6 := Fld.other W6 c1_6 (Or.inl c1_9)
  have Z6 := Nat.le_trans Z1 (Keep.of_wr W6).1
  have K6 := K1.wr W6 (Or.inr sz_ob1)
  have N6 := Fr.snoc X6 N5 g_ob1
  show own_Fin _ _ _ _ _ _ _ (T6.setTop (mkF m 33 #[rv oa, iv 1, jv vb, sS, jv va, sS, rv ot, iv 8] []))
  refine own_ret0 X6 hx Bd.returns (hb hby d1_33) Bd.notSynchronized (by decide) (by decide) ?_
  rw [e6]
  exact ⟨ob1, kb1, rfl, N6, K6, E_oa_6, F_oa_cells_6, F_oa_sets_6, V_ob1_6, E_ot_6, F_ot_buckets_6, sz_ob1, c1_8, c1_9⟩
theorem own_ef_soE1 (m : MethodId) (oa : Addr) (vb : Int64) (ot : Addr) : entryFrame m #[(.ref oa), (.int 2), (.long vb), (.ref ot)] 10 = mkF m 0 #[rv oa, iv 2, jv vb, sS, rv ot, uS, uS, uS, uS, uS] [] := by first | (simp [entryFrame, mkF, argsToLocals, Value.category]; done) | rfl
def own_Q_soE1 (Z : State) (oa : Addr) (vb : Int64) (ot : Addr) (oz : Addr) (kz : ClassId) (yp : Int64) (wp : Int64) (ya : Int64) (wa : Int64) (ub : Int64) (h0 : Heap) (n0 : Nat) (v : Option Value) (h : Heap) (L : List Loc) : Prop := ∃ ob : Addr, ∃ kb : ClassId, v = some (.int 6) ∧ Fr n0 L ∧ Keep h0 h [oa, ot, oz] ∧ Exa Z h oa own_k0 ∧ Fld Z h oa own_k0 "cells" "[J" (.ref ob) ∧ Fld Z h oa own_k0 "sets" "[Ljava/lang/Object;" .null ∧ Arv Z h ob kb .long (8 : Int32) [(.long 3458764514894282753), (.long 1), (.long yp), (.long wp), (.long ya), (.long wa), (.long vb), (.long 0)] (.long 0) ∧ Exa Z h ot own_k2 ∧ Fld Z h ot own_k2 "buckets" "J" (.long (ub + (1 : Int64))) ∧ h0.size ≤ ob ∧ oa ≠ ob ∧ ot ≠ ob
set_option maxRecDepth 65536 in
set_option maxHeartbeats 40000000 in
theorem own_rm_soE1 (l : Launch) (Z : State) (a0 : Array Value) (hw : ∀ d ∈ tables_1, d.before a0 Z = true) (ws : List Jvm.Cond) (oa : Addr) (vb : Int64) (ot : Addr) (oz : Addr) (kz : ClassId) (yp : Int64) (wp : Int64) (ya : Int64) (wa : Int64) (ub : Int64) (h0 : Heap) (n0 : Nat) (Z0 : n0 ≤ h0.size) (E_oa : Exa Z h0 oa own_k0) (F_oa_cells : Fld Z h0 oa own_k0 "cells" "[J" (.ref oz)) (F_oa_sets : Fld Z h0 oa own_k0 "sets" "[Ljava/lang/Object;" .null) (V_oz : Arv Z h0 oz kz .long (6 : Int32) [(.long 3458764514894282753), (.long 0), (.long yp), (.long wp), (.long ya), (.long wa)] (.long 0)) (E_ot : Exa Z h0 ot own_k2) (F_ot_buckets : Fld Z h0 ot own_k2 "buckets" "J" (.long ub)) (g_oa : n0 ≤ oa) (g_oz : n0 ≤ oz) (g_ot : n0 ≤ ot) (ne_oa_ot : oa ≠ ot) (ne_oa_oz : oa ≠ oz) (ne_ot_oz : ot ≠ oz) :
    MetFree l own_y16 (head1 (Jvm.Cond.code own_y16 prog_4_method_10_code 10 (some .int) :: ws) ({ frames := 4, cells := 1, slots := 8, locals := 55 } : Room)) (fun a U => a = #[(.ref oa), (.int 2), (.long vb), (.ref ot)] ∧ Z.Warmed39 U.vm ∧ U.heap = h0) (fun _ _ _ _ _ => True) (fun _ U o U' => ∃ v L, o = .returned v ∧ own_Q_soE1 Z oa vb ot oz kz yp wp ya wa ub h0 n0 v U'.heap L ∧ FrameEnd U o U' L ({ frames := 4, cells := 1, slots := 8, locals := 55 } : Room).cells ({ frames := 4, cells := 1, slots := 8, locals := 55 } : Room).slots) := by
  refine MetFree.of_bodySF (plainFor_of_name own_pn0) hisR ?_
  intro p e s m args below meth c s₁ Bd hml0 hP hK
  obtain ⟨rfl, hZ, hh⟩ := hP
  have hx := Bd.exec
  have hby := Bd.bytes
  have hml : c.maxLocals = 10 := hml0
  have hown : s.vm.findClass own_k0 = some m.cls := findClass_of_methodNamed Bd.named
  have hnm := (name_of_methodNamed Bd.named Bd.method).1
  have X0 : Stand p l e ({ frames := 4, cells := 1, slots := 8, locals := 55 } : Room) s m #[(.ref oa), (.int 2), (.long vb), (.ref ot)] below meth c s₁ [] 0 0 := Stand.of_body Bd
  have e0 : s₁.heap = h0 := by rw [← hh, Bd.state]; rfl
  have N0 := Fr.nil n0
  have K0 := Keep.refl h0 [oa, ot, oz]
  show own_Fin p e below s (own_Q_soE1 Z oa vb ot oz kz yp wp ya wa ub h0 n0) ({ frames := 4, cells := 1, slots := 8, locals := 55 } : Room).cells ({ frames := 4, cells := 1, slots := 8, locals := 55 } : Room).slots (s₁.setTop (entryFrame m #[(.ref oa), (.int 2), (.long vb), (.ref ot)] 10))
  refine own_Fin.go (fun t k => castTop (own_ef_soE1 m oa vb ot) k) ?_
  refine own_Fin.go (fun t k => XS.aloadN X0.here hx rfl (hb hby d10_0) rfl rfl (XS.iloadN X0.here hx rfl (hb hby d10_1) rfl (XS.lloadN X0.here hx rfl (hb hby d10_2) rfl k))) ?_
  refine own_pC X0 hx hZ hown (own_W hw 54 rfl) (own_W hw 55 rfl) (own_W hw 48 rfl) rfl (own_W hw 56 rfl) (own_W hw 57 rfl) (own_W hw 17 rfl) (by decide) (own_rm_iz2 l Z a0 hw [] oa vb oz kz (6 : Int32) (3458764514894282753 : Int64) (0 : Int64) ([(.long yp), (.long wp), (.long ya), (.long wa)]) h0 n0 Z0 E_oa F_oa_cells V_oz (by decide) (by decide)) 0 (by decide) (by decide) e0 E_oa rfl (by rw [hml]; rfl) [(.int 2), (.long vb)] (lenOf own_pd4 rfl) rfl (Nat.le_of_eq rfl) (hb hby d10_3) rfl (by decide) (by decide) ?_
  rintro T1 Lc1 _ X1 ⟨rfl, N1q, e1⟩
  have N1 := Fr.app N0 N1q
  show own_Fin _ _ _ _ _ _ _ (T1.setTop (mkF m 6 #[rv oa, iv 2, jv vb, sS, rv ot, uS, uS, uS, uS, uS] [(.int (own_ixc (3458764514894282753 : Int64)))]))
  rw [show (own_ixc (3458764514894282753 : Int64)) = (6 : Int32) from by decide +kernel]
  refine own_Fin.go (fun t k => XS.istore X1.here hx rfl (hb hby d10_6) rfl (l' := #[rv oa, iv 2, jv vb, sS, rv ot, iv 6, uS, uS, uS, uS]) rfl (XS.aloadN X1.here hx rfl (hb hby d10_8) rfl rfl (XS.iloadN X1.here hx rfl (hb hby d10_9) rfl k))) ?_
  refine own_pC X1 hx hZ hown (own_W hw 58 rfl) (own_W hw 59 rfl) (own_W hw 48 rfl) rfl (own_W hw 60 rfl) (own_W hw 61 rfl) (own_W hw 17 rfl) (by decide) (own_rm_st2 l Z a0 hw [] oa oz kz (6 : Int32) (3458764514894282753 : Int64) (0 : Int64) ([(.long yp), (.long wp), (.long ya), (.long wa)]) h0 n0 Z0 E_oa F_oa_cells V_oz (by decide)) 0 (by decide) (by decide) e1 E_oa rfl (by rw [hml]; rfl) [(.int 2)] (lenOf own_pd1 rfl) rfl (Nat.le_of_eq rfl) (hb hby d10_10) rfl (by decide) (by decide) ?_
  rintro T2 Lc2 _ X2 ⟨rfl, N2q, e2⟩
  have N2 := Fr.app N1 N2q
  show own_Fin _ _ _ _ _ _ _ (T2.setTop (mkF m 13 #[rv oa, iv 2, jv vb, sS, rv ot, iv 6, uS, uS, uS, uS] [(.int (own_stc (3458764514894282753 : Int64)))]))
  rw [show (own_stc (3458764514894282753 : Int64)) = (6 : Int32) from by decide +kernel]
  refine own_Fin.go (fun t k => XS.iconst X2.here hx rfl (hb hby d10_13) (XS.aloadN X2.here hx rfl (hb hby d10_14) rfl rfl (XS.iloadN X2.here hx rfl (hb hby d10_15) rfl k))) ?_
  refine own_pC X2 hx hZ hown (own_W hw 70 rfl) (own_W hw 71 rfl) (own_W hw 48 rfl) rfl (own_W hw 72 rfl) (own_W hw 73 rfl) (own_W hw 17 rfl) (by decide) (own_rm_len2 l Z a0 hw [] oa oz kz (6 : Int32) (3458764514894282753 : Int64) (0 : Int64) ([(.long yp), (.long wp), (.long ya), (.long wa)]) h0 n0 Z0 F_oa_cells V_oz (by decide)) 2 (by decide) (by decide) e2 E_oa rfl (by rw [hml]; rfl) [(.int 2)] (lenOf own_pd1 rfl) rfl (Nat.le_of_eq rfl) (hb hby d10_16) rfl (by decide) (by decide) ?_
  rintro T3 Lc3 _ X3 ⟨rfl, N3q, e3⟩
  have N3 := Fr.app N2 N3q
  show own_Fin _ _ _ _ _ _ _ (T3.setTop (mkF m 19 #[rv oa, iv 2, jv vb, sS, rv ot, iv 6, uS, uS, uS, uS] [(.int (own_lena (0 : Int64))), (.int 2), (.int 6)]))
  rw [show (own_lena (0 : Int64)) = (0 : Int32) from by decide +kernel]
  refine own_Fin.go (fun t k => XS.imul X3.here hx rfl (hb hby d10_19) rfl k) ?_
  show own_Fin _ _ _ _ _ _ _ (T3.setTop (mkF m 20 #[rv oa, iv 2, jv vb, sS, rv ot, iv 6, uS, uS, uS, uS] [(.int ((2 : Int32) * (0 : Int32))), (.int 6)]))
  rw [show ((2 : Int32) * (0 : Int32)) = (0 : Int32) from by decide +kernel]
  refine own_Fin.go (fun t k => XS.iadd X3.here hx rfl (hb hby d10_20) rfl k) ?_
  show own_Fin _ _ _ _ _ _ _ (T3.setTop (mkF m 21 #[rv oa, iv 2, jv vb, sS, rv ot, iv 6, uS, uS, uS, uS] [(.int ((6 : Int32) + (0 : Int32)))]))
  rw [show ((6 : Int32) + (0 : Int32)) = (6 : Int32) from by decide +kernel]
  refine own_Fin.go (fun t k => XS.istore X3.here hx rfl (hb hby d10_21) rfl (l' := #[rv oa, iv 2, jv vb, sS, rv ot, iv 6, iv 6, uS, uS, uS]) rfl (XS.iload X3.here hx rfl (hb hby d10_23) rfl (XS.iload X3.here hx rfl (hb hby d10_25) rfl (XS.icmpYes X3.here hx rfl (pc0 := 27) (pc' := 45) rfl (hb hby d10_27) rfl (by decide) (by decide) (by decide) k)))) ?_
  refine own_Fin.go (fun t k => XS.aloadN X3.here hx rfl (hb hby d10_45) rfl rfl k) ?_
  refine own_pC X3 hx hZ hown (own_W hw 79 rfl) (own_W hw 80 rfl) (own_W hw 48 rfl) rfl (own_W hw 81 rfl) (own_W hw 82 rfl) (own_W hw 17 rfl) (by decide) (own_rm_used l Z a0 hw [] oa oz kz (6 : Int32) (3458764514894282753 : Int64) (0 : Int64) ([(.long yp), (.long wp), (.long ya), (.long wa)]) h0 n0 Z0 E_oa F_oa_cells V_oz (by decide) (by decide)) 0 (by decide) (by decide) e3 E_oa rfl (by rw [hml]; rfl) [] (lenOf own_pd0 rfl) rfl (Nat.le_of_eq rfl) (hb hby d10_46) rfl (by decide) (by decide) ?_
  rintro T4 Lc4 _ X4 ⟨rfl, N4q, e4⟩
  have N4 := Fr.app N3 N4q
  show own_Fin _ _ _ _ _ _ _ (T4.setTop (mkF m 49 #[rv oa, iv 2, jv vb, sS, rv ot, iv 6, iv 6, uS, uS, uS] [(.int (own_std (3458764514894282753 : Int64) (0 : Int64)))]))
  rw [show (own_std (3458764514894282753 : Int64) (0 : Int64)) = (6 : Int32) from by decide +kernel]
  refine own_Fin.go (fun t k => XS.istore X4.here hx rfl (hb hby d10_49) rfl (l' := #[rv oa, iv 2, jv vb, sS, rv ot, iv 6, iv 6, iv 6, uS, uS]) rfl (XS.iload X4.here hx rfl (hb hby d10_51) rfl (XS.iconst X4.here hx rfl (hb hby d10_53) (XS.iadd X4.here hx rfl (hb hby d10_54) rfl k)))) ?_
  show own_Fin _ _ _ _ _ _ _ (T4.setTop (mkF m 55 #[rv oa, iv 2, jv vb, sS, rv ot, iv 6, iv 6, iv 6, uS, uS] [(.int ((6 : Int32) + (2 : Int32)))]))
  rw [show ((6 : Int32) + (2 : Int32)) = (8 : Int32) from by decide +kernel]
  refine own_Fin.go (fun t k => XS.aloadN X4.here hx rfl (hb hby d10_55) rfl rfl k) ?_
  refine own_gF X4 hx hZ hown (own_W hw 39 rfl) e4 F_oa_cells rfl rfl (hb hby d10_56) ?_
  intro T5 X5 e5
  obtain ⟨cl6, Ar6, -, S6, N6l, -, -⟩ := (id V_oz)
  refine own_Fin.go (fun t k => X5.arraylength hx (by rw [e5]; exact Ar6.1) (State.isArrayOf_alike hZ.alike Ar6.2.1) (g := (mkF m 59 #[rv oa, iv 2, jv vb, sS, rv ot, iv 6, iv 6, iv 6, uS, uS] [(.ref oz), (.int 8)])) rfl rfl (hb hby d10_59) t k) ?_
  rw [len_of S6 N6l]
  refine own_Fin.go (fun t k => XS.icmpNo X5.here hx rfl (hb hby d10_60) rfl (by decide) (XS.aloadN X5.here hx rfl (hb hby d10_63) rfl rfl (XS.aloadN X5.here hx rfl (hb hby d10_64) rfl rfl k))) ?_
  refine own_gF X5 hx hZ hown (own_W hw 39 rfl) e5 F_oa_cells rfl rfl (hb hby d10_65) ?_
  intro T7 X7 e7
  show own_Fin _ _ _ _ _ _ _ (T7.setTop (mkF m 68 #[rv oa, iv 2, jv vb, sS, rv ot, iv 6, iv 6, iv 6, uS, uS] [(.ref oz), (.ref oa)]))
  refine own_Fin.go (fun t k => XS.iload X7.here hx rfl (hb hby d10_68) rfl (XS.iconst X7.here hx rfl (hb hby d10_70) (XS.iadd X7.here hx rfl (hb hby d10_71) rfl k))) ?_
  show own_Fin _ _ _ _ _ _ _ (T7.setTop (mkF m 72 #[rv oa, iv 2, jv vb, sS, rv ot, iv 6, iv 6, iv 6, uS, uS] [(.int ((6 : Int32) + (2 : Int32))), (.ref oz), (.ref oa)]))
  rw [show ((6 : Int32) + (2 : Int32)) = (8 : Int32) from by decide +kernel]
  refine own_Fin.go (fun t k => XS.iload X7.here hx rfl (hb hby d10_72) rfl (XS.iconst X7.here hx rfl (hb hby d10_74) (XS.iushr X7.here hx rfl (hb hby d10_75) rfl k))) ?_
  show own_Fin _ _ _ _ _ _ _ (T7.setTop (mkF m 76 #[rv oa, iv 2, jv vb, sS, rv ot, iv 6, iv 6, iv 6, uS, uS] [(.int (((6 : Int32).toUInt32 >>> ((4 : Int32) &&& 31).toUInt32).toInt32)), (.int 8), (.ref oz), (.ref oa)]))
  rw [show (((6 : Int32).toUInt32 >>> ((4 : Int32) &&& 31).toUInt32).toInt32) = (0 : Int32) from by decide +kernel]
  refine own_Fin.go (fun t k => XS.iconst X7.here hx rfl (hb hby d10_76) (XS.ishl X7.here hx rfl (hb hby d10_77) rfl k)) ?_
  show own_Fin _ _ _ _ _ _ _ (T7.setTop (mkF m 78 #[rv oa, iv 2, jv vb, sS, rv ot, iv 6, iv 6, iv 6, uS, uS] [(.int ((0 : Int32) <<< ((1 : Int32) &&& 31))), (.int 8), (.ref oz), (.ref oa)]))
  rw [show ((0 : Int32) <<< ((1 : Int32) &&& 31)) = (0 : Int32) from by decide +kernel]
  refine own_Fin.go (fun t k => XS.iadd X7.here hx rfl (hb hby d10_78) rfl k) ?_
  show own_Fin _ _ _ _ _ _ _ (T7.setTop (mkF m 79 #[rv oa, iv 2, jv vb, sS, rv ot, iv 6, iv 6, iv 6, uS, uS] [(.int ((8 : Int32) + (0 : Int32))), (.ref oz), (.ref oa)]))
  rw [show ((8 : Int32) + (0 : Int32)) = (8 : Int32) from by decide +kernel]
  refine own_sC X7 hx hZ hown (own_W hw 83 rfl) (own_W hw 84 rfl) (own_W hw 85 rfl) (own_W hw 86 rfl) (by decide) (own_rm_cpy6 l Z a0 hw [] oz kz (3458764514894282753 : Int64) (0 : Int64) yp wp ya wa h0 n0 Z0 V_oz) 1 (by decide) (by decide) e7 rfl (by rw [hml]; rfl) [(.ref oz), (.int 8)] [(.ref oa)] (lenOf own_pd5 rfl) rfl (Nat.le_of_eq rfl) (hb hby d10_79) rfl (by decide) (by decide) ?_
  rintro T8 Lc8 _ X8 ⟨r8, kb8, rfl, N8q, K8q, c8_1, c8_2⟩
  have N8 := Fr.app N4 N8q
  have E_oa_8 := E_oa.keep K8q
  have F_oa_cells_8 := F_oa_cells.keep K8q nin0
  have F_oa_sets_8 := F_oa_sets.keep K8q nin0
  have V_oz_8 := V_oz.keep K8q nin0
  have E_ot_8 := E_ot.keep K8q
  have F_ot_buckets_8 := F_ot_buckets.keep K8q nin0
  have Z8 := Nat.le_trans Z0 K8q.1
  have K8 := K0.trans K8q all0
  have ne_oa_r8 : oa ≠ r8 := Nat.ne_of_lt (Nat.lt_of_lt_of_le F_oa_sets.lt c8_2)
  have ne_oz_r8 : oz ≠ r8 := Nat.ne_of_lt (Nat.lt_of_lt_of_le V_oz.lt c8_2)
  have ne_ot_r8 : ot ≠ r8 := Nat.ne_of_lt (Nat.lt_of_lt_of_le F_ot_buckets.lt c8_2)
  have g_r8 : n0 ≤ r8 := Nat.le_trans Z0 c8_2
  have sz_r8 : h0.size ≤ r8 := Nat.le_trans K0.1 c8_2
  obtain ⟨T9, h9, X9, e9, W9, st9⟩ := putF X8 hx hZ hown (host := "") (Or.inl (own_W hw 39 rfl)) Via.refl rfl F_oa_cells_8 E_oa_8 (Or.inl (own_W hw 40 rfl)) (own_W hw 16 rfl) (ty := (.array .long)) (by decide) rfl rfl (g := (mkF m 82 #[rv oa, iv 2, jv vb, sS, rv ot, iv 6, iv 6, iv 6, uS, uS] [(.ref r8), (.ref oa)])) rfl rfl (hb hby d10_82)
  refine own_Fin.go st9 ?_
  have F_oa_cells_9 := Fld.same W9 F_oa_cells_8
  have E_oa_9 := Exa.wr W9 E_oa_8
  have F_oa_sets_9 := Fld.other W9 F_oa_sets_8 (Or.inr (slot_ne (Or.inl (own_W hw 44 rfl)) (Or.inl (own_W hw 40 rfl)) (by decide) (t := (.array (.object "java/lang/Object"))) (t' := (.array .long)) (by decide) (by decide)))
  have V_oz_9 := Arv.other V_oz_8 W9 (Ne.symm ne_oa_oz)
  have E_ot_9 := Exa.wr W9 E_ot_8
  have F_ot_buckets_9 := Fld.other W9 F_ot_buckets_8 (Or.inl (Ne.symm ne_oa_ot))
  have V_r8_9 := Arv.other c8_1 W9 (Ne.symm ne_oa_r8)
  have Z9 := Nat.le_trans Z8 (Keep.of_wr W9).1
  have K9 := K8.wr W9 (Or.inl (List.mem_of_getElem? (i := 0) rfl))
  have N9 := Fr.snoc X9 N8 g_oa
  refine own_Fin.go (fun t k => XS.aloadN X9.here hx rfl (hb hby d10_85) rfl rfl k) ?_
  refine own_gF X9 hx hZ hown (own_W hw 39 rfl) e9 F_oa_cells_9 rfl rfl (hb hby d10_86) ?_
  intro T10 X10 e10
  refine own_Fin.go (fun t k => XS.iload X10.here hx rfl (hb hby d10_89) rfl (XS.aloadN X10.here hx rfl (hb hby d10_91) rfl rfl k)) ?_
  refine own_gF X10 hx hZ hown (own_W hw 39 rfl) e10 F_oa_cells_9 rfl rfl (hb hby d10_92) ?_
  intro T11 X11 e11
  show own_Fin _ _ _ _ _ _ _ (T11.setTop (mkF m 95 #[rv oa, iv 2, jv vb, sS, rv ot, iv 6, iv 6, iv 6, uS, uS] [(.ref r8), (.int 6), (.ref r8)]))
  refine own_Fin.go (fun t k => XS.iload X11.here hx rfl (hb hby d10_95) rfl (XS.iconst X11.here hx rfl (hb hby d10_97) (XS.iadd X11.here hx rfl (hb hby d10_98) rfl k))) ?_
  show own_Fin _ _ _ _ _ _ _ (T11.setTop (mkF m 99 #[rv oa, iv 2, jv vb, sS, rv ot, iv 6, iv 6, iv 6, uS, uS] [(.int ((6 : Int32) + (2 : Int32))), (.ref r8), (.int 6), (.ref r8)]))
  rw [show ((6 : Int32) + (2 : Int32)) = (8 : Int32) from by decide +kernel]
  refine own_Fin.go (fun t k => XS.iload X11.here hx rfl (hb hby d10_99) rfl (XS.iload X11.here hx rfl (hb hby d10_101) rfl (XS.isub X11.here hx rfl (hb hby d10_103) rfl k))) ?_
  show own_Fin _ _ _ _ _ _ _ (T11.setTop (mkF m 104 #[rv oa, iv 2, jv vb, sS, rv ot, iv 6, iv 6, iv 6, uS, uS] [(.int ((6 : Int32) - (6 : Int32))), (.int 8), (.ref r8), (.int 6), (.ref r8)]))
  rw [show ((6 : Int32) - (6 : Int32)) = (0 : Int32) from by decide +kernel]
  obtain ⟨T12, h12, L12, X12, e12, N12, K12q, V12c, st12⟩ := cpA X11 hx hZ hown (own_W hw 95 rfl) (own_W hw 94 rfl) (own_W hw 92 rfl) (own_W hw 93 rfl) e11 V_r8_9 V_r8_9 (us := []) (Or.inl ⟨rfl, rfl⟩) (by decide) (by decide) (by decide) (by decide) (by decide) rfl (Nat.le_of_ble_eq_true rfl) N9 g_r8 (g := (mkF m 104 #[rv oa, iv 2, jv vb, sS, rv ot, iv 6, iv 6, iv 6, uS, uS] [(.int 0), (.int 8), (.ref r8), (.int 6), (.ref r8)])) rfl (by rw [hml]; rfl) rfl (hb hby d10_104) (by decide) (W := 0) (Nat.le_of_eq rfl) (by decide)
  refine own_Fin.go st12 ?_
  have V_r8_12 : Arv Z h12 r8 kb8 .long (8 : Int32) [(.long 3458764514894282753), (.long 0), (.long yp), (.long wp), (.long ya), (.long wa), (.long 0), (.long 0)] (.long 0) := V12c
  have E_oa_12 := E_oa_9.keep K12q
  have F_oa_cells_12 := F_oa_cells_9.keep K12q (ninS ne_oa_r8 nin0)
  have F_oa_sets_12 := F_oa_sets_9.keep K12q (ninS ne_oa_r8 nin0)
  have E_ot_12 := E_ot_9.keep K12q
  have F_ot_buckets_12 := F_ot_buckets_9.keep K12q (ninS ne_ot_r8 nin0)
  have Z12 := Nat.le_trans Z9 K12q.1
  have K12 := K9.trans K12q (allS (Or.inr sz_r8) all0)
  refine own_Fin.go (fun t k => XS.aloadN X12.here hx rfl (hb hby d10_107) rfl rfl k) ?_
  refine own_gF X12 hx hZ hown (own_W hw 39 rfl) e12 F_oa_cells_12 rfl rfl (hb hby d10_108) ?_
  intro T13 X13 e13
  refine own_Fin.go (fun t k => XS.iload X13.here hx rfl (hb hby d10_111) rfl (XS.lloadN X13.here hx rfl (hb hby d10_113) rfl k)) ?_
  obtain ⟨cl14, Ar14, q14, S14, N14l, H14, G14⟩ := (id V_r8_12)
  have hin14 : ¬ ((6 : Int32) < 0 ∨ cl14.slots.size ≤ ((6 : Int32)).toNatClampNeg) := inb_of S14 ⟨by decide, by decide⟩
  obtain ⟨T14, h14, X14, e14, W14, st14⟩ := stJ X13 hx hZ e13 Ar14 (j := (6 : Int32)) hin14 (g := (mkF m 114 #[rv oa, iv 2, jv vb, sS, rv ot, iv 6, iv 6, iv 6, uS, uS] [(.long vb), (.int 6), (.ref r8)])) rfl rfl (hb hby d10_114)
  refine own_Fin.go st14 ?_
  have V_r8_14 := Arv.set Ar14 q14 S14 N14l H14 G14 rfl W14 6 rfl (Nat.le_of_ble_eq_true rfl)
  replace V_r8_14 : Arv Z h14 r8 kb8 .long (8 : Int32) [(.long 3458764514894282753), (.long 0), (.long yp), (.long wp), (.long ya), (.long wa), (.long vb), (.long 0)] (.long 0) := V_r8_14
  have E_oa_14 := Exa.wr W14 E_oa_12
  have F_oa_cells_14 := Fld.other W14 F_oa_cells_12 (Or.inl ne_oa_r8)
  have F_oa_sets_14 := Fld.other W14 F_oa_sets_12 (Or.inl ne_oa_r8)
  have E_ot_14 := Exa.wr W14 E_ot_12
  have F_ot_buckets_14 := Fld.other W14 F_ot_buckets_12 (Or.inl ne_ot_r8)
  have Z14 := Nat.le_trans Z12 (Keep.of_wr W14).1
  have K14 := K12.wr W14 (Or.inr sz_r8)
  have N14 := Fr.snoc X14 N12 g_r8
  show own_Fin _ _ _ _ _ _ _ (T14.setTop (mkF m 115 #[rv oa, iv 2, jv vb, sS, rv ot, iv 6, iv 6, iv 6, uS, uS] []))
  refine own_Fin.go (fun t k => XS.aloadN X14.here hx rfl (hb hby d10_115) rfl rfl k) ?_
  refine own_gF X14 hx hZ hown (own_W hw 39 rfl) e14 F_oa_cells_14 rfl rfl (hb hby d10_116) ?_
  intro T15 X15 e15
  refine own_Fin.go (fun t k => XS.iload X15.here hx rfl (hb hby d10_119) rfl (XS.iconst X15.here hx rfl (hb hby d10_121) (XS.iadd X15.here hx rfl (hb hby d10_122) rfl k))) ?_
  show own_Fin _ _ _ _ _ _ _ (T15.setTop (mkF m 123 #[rv oa, iv 2, jv vb, sS, rv ot, iv 6, iv 6, iv 6, uS, uS] [(.int ((6 : Int32) + (1 : Int32))), (.ref r8)]))
  rw [show ((6 : Int32) + (1 : Int32)) = (7 : Int32) from by decide +kernel]
  refine own_Fin.go (fun t k => XS.lconst X15.here hx rfl (hb hby d10_123) k) ?_
  obtain ⟨cl16, Ar16, q16, S16, N16l, H16, G16⟩ := (id V_r8_14)
  have hin16 : ¬ ((7 : Int32) < 0 ∨ cl16.slots.size ≤ ((7 : Int32)).toNatClampNeg) := inb_of S16 ⟨by decide, by decide⟩
  obtain ⟨T16, h16, X16, e16, W16, st16⟩ := stJ X15 hx hZ e15 Ar16 (j := (7 : Int32)) hin16 (g := (mkF m 124 #[rv oa, iv 2, jv vb, sS, rv ot, iv 6, iv 6, iv 6, uS, uS] [(.long 0), (.int 7), (.ref r8)])) rfl rfl (hb hby d10_124)
  refine own_Fin.go st16 ?_
  have V_r8_16 := Arv.set Ar16 q16 S16 N16l H16 G16 rfl W16 7 rfl (Nat.le_of_ble_eq_true rfl)
  replace V_r8_16 : Arv Z h16 r8 kb8 .long (8 : Int32) [(.long 3458764514894282753), (.long 0), (.long yp), (.long wp), (.long ya), (.long wa), (.long vb), (.long 0)] (.long 0) := V_r8_16
  have E_oa_16 := Exa.wr W16 E_oa_14
  have F_oa_cells_16 := Fld.other W16 F_oa_cells_14 (Or.inl ne_oa_r8)
  have F_oa_sets_16 := Fld.other W16 F_oa_sets_14 (Or.inl ne_oa_r8)
  have E_ot_16 := Exa.wr W16 E_ot_14
  have F_ot_buckets_16 := Fld.other W16 F_ot_buckets_14 (Or.inl ne_ot_r8)
  have Z16 := Nat.le_trans Z14 (Keep.of_wr W16).1
  have K16 := K14.wr W16 (Or.inr sz_r8)
  have N16 := Fr.snoc X16 N14 g_r8
  refine own_Fin.go (fun t k => XS.aloadN X16.here hx rfl (hb hby d10_125) rfl rfl k) ?_
  refine own_gF X16 hx hZ hown (own_W hw 43 rfl) e16 F_oa_sets_16 rfl rfl (hb hby d10_126) ?_
  intro T17 X17 e17
  refine own_Fin.go (fun t k => XS.ifnullYes X17.here hx rfl (pc0 := 129) (pc' := 216) rfl (hb hby d10_129) rfl (by decide) (by decide) k) ?_
  show own_Fin _ _ _ _ _ _ _ (T17.setTop (mkF m 216 #[rv oa, iv 2, jv vb, sS, rv ot, iv 6, iv 6, iv 6, uS, uS] []))
  refine own_Fin.go (fun t k => XS.aloadN X17.here hx rfl (hb hby d10_216) rfl rfl (XS.iloadN X17.here hx rfl (hb hby d10_217) rfl (XS.aloadN X17.here hx rfl (hb hby d10_218) rfl rfl (XS.iloadN X17.here hx rfl (hb hby d10_219) rfl k)))) ?_
  refine own_pC X17 hx hZ hown (own_W hw 70 rfl) (own_W hw 71 rfl) (own_W hw 48 rfl) rfl (own_W hw 72 rfl) (own_W hw 73 rfl) (own_W hw 17 rfl) (by decide) (own_rm_len2 l Z a0 hw [] oa r8 kb8 (8 : Int32) (3458764514894282753 : Int64) (0 : Int64) ([(.long yp), (.long wp), (.long ya), (.long wa), (.long vb), (.long 0)]) h16 n0 Z16 F_oa_cells_16 V_r8_16 (by decide)) 2 (by decide) (by decide) e17 E_oa_16 rfl (by rw [hml]; rfl) [(.int 2)] (lenOf own_pd1 rfl) rfl (Nat.le_of_eq rfl) (hb hby d10_220) rfl (by decide) (by decide) ?_
  rintro T18 Lc18 _ X18 ⟨rfl, N18q, e18⟩
  have N18 := Fr.app N16 N18q
  show own_Fin _ _ _ _ _ _ _ (T18.setTop (mkF m 223 #[rv oa, iv 2, jv vb, sS, rv ot, iv 6, iv 6, iv 6, uS, uS] [(.int (own_lena (0 : Int64))), (.int 2), (.ref oa)]))
  rw [show (own_lena (0 : Int64)) = (0 : Int32) from by decide +kernel]
  refine own_Fin.go (fun t k => XS.iconst X18.here hx rfl (hb hby d10_223) (XS.iadd X18.here hx rfl (hb hby d10_224) rfl k)) ?_
  show own_Fin _ _ _ _ _ _ _ (T18.setTop (mkF m 225 #[rv oa, iv 2, jv vb, sS, rv ot, iv 6, iv 6, iv 6, uS, uS] [(.int ((0 : Int32) + (1 : Int32))), (.int 2), (.ref oa)]))
  rw [show ((0 : Int32) + (1 : Int32)) = (1 : Int32) from by decide +kernel]
  refine own_pC X18 hx hZ hown (own_W hw 96 rfl) (own_W hw 97 rfl) (own_W hw 48 rfl) rfl (own_W hw 98 rfl) (own_W hw 99 rfl) (own_W hw 17 rfl) (by decide) (own_rm_sl2 l Z a0 hw [] oa (1 : Int32) r8 kb8 (8 : Int32) (3458764514894282753 : Int64) (0 : Int64) ([(.long yp), (.long wp), (.long ya), (.long wa), (.long vb), (.long 0)]) h16 n0 Z16 F_oa_cells_16 V_r8_16 (by decide) g_r8 ne_oa_r8) 0 (by decide) (by decide) e18 E_oa_16 rfl (by rw [hml]; rfl) [(.int 2), (.int 1)] (lenOf own_pd6 rfl) rfl (Nat.le_of_eq rfl) (hb hby d10_225) rfl (by decide) (by decide) ?_
  rintro T19 Lc19 _ X19 ⟨rfl, N19q, K19q, c19_1⟩
  have N19 := Fr.app N18 N19q
  have E_oa_19 := E_oa_16.keep K19q
  have F_oa_cells_19 := F_oa_cells_16.keep K19q (ninS ne_oa_r8 nin0)
  have F_oa_sets_19 := F_oa_sets_16.keep K19q (ninS ne_oa_r8 nin0)
  have E_ot_19 := E_ot_16.keep K19q
  have F_ot_buckets_19 := F_ot_buckets_16.keep K19q (ninS ne_ot_r8 nin0)
  have Z19 := Nat.le_trans Z16 K19q.1
  have K19 := K16.trans K19q (allS (Or.inr sz_r8) all0)
  rw [show (own_sla (0 : Int64) (1 : Int32)) = (1 : Int64) from by decide +kernel] at c19_1
  refine own_Fin.go (fun t k => XS.aload X19.here hx rfl (hb hby d10_228) rfl rfl (XS.dup X19.here hx rfl (hb hby d10_230) rfl rfl k)) ?_
  refine own_gF X19 hx hZ hown (own_W hw 101 rfl) rfl F_ot_buckets_19 rfl rfl (hb hby d10_231) ?_
  intro T20 X20 e20
  refine own_Fin.go (fun t k => XS.lconst X20.here hx rfl (hb hby d10_234) (XS.ladd X20.here hx rfl (hb hby d10_235) rfl k)) ?_
  obtain ⟨T21, h21, X21, e21, W21, st21⟩ := putF X20 hx hZ hown (host := "") (Or.inl (own_W hw 101 rfl)) Via.refl e20 F_ot_buckets_19 E_ot_19 (Or.inl (own_W hw 102 rfl)) (own_W hw 7 rfl) (ty := .long) (by decide) rfl rfl (g := (mkF m 236 #[rv oa, iv 2, jv vb, sS, rv ot, iv 6, iv 6, iv 6, uS, uS] [(.long (ub + (1 : Int64))), (.ref ot)])) rfl rfl (hb hby d10_236)
  refine own_Fin.go st21 ?_
  have F_ot_buckets_21 := Fld.same W21 F_ot_buckets_19
  have E_oa_21 := Exa.wr W21 E_oa_19
  have F_oa_cells_21 := Fld.other W21 F_oa_cells_19 (Or.inl ne_oa_ot)
  have F_oa_sets_21 := Fld.other W21 F_oa_sets_19 (Or.inl ne_oa_ot)
  have E_ot_21 := Exa.wr W21 E_ot_19
  have V_r8_21 := Arv.other c19_1 W21 (Ne.symm ne_ot_r8)
  have Z21 := Nat.le_trans Z19 (Keep.of_wr W21).1
  have K21 := K19.wr W21 (Or.inl (List.mem_of_getElem? (i := 1) rfl))
  have N21 := Fr.snoc X21 N19 g_ot
  show own_Fin _ _ _ _ _ _ _ (T21.setTop (mkF m 239 #[rv oa, iv 2, jv vb, sS, rv ot, iv 6, iv 6, iv 6, uS, uS] []))
  refine own_Fin.go (fun t k => XS.iload X21.here hx rfl (hb hby d10_239) rfl k) ?_
  refine own_retI X21 hx Bd.returns (hb hby d10_241) Bd.notSynchronized (by decide) (by decide) ?_
  rw [e21]
  exact ⟨r8, kb8, rfl, N21, K21, E_oa_21, F_oa_cells_21, F_oa_sets_21, V_r8_21, E_ot_21, F_ot_buckets_21, sz_r8, ne_oa_r8, ne_ot_r8⟩
theorem own_ef_adE1 (m : MethodId) (oa : Addr) (vb : Int64) (va : Int64) (ot : Addr) : entryFrame m #[(.ref oa), (.int 2), (.long vb), (.long va), (.ref ot)] 8 = mkF m 0 #[rv oa, iv 2, jv vb, sS, jv va, sS, rv ot, uS] [] := by first | (simp [entryFrame, mkF, argsToLocals, Value.category]; done) | rfl
def own_Q_adE1 (Z : State) (oa : Addr) (vb : Int64) (va : Int64) (ot : Addr) (oz : Addr) (kz : ClassId) (yp : Int64) (wp : Int64) (ya : Int64) (wa : Int64) (ub : Int64) (h0 : Heap) (n0 : Nat) (v : Option Value) (h : Heap) (L : List Loc) : Prop := ∃ ob : Addr, ∃ kb : ClassId, v = none ∧ Fr n0 L ∧ Keep h0 h [oa, ot, oz] ∧ Exa Z h oa own_k0 ∧ Fld Z h oa own_k0 "cells" "[J" (.ref ob) ∧ Fld Z h oa own_k0 "sets" "[Ljava/lang/Object;" .null ∧ Arv Z h ob kb .long (8 : Int32) [(.long 3458764514894282753), (.long 1), (.long yp), (.long wp), (.long ya), (.long wa), (.long vb), (.long (own_sat (0 : Int64) va))] (.long 0) ∧ Exa Z h ot own_k2 ∧ Fld Z h ot own_k2 "buckets" "J" (.long (ub + (1 : Int64))) ∧ h0.size ≤ ob ∧ oa ≠ ob ∧ ot ≠ ob
set_option maxRecDepth 65536 in
set_option maxHeartbeats 40000000 in
theorem own_rm_adE1 (l : Launch) (Z : State) (a0 : Array Value) (hw : ∀ d ∈ tables_1, d.before a0 Z = true) (ws : List Jvm.Cond) (oa : Addr) (vb : Int64) (va : Int64) (ot : Addr) (oz : Addr) (kz : ClassId) (yp : Int64) (wp : Int64) (ya : Int64) (wa : Int64) (ub : Int64) (h0 : Heap) (n0 : Nat) (Z0 : n0 ≤ h0.size) (E_oa : Exa Z h0 oa own_k0) (F_oa_cells : Fld Z h0 oa own_k0 "cells" "[J" (.ref oz)) (F_oa_sets : Fld Z h0 oa own_k0 "sets" "[Ljava/lang/Object;" .null) (V_oz : Arv Z h0 oz kz .long (6 : Int32) [(.long 3458764514894282753), (.long 0), (.long yp), (.long wp), (.long ya), (.long wa)] (.long 0)) (E_ot : Exa Z h0 ot own_k2) (F_ot_buckets : Fld Z h0 ot own_k2 "buckets" "J" (.long ub)) (g_oa : n0 ≤ oa) (g_oz : n0 ≤ oz) (g_ot : n0 ≤ ot) (ne_oa_ot : oa ≠ ot) (ne_oa_oz : oa ≠ oz) (ne_ot_oz : ot ≠ oz) :
    MetFree l own_y17 (head1 (Jvm.Cond.code own_y17 prog_4_method_4_code 8 none :: ws) ({ frames := 5, cells := 1, slots := 8, locals := 76 } : Room)) (fun a U => a = #[(.ref oa), (.int 2), (.long vb), (.long va), (.ref ot)] ∧ Z.Warmed39 U.vm ∧ U.heap = h0) (fun _ _ _ _ _ => True) (fun _ U o U' => ∃ v L, o = .returned v ∧ own_Q_adE1 Z oa vb va ot oz kz yp wp ya wa ub h0 n0 v U'.heap L ∧ FrameEnd U o U' L ({ frames := 5, cells := 1, slots := 8, locals := 76 } : Room).cells ({ frames := 5, cells := 1, slots := 8, locals := 76 } : Room).slots) := by
  refine MetFree.of_bodySF (plainFor_of_name own_pn0) hisR ?_
  intro p e s m args below meth c s₁ Bd hml0 hP hK
  obtain ⟨rfl, hZ, hh⟩ := hP
  have hx := Bd.exec
  have hby := Bd.bytes
  have hml : c.maxLocals = 8 := hml0
  have hown : s.vm.findClass own_k0 = some m.cls := findClass_of_methodNamed Bd.named
  have hnm := (name_of_methodNamed Bd.named Bd.method).1
  have X0 : Stand p l e ({ frames := 5, cells := 1, slots := 8, locals := 76 } : Room) s m #[(.ref oa), (.int 2), (.long vb), (.long va), (.ref ot)] below meth c s₁ [] 0 0 := Stand.of_body Bd
  have e0 : s₁.heap = h0 := by rw [← hh, Bd.state]; rfl
  have N0 := Fr.nil n0
  have K0 := Keep.refl h0 [oa, ot, oz]
  show own_Fin p e below s (own_Q_adE1 Z oa vb va ot oz kz yp wp ya wa ub h0 n0) ({ frames := 5, cells := 1, slots := 8, locals := 76 } : Room).cells ({ frames := 5, cells := 1, slots := 8, locals := 76 } : Room).slots (s₁.setTop (entryFrame m #[(.ref oa), (.int 2), (.long vb), (.long va), (.ref ot)] 8))
  refine own_Fin.go (fun t k => castTop (own_ef_adE1 m oa vb va ot) k) ?_
  refine own_Fin.go (fun t k => XS.aloadN X0.here hx rfl (hb hby d1_0) rfl rfl (XS.iloadN X0.here hx rfl (hb hby d1_1) rfl (XS.lloadN X0.here hx rfl (hb hby d1_2) rfl (XS.aload X0.here hx rfl (hb hby d1_3) rfl rfl k)))) ?_
  show own_Fin _ _ _ _ _ _ _ (s₁.setTop (mkF m 5 #[rv oa, iv 2, jv vb, sS, jv va, sS, rv ot, uS] [(.ref ot), (.long vb), (.int 2), (.ref oa)]))
  refine own_pC X0 hx hZ hown (own_W hw 50 rfl) (own_W hw 51 rfl) (own_W hw 48 rfl) rfl (own_W hw 52 rfl) (own_W hw 53 rfl) (own_W hw 17 rfl) (by decide) (own_rm_soE1 l Z a0 hw [] oa vb ot oz kz yp wp ya wa ub h0 n0 Z0 E_oa F_oa_cells F_oa_sets V_oz E_ot F_ot_buckets g_oa g_oz g_ot ne_oa_ot ne_oa_oz ne_ot_oz) 0 (by decide) (by decide) e0 E_oa rfl (by rw [hml]; rfl) [(.int 2), (.long vb), (.ref ot)] (lenOf own_pd7 rfl) rfl (Nat.le_of_eq rfl) (hb hby d1_5) rfl (by decide) (by decide) ?_
  rintro T1 Lc1 _ X1 ⟨ob1, kb1, rfl, N1q, K1q, c1_1, c1_2, c1_3, c1_4, c1_5, c1_6, c1_7, c1_8, c1_9⟩
  have N1 := Fr.app N0 N1q
  have Z1 := Nat.le_trans Z0 K1q.1
  have K1 := K0.trans K1q (allS (Or.inl (List.mem_of_getElem? (i := 0) rfl)) (allS (Or.inl (List.mem_of_getElem? (i := 1) rfl)) (allS (Or.inl (List.mem_of_getElem? (i := 2) rfl)) all0)))
  have ne_oa_ob1 : oa ≠ ob1 := Nat.ne_of_lt (Nat.lt_of_lt_of_le F_oa_sets.lt c1_7)
  have ne_oz_ob1 : oz ≠ ob1 := Nat.ne_of_lt (Nat.lt_of_lt_of_le V_oz.lt c1_7)
  have ne_ot_ob1 : ot ≠ ob1 := Nat.ne_of_lt (Nat.lt_of_lt_of_le F_ot_buckets.lt c1_7)
  have g_ob1 : n0 ≤ ob1 := Nat.le_trans Z0 c1_7
  have sz_ob1 : h0.size ≤ ob1 := Nat.le_trans K0.1 c1_7
  refine own_Fin.go (fun t k => XS.istore X1.here hx rfl (hb hby d1_8) rfl (l' := #[rv oa, iv 2, jv vb, sS, jv va, sS, rv ot, iv 6]) rfl (XS.aloadN X1.here hx rfl (hb hby d1_10) rfl rfl k)) ?_
  refine own_gF X1 hx hZ hown (own_W hw 39 rfl) rfl c1_2 rfl rfl (hb hby d1_11) ?_
  intro T2 X2 e2
  refine own_Fin.go (fun t k => XS.iload X2.here hx rfl (hb hby d1_14) rfl k) ?_
  show own_Fin _ _ _ _ _ _ _ (T2.setTop (mkF m 16 #[rv oa, iv 2, jv vb, sS, jv va, sS, rv ot, iv 6] [(.int 6), (.ref ob1)]))
  refine own_Fin.go (fun t k => XS.iconst X2.here hx rfl (hb hby d1_16) (XS.iadd X2.here hx rfl (hb hby d1_17) rfl k)) ?_
  show own_Fin _ _ _ _ _ _ _ (T2.setTop (mkF m 18 #[rv oa, iv 2, jv vb, sS, jv va, sS, rv ot, iv 6] [(.int ((6 : Int32) + (1 : Int32))), (.ref ob1)]))
  rw [show ((6 : Int32) + (1 : Int32)) = (7 : Int32) from by decide +kernel]
  refine own_Fin.go (fun t k => XS.aloadN X2.here hx rfl (hb hby d1_18) rfl rfl k) ?_
  refine own_gF X2 hx hZ hown (own_W hw 39 rfl) e2 c1_2 rfl rfl (hb hby d1_19) ?_
  intro T3 X3 e3
  refine own_Fin.go (fun t k => XS.iload X3.here hx rfl (hb hby d1_22) rfl (XS.iconst X3.here hx rfl (hb hby d1_24) (XS.iadd X3.here hx rfl (hb hby d1_25) rfl k))) ?_
  show own_Fin _ _ _ _ _ _ _ (T3.setTop (mkF m 26 #[rv oa, iv 2, jv vb, sS, jv va, sS, rv ot, iv 6] [(.int ((6 : Int32) + (1 : Int32))), (.ref ob1), (.int 7), (.ref ob1)]))
  rw [show ((6 : Int32) + (1 : Int32)) = (7 : Int32) from by decide +kernel]
  refine own_lal X3 hx hZ e3 c1_4 ⟨by decide, by decide⟩ (v := (0 : Int64)) rfl rfl rfl (hb hby d1_26) ?_
  refine own_Fin.go (fun t k => XS.lload X3.here hx rfl (hb hby d1_27) rfl k) ?_
  refine own_sC X3 hx hZ hown (own_W hw 103 rfl) (own_W hw 104 rfl) (own_W hw 17 rfl) (own_W hw 105 rfl) (by decide) (own_rm_sat l Z a0 hw [] (0 : Int64) va  T1.heap n0 Z1 ) 2 (by decide) (by decide) e3 rfl (by rw [hml]; rfl) [(.long 0), (.long va)] [(.int 7), (.ref ob1)] (lenOf own_pd8 rfl) rfl (Nat.le_of_eq rfl) (hb hby d1_29) rfl (by decide) (by decide) ?_
  rintro T5 Lc5 _ X5 ⟨rfl, N5q, e5⟩
  have N5 := Fr.app N1 N5q
  obtain ⟨cl6, Ar6, q6, S6, N6l, H6, G6⟩ := (id c1_4)
  have hin6 : ¬ ((7 : Int32) < 0 ∨ cl6.slots.size ≤ ((7 : Int32)).toNatClampNeg) := inb_of S6 ⟨by decide, by decide⟩
  obtain ⟨T6, h6, X6, e6, W6, st6⟩ := stJ X5 hx hZ e5 Ar6 (j := (7 : Int32)) hin6 (g := (mkF m 32 #[rv oa, iv 2, jv vb, sS, jv va, sS, rv ot, iv 6] [(.long (own_sat (0 : Int64) va)), (.int 7), (.ref ob1)])) rfl rfl (hb hby d1_32)
  refine own_Fin.go st6 ?_
  have V_ob1_6 := Arv.set Ar6 q6 S6 N6l H6 G6 rfl W6 7 rfl (Nat.le_of_ble_eq_true rfl)
  replace V_ob1_6 : Arv Z h6 ob1 kb1 .long (8 : Int32) [(.long 3458764514894282753), (.long 1), (.long yp), (.long wp), (.long ya), (.long wa), (.long vb), (.long (own_sat (0 : Int64) va))] (.long 0) := V_ob1_6
  have E_oa_6 := Exa.wr W6 c1_1
  have F_oa_cells_6 := Fld.other W6 c1_2 (Or.inl c1_8)
  have F_oa_sets_6 := Fld.other W6 c1_3 (Or.inl c1_8)
  have E_ot_6 := Exa.wr W6 c1_5
  have F_ot_buckets_6 := Fld.other W6 c1_6 (Or.inl c1_9)
  have Z6 := Nat.le_trans Z1 (Keep.of_wr W6).1
  have K6 := K1.wr W6 (Or.inr sz_ob1)
  have N6 := Fr.snoc X6 N5 g_ob1
  show own_Fin _ _ _ _ _ _ _ (T6.setTop (mkF m 33 #[rv oa, iv 2, jv vb, sS, jv va, sS, rv ot, iv 6] []))
  refine own_ret0 X6 hx Bd.returns (hb hby d1_33) Bd.notSynchronized (by decide) (by decide) ?_
  rw [e6]
  exact ⟨ob1, kb1, rfl, N6, K6, E_oa_6, F_oa_cells_6, F_oa_sets_6, V_ob1_6, E_ot_6, F_ot_buckets_6, sz_ob1, c1_8, c1_9⟩
theorem own_ef_soE2 (m : MethodId) (oa : Addr) (vb : Int64) (ot : Addr) : entryFrame m #[(.ref oa), (.int 2), (.long vb), (.ref ot)] 10 = mkF m 0 #[rv oa, iv 2, jv vb, sS, rv ot, uS, uS, uS, uS, uS] [] := by first | (simp [entryFrame, mkF, argsToLocals, Value.category]; done) | rfl
def own_Q_soE2 (Z : State) (oa : Addr) (vb : Int64) (ot : Addr) (oz : Addr) (kz : ClassId) (yp : Int64) (wp : Int64) (ya : Int64) (wa : Int64) (yb : Int64) (wb : Int64) (ub : Int64) (h0 : Heap) (n0 : Nat) (v : Option Value) (h : Heap) (L : List Loc) : Prop := ∃ ob : Addr, ∃ kb : ClassId, v = some (.int 8) ∧ Fr n0 L ∧ Keep h0 h [oa, ot, oz] ∧ Exa Z h oa own_k0 ∧ Fld Z h oa own_k0 "cells" "[J" (.ref ob) ∧ Fld Z h oa own_k0 "sets" "[Ljava/lang/Object;" .null ∧ Arv Z h ob kb .long (10 : Int32) [(.long 3458764515968024577), (.long 1), (.long yp), (.long wp), (.long ya), (.long wa), (.long yb), (.long wb), (.long vb), (.long 0)] (.long 0) ∧ Exa Z h ot own_k2 ∧ Fld Z h ot own_k2 "buckets" "J" (.long (ub + (1 : Int64))) ∧ h0.size ≤ ob ∧ oa ≠ ob ∧ ot ≠ ob
set_option maxRecDepth 65536 in
set_option maxHeartbeats 40000000 in
theorem own_rm_soE2 (l : Launch) (Z : State) (a0 : Array Value) (hw : ∀ d ∈ tables_1, d.before a0 Z = true) (ws : List Jvm.Cond) (oa : Addr) (vb : Int64) (ot : Addr) (oz : Addr) (kz : ClassId) (yp : Int64) (wp : Int64) (ya : Int64) (wa : Int64) (yb : Int64) (wb : Int64) (ub : Int64) (h0 : Heap) (n0 : Nat) (Z0 : n0 ≤ h0.size) (E_oa : Exa Z h0 oa own_k0) (F_oa_cells : Fld Z h0 oa own_k0 "cells" "[J" (.ref oz)) (F_oa_sets : Fld Z h0 oa own_k0 "sets" "[Ljava/lang/Object;" .null) (V_oz : Arv Z h0 oz kz .long (8 : Int32) [(.long 3458764515968024577), (.long 0), (.long yp), (.long wp), (.long ya), (.long wa), (.long yb), (.long wb)] (.long 0)) (E_ot : Exa Z h0 ot own_k2) (F_ot_buckets : Fld Z h0 ot own_k2 "buckets" "J" (.long ub)) (g_oa : n0 ≤ oa) (g_oz : n0 ≤ oz) (g_ot : n0 ≤ ot) (ne_oa_ot : oa ≠ ot) (ne_oa_oz : oa ≠ oz) (ne_ot_oz : ot ≠ oz) :
    MetFree l own_y16 (head1 (Jvm.Cond.code own_y16 prog_4_method_10_code 10 (some .int) :: ws) ({ frames := 4, cells := 1, slots := 10, locals := 55 } : Room)) (fun a U => a = #[(.ref oa), (.int 2), (.long vb), (.ref ot)] ∧ Z.Warmed39 U.vm ∧ U.heap = h0) (fun _ _ _ _ _ => True) (fun _ U o U' => ∃ v L, o = .returned v ∧ own_Q_soE2 Z oa vb ot oz kz yp wp ya wa yb wb ub h0 n0 v U'.heap L ∧ FrameEnd U o U' L ({ frames := 4, cells := 1, slots := 10, locals := 55 } : Room).cells ({ frames := 4, cells := 1, slots := 10, locals := 55 } : Room).slots) := by
  refine MetFree.of_bodySF (plainFor_of_name own_pn0) hisR ?_
  intro p e s m args below meth c s₁ Bd hml0 hP hK
  obtain ⟨rfl, hZ, hh⟩ := hP
  have hx := Bd.exec
  have hby := Bd.bytes
  have hml : c.maxLocals = 10 := hml0
  have hown : s.vm.findClass own_k0 = some m.cls := findClass_of_methodNamed Bd.named
  have hnm := (name_of_methodNamed Bd.named Bd.method).1
  have X0 : Stand p l e ({ frames := 4, cells := 1, slots := 10, locals := 55 } : Room) s m #[(.ref oa), (.int 2), (.long vb), (.ref ot)] below meth c s₁ [] 0 0 := Stand.of_body Bd
  have e0 : s₁.heap = h0 := by rw [← hh, Bd.state]; rfl
  have N0 := Fr.nil n0
  have K0 := Keep.refl h0 [oa, ot, oz]
  show own_Fin p e below s (own_Q_soE2 Z oa vb ot oz kz yp wp ya wa yb wb ub h0 n0) ({ frames := 4, cells := 1, slots := 10, locals := 55 } : Room).cells ({ frames := 4, cells := 1, slots := 10, locals := 55 } : Room).slots (s₁.setTop (entryFrame m #[(.ref oa), (.int 2), (.long vb), (.ref ot)] 10))
  refine own_Fin.go (fun t k => castTop (own_ef_soE2 m oa vb ot) k) ?_
  refine own_Fin.go (fun t k => XS.aloadN X0.here hx rfl (hb hby d10_0) rfl rfl (XS.iloadN X0.here hx rfl (hb hby d10_1) rfl (XS.lloadN X0.here hx rfl (hb hby d10_2) rfl k))) ?_
  refine own_pC X0 hx hZ hown (own_W hw 54 rfl) (own_W hw 55 rfl) (own_W hw 48 rfl) rfl (own_W hw 56 rfl) (own_W hw 57 rfl) (own_W hw 17 rfl) (by decide) (own_rm_iz2 l Z a0 hw [] oa vb oz kz (8 : Int32) (3458764515968024577 : Int64) (0 : Int64) ([(.long yp), (.long wp), (.long ya), (.long wa), (.long yb), (.long wb)]) h0 n0 Z0 E_oa F_oa_cells V_oz (by decide) (by decide)) 0 (by decide) (by decide) e0 E_oa rfl (by rw [hml]; rfl) [(.int 2), (.long vb)] (lenOf own_pd4 rfl) rfl (Nat.le_of_eq rfl) (hb hby d10_3) rfl (by decide) (by decide) ?_
  rintro T1 Lc1 _ X1 ⟨rfl, N1q, e1⟩
  have N1 := Fr.app N0 N1q
  show own_Fin _ _ _ _ _ _ _ (T1.setTop (mkF m 6 #[rv oa, iv 2, jv vb, sS, rv ot, uS, uS, uS, uS, uS] [(.int (own_ixc (3458764515968024577 : Int64)))]))
  rw [show (own_ixc (3458764515968024577 : Int64)) = (8 : Int32) from by decide +kernel]
  refine own_Fin.go (fun t k => XS.istore X1.here hx rfl (hb hby d10_6) rfl (l' := #[rv oa, iv 2, jv vb, sS, rv ot, iv 8, uS, uS, uS, uS]) rfl (XS.aloadN X1.here hx rfl (hb hby d10_8) rfl rfl (XS.iloadN X1.here hx rfl (hb hby d10_9) rfl k))) ?_
  refine own_pC X1 hx hZ hown (own_W hw 58 rfl) (own_W hw 59 rfl) (own_W hw 48 rfl) rfl (own_W hw 60 rfl) (own_W hw 61 rfl) (own_W hw 17 rfl) (by decide) (own_rm_st2 l Z a0 hw [] oa oz kz (8 : Int32) (3458764515968024577 : Int64) (0 : Int64) ([(.long yp), (.long wp), (.long ya), (.long wa), (.long yb), (.long wb)]) h0 n0 Z0 E_oa F_oa_cells V_oz (by decide)) 0 (by decide) (by decide) e1 E_oa rfl (by rw [hml]; rfl) [(.int 2)] (lenOf own_pd1 rfl) rfl (Nat.le_of_eq rfl) (hb hby d10_10) rfl (by decide) (by decide) ?_
  rintro T2 Lc2 _ X2 ⟨rfl, N2q, e2⟩
  have N2 := Fr.app N1 N2q
  show own_Fin _ _ _ _ _ _ _ (T2.setTop (mkF m 13 #[rv oa, iv 2, jv vb, sS, rv ot, iv 8, uS, uS, uS, uS] [(.int (own_stc (3458764515968024577 : Int64)))]))
  rw [show (own_stc (3458764515968024577 : Int64)) = (8 : Int32) from by decide +kernel]
  refine own_Fin.go (fun t k => XS.iconst X2.here hx rfl (hb hby d10_13) (XS.aloadN X2.here hx rfl (hb hby d10_14) rfl rfl (XS.iloadN X2.here hx rfl (hb hby d10_15) rfl k))) ?_
  refine own_pC X2 hx hZ hown (own_W hw 70 rfl) (own_W hw 71 rfl) (own_W hw 48 rfl) rfl (own_W hw 72 rfl) (own_W hw 73 rfl) (own_W hw 17 rfl) (by decide) (own_rm_len2 l Z a0 hw [] oa oz kz (8 : Int32) (3458764515968024577 : Int64) (0 : Int64) ([(.long yp), (.long wp), (.long ya), (.long wa), (.long yb), (.long wb)]) h0 n0 Z0 F_oa_cells V_oz (by decide)) 2 (by decide) (by decide) e2 E_oa rfl (by rw [hml]; rfl) [(.int 2)] (lenOf own_pd1 rfl) rfl (Nat.le_of_eq rfl) (hb hby d10_16) rfl (by decide) (by decide) ?_
  rintro T3 Lc3 _ X3 ⟨rfl, N3q, e3⟩
  have N3 := Fr.app N2 N3q
  show own_Fin _ _ _ _ _ _ _ (T3.setTop (mkF m 19 #[rv oa, iv 2, jv vb, sS, rv ot, iv 8, uS, uS, uS, uS] [(.int (own_lena (0 : Int64))), (.int 2), (.int 8)]))
  rw [show (own_lena (0 : Int64)) = (0 : Int32) from by decide +kernel]
  refine own_Fin.go (fun t k => XS.imul X3.here hx rfl (hb hby d10_19) rfl k) ?_
  show own_Fin _ _ _ _ _ _ _ (T3.setTop (mkF m 20 #[rv oa, iv 2, jv vb, sS, rv ot, iv 8, uS, uS, uS, uS] [(.int ((2 : Int32) * (0 : Int32))), (.int 8)]))
  rw [show ((2 : Int32) * (0 : Int32)) = (0 : Int32) from by decide +kernel]
  refine own_Fin.go (fun t k => XS.iadd X3.here hx rfl (hb hby d10_20) rfl k) ?_
  show own_Fin _ _ _ _ _ _ _ (T3.setTop (mkF m 21 #[rv oa, iv 2, jv vb, sS, rv ot, iv 8, uS, uS, uS, uS] [(.int ((8 : Int32) + (0 : Int32)))]))
  rw [show ((8 : Int32) + (0 : Int32)) = (8 : Int32) from by decide +kernel]
  refine own_Fin.go (fun t k => XS.istore X3.here hx rfl (hb hby d10_21) rfl (l' := #[rv oa, iv 2, jv vb, sS, rv ot, iv 8, iv 8, uS, uS, uS]) rfl (XS.iload X3.here hx rfl (hb hby d10_23) rfl (XS.iload X3.here hx rfl (hb hby d10_25) rfl (XS.icmpYes X3.here hx rfl (pc0 := 27) (pc' := 45) rfl (hb hby d10_27) rfl (by decide) (by decide) (by decide) k)))) ?_
  refine own_Fin.go (fun t k => XS.aloadN X3.here hx rfl (hb hby d10_45) rfl rfl k) ?_
  refine own_pC X3 hx hZ hown (own_W hw 79 rfl) (own_W hw 80 rfl) (own_W hw 48 rfl) rfl (own_W hw 81 rfl) (own_W hw 82 rfl) (own_W hw 17 rfl) (by decide) (own_rm_used l Z a0 hw [] oa oz kz (8 : Int32) (3458764515968024577 : Int64) (0 : Int64) ([(.long yp), (.long wp), (.long ya), (.long wa), (.long yb), (.long wb)]) h0 n0 Z0 E_oa F_oa_cells V_oz (by decide) (by decide)) 0 (by decide) (by decide) e3 E_oa rfl (by rw [hml]; rfl) [] (lenOf own_pd0 rfl) rfl (Nat.le_of_eq rfl) (hb hby d10_46) rfl (by decide) (by decide) ?_
  rintro T4 Lc4 _ X4 ⟨rfl, N4q, e4⟩
  have N4 := Fr.app N3 N4q
  show own_Fin _ _ _ _ _ _ _ (T4.setTop (mkF m 49 #[rv oa, iv 2, jv vb, sS, rv ot, iv 8, iv 8, uS, uS, uS] [(.int (own_std (3458764515968024577 : Int64) (0 : Int64)))]))
  rw [show (own_std (3458764515968024577 : Int64) (0 : Int64)) = (8 : Int32) from by decide +kernel]
  refine own_Fin.go (fun t k => XS.istore X4.here hx rfl (hb hby d10_49) rfl (l' := #[rv oa, iv 2, jv vb, sS, rv ot, iv 8, iv 8, iv 8, uS, uS]) rfl (XS.iload X4.here hx rfl (hb hby d10_51) rfl (XS.iconst X4.here hx rfl (hb hby d10_53) (XS.iadd X4.here hx rfl (hb hby d10_54) rfl k)))) ?_
  show own_Fin _ _ _ _ _ _ _ (T4.setTop (mkF m 55 #[rv oa, iv 2, jv vb, sS, rv ot, iv 8, iv 8, iv 8, uS, uS] [(.int ((8 : Int32) + (2 : Int32)))]))
  rw [show ((8 : Int32) + (2 : Int32)) = (10 : Int32) from by decide +kernel]
  refine own_Fin.go (fun t k => XS.aloadN X4.here hx rfl (hb hby d10_55) rfl rfl k) ?_
  refine own_gF X4 hx hZ hown (own_W hw 39 rfl) e4 F_oa_cells rfl rfl (hb hby d10_56) ?_
  intro T5 X5 e5
  obtain ⟨cl6, Ar6, -, S6, N6l, -, -⟩ := (id V_oz)
  refine own_Fin.go (fun t k => X5.arraylength hx (by rw [e5]; exact Ar6.1) (State.isArrayOf_alike hZ.alike Ar6.2.1) (g := (mkF m 59 #[rv oa, iv 2, jv vb, sS, rv ot, iv 8, iv 8, iv 8, uS, uS] [(.ref oz), (.int 10)])) rfl rfl (hb hby d10_59) t k) ?_
  rw [len_of S6 N6l]
  refine own_Fin.go (fun t k => XS.icmpNo X5.here hx rfl (hb hby d10_60) rfl (by decide) (XS.aloadN X5.here hx rfl (hb hby d10_63) rfl rfl (XS.aloadN X5.here hx rfl (hb hby d10_64) rfl rfl k))) ?_
  refine own_gF X5 hx hZ hown (own_W hw 39 rfl) e5 F_oa_cells rfl rfl (hb hby d10_65) ?_
  intro T7 X7 e7
  show own_Fin _ _ _ _ _ _ _ (T7.setTop (mkF m 68 #[rv oa, iv 2, jv vb, sS, rv ot, iv 8, iv 8, iv 8, uS, uS] [(.ref oz), (.ref oa)]))
  refine own_Fin.go (fun t k => XS.iload X7.here hx rfl (hb hby d10_68) rfl (XS.iconst X7.here hx rfl (hb hby d10_70) (XS.iadd X7.here hx rfl (hb hby d10_71) rfl k))) ?_
  show own_Fin _ _ _ _ _ _ _ (T7.setTop (mkF m 72 #[rv oa, iv 2, jv vb, sS, rv ot, iv 8, iv 8, iv 8, uS, uS] [(.int ((8 : Int32) + (2 : Int32))), (.ref oz), (.ref oa)]))
  rw [show ((8 : Int32) + (2 : Int32)) = (10 : Int32) from by decide +kernel]
  refine own_Fin.go (fun t k => XS.iload X7.here hx rfl (hb hby d10_72) rfl (XS.iconst X7.here hx rfl (hb hby d10_74) (XS.iushr X7.here hx rfl (hb hby d10_75) rfl k))) ?_
  show own_Fin _ _ _ _ _ _ _ (T7.setTop (mkF m 76 #[rv oa, iv 2, jv vb, sS, rv ot, iv 8, iv 8, iv 8, uS, uS] [(.int (((8 : Int32).toUInt32 >>> ((4 : Int32) &&& 31).toUInt32).toInt32)), (.int 10), (.ref oz), (.ref oa)]))
  rw [show (((8 : Int32).toUInt32 >>> ((4 : Int32) &&& 31).toUInt32).toInt32) = (0 : Int32) from by decide +kernel]
  refine own_Fin.go (fun t k => XS.iconst X7.here hx rfl (hb hby d10_76) (XS.ishl X7.here hx rfl (hb hby d10_77) rfl k)) ?_
  show own_Fin _ _ _ _ _ _ _ (T7.setTop (mkF m 78 #[rv oa, iv 2, jv vb, sS, rv ot, iv 8, iv 8, iv 8, uS, uS] [(.int ((0 : Int32) <<< ((1 : Int32) &&& 31))), (.int 10), (.ref oz), (.ref oa)]))
  rw [show ((0 : Int32) <<< ((1 : Int32) &&& 31)) = (0 : Int32) from by decide +kernel]
  refine own_Fin.go (fun t k => XS.iadd X7.here hx rfl (hb hby d10_78) rfl k) ?_
  show own_Fin _ _ _ _ _ _ _ (T7.setTop (mkF m 79 #[rv oa, iv 2, jv vb, sS, rv ot, iv 8, iv 8, iv 8, uS, uS] [(.int ((10 : Int32) + (0 : Int32))), (.ref oz), (.ref oa)]))
  rw [show ((10 : Int32) + (0 : Int32)) = (10 : Int32) from by decide +kernel]
  refine own_sC X7 hx hZ hown (own_W hw 83 rfl) (own_W hw 84 rfl) (own_W hw 85 rfl) (own_W hw 86 rfl) (by decide) (own_rm_cpy8 l Z a0 hw [] oz kz (3458764515968024577 : Int64) (0 : Int64) yp wp ya wa yb wb h0 n0 Z0 V_oz) 1 (by decide) (by decide) e7 rfl (by rw [hml]; rfl) [(.ref oz), (.int 10)] [(.ref oa)] (lenOf own_pd5 rfl) rfl (Nat.le_of_eq rfl) (hb hby d10_79) rfl (by decide) (by decide) ?_
  rintro T8 Lc8 _ X8 ⟨r8, kb8, rfl, N8q, K8q, c8_1, c8_2⟩
  have N8 := Fr.app N4 N8q
  have E_oa_8 := E_oa.keep K8q
  have F_oa_cells_8 := F_oa_cells.keep K8q nin0
  have F_oa_sets_8 := F_oa_sets.keep K8q nin0
  have V_oz_8 := V_oz.keep K8q nin0
  have E_ot_8 := E_ot.keep K8q
  have F_ot_buckets_8 := F_ot_buckets.keep K8q nin0
  have Z8 := Nat.le_trans Z0 K8q.1
  have K8 := K0.trans K8q all0
  have ne_oa_r8 : oa ≠ r8 := Nat.ne_of_lt (Nat.lt_of_lt_of_le F_oa_sets.lt c8_2)
  have ne_oz_r8 : oz ≠ r8 := Nat.ne_of_lt (Nat.lt_of_lt_of_le V_oz.lt c8_2)
  have ne_ot_r8 : ot ≠ r8 := Nat.ne_of_lt (Nat.lt_of_lt_of_le F_ot_buckets.lt c8_2)
  have g_r8 : n0 ≤ r8 := Nat.le_trans Z0 c8_2
  have sz_r8 : h0.size ≤ r8 := Nat.le_trans K0.1 c8_2
  obtain ⟨T9, h9, X9, e9, W9, st9⟩ := putF X8 hx hZ hown (host := "") (Or.inl (own_W hw 39 rfl)) Via.refl rfl F_oa_cells_8 E_oa_8 (Or.inl (own_W hw 40 rfl)) (own_W hw 16 rfl) (ty := (.array .long)) (by decide) rfl rfl (g := (mkF m 82 #[rv oa, iv 2, jv vb, sS, rv ot, iv 8, iv 8, iv 8, uS, uS] [(.ref r8), (.ref oa)])) rfl rfl (hb hby d10_82)
  refine own_Fin.go st9 ?_
  have F_oa_cells_9 := Fld.same W9 F_oa_cells_8
  have E_oa_9 := Exa.wr W9 E_oa_8
  have F_oa_sets_9 := Fld.other W9 F_oa_sets_8 (Or.inr (slot_ne (Or.inl (own_W hw 44 rfl)) (Or.inl (own_W hw 40 rfl)) (by decide) (t := (.array (.object "java/lang/Object"))) (t' := (.array .long)) (by decide) (by decide)))
  have V_oz_9 := Arv.other V_oz_8 W9 (Ne.symm ne_oa_oz)
  have E_ot_9 := Exa.wr W9 E_ot_8
  have F_ot_buckets_9 := Fld.other W9 F_ot_buckets_8 (Or.inl (Ne.symm ne_oa_ot))
  have V_r8_9 := Arv.other c8_1 W9 (Ne.symm ne_oa_r8)
  have Z9 := Nat.le_trans Z8 (Keep.of_wr W9).1
  have K9 := K8.wr W9 (Or.inl (List.mem_of_getElem? (i := 0) rfl))
  have N9 := Fr.snoc X9 N8 g_oa
  refine own_Fin.go (fun t k => XS.aloadN X9.here hx rfl (hb hby d10_85) rfl rfl k) ?_
  refine own_gF X9 hx hZ hown (own_W hw 39 rfl) e9 F_oa_cells_9 rfl rfl (hb hby d10_86) ?_
  intro T10 X10 e10
  refine own_Fin.go (fun t k => XS.iload X10.here hx rfl (hb hby d10_89) rfl (XS.aloadN X10.here hx rfl (hb hby d10_91) rfl rfl k)) ?_
  refine own_gF X10 hx hZ hown (own_W hw 39 rfl) e10 F_oa_cells_9 rfl rfl (hb hby d10_92) ?_
  intro T11 X11 e11
  show own_Fin _ _ _ _ _ _ _ (T11.setTop (mkF m 95 #[rv oa, iv 2, jv vb, sS, rv ot, iv 8, iv 8, iv 8, uS, uS] [(.ref r8), (.int 8), (.ref r8)]))
  refine own_Fin.go (fun t k => XS.iload X11.here hx rfl (hb hby d10_95) rfl (XS.iconst X11.here hx rfl (hb hby d10_97) (XS.iadd X11.here hx rfl (hb hby d10_98) rfl k))) ?_
  show own_Fin _ _ _ _ _ _ _ (T11.setTop (mkF m 99 #[rv oa, iv 2, jv vb, sS, rv ot, iv 8, iv 8, iv 8, uS, uS] [(.int ((8 : Int32) + (2 : Int32))), (.ref r8), (.int 8), (.ref r8)]))
  rw [show ((8 : Int32) + (2 : Int32)) = (10 : Int32) from by decide +kernel]
  refine own_Fin.go (fun t k => XS.iload X11.here hx rfl (hb hby d10_99) rfl (XS.iload X11.here hx rfl (hb hby d10_101) rfl (XS.isub X11.here hx rfl (hb hby d10_103) rfl k))) ?_
  show own_Fin _ _ _ _ _ _ _ (T11.setTop (mkF m 104 #[rv oa, iv 2, jv vb, sS, rv ot, iv 8, iv 8, iv 8, uS, uS] [(.int ((8 : Int32) - (8 : Int32))), (.int 10), (.ref r8), (.int 8), (.ref r8)]))
  rw [show ((8 : Int32) - (8 : Int32)) = (0 : Int32) from by decide +kernel]
  obtain ⟨T12, h12, L12, X12, e12, N12, K12q, V12c, st12⟩ := cpA X11 hx hZ hown (own_W hw 95 rfl) (own_W hw 94 rfl) (own_W hw 92 rfl) (own_W hw 93 rfl) e11 V_r8_9 V_r8_9 (us := []) (Or.inl ⟨rfl, rfl⟩) (by decide) (by decide) (by decide) (by decide) (by decide) rfl (Nat.le_of_ble_eq_true rfl) N9 g_r8 (g := (mkF m 104 #[rv oa, iv 2, jv vb, sS, rv ot, iv 8, iv 8, iv 8, uS, uS] [(.int 0), (.int 10), (.ref r8), (.int 8), (.ref r8)])) rfl (by rw [hml]; rfl) rfl (hb hby d10_104) (by decide) (W := 0) (Nat.le_of_eq rfl) (by decide)
  refine own_Fin.go st12 ?_
  have V_r8_12 : Arv Z h12 r8 kb8 .long (10 : Int32) [(.long 3458764515968024577), (.long 0), (.long yp), (.long wp), (.long ya), (.long wa), (.long yb), (.long wb), (.long 0), (.long 0)] (.long 0) := V12c
  have E_oa_12 := E_oa_9.keep K12q
  have F_oa_cells_12 := F_oa_cells_9.keep K12q (ninS ne_oa_r8 nin0)
  have F_oa_sets_12 := F_oa_sets_9.keep K12q (ninS ne_oa_r8 nin0)
  have E_ot_12 := E_ot_9.keep K12q
  have F_ot_buckets_12 := F_ot_buckets_9.keep K12q (ninS ne_ot_r8 nin0)
  have Z12 := Nat.le_trans Z9 K12q.1
  have K12 := K9.trans K12q (allS (Or.inr sz_r8) all0)
  refine own_Fin.go (fun t k => XS.aloadN X12.here hx rfl (hb hby d10_107) rfl rfl k) ?_
  refine own_gF X12 hx hZ hown (own_W hw 39 rfl) e12 F_oa_cells_12 rfl rfl (hb hby d10_108) ?_
  intro T13 X13 e13
  refine own_Fin.go (fun t k => XS.iload X13.here hx rfl (hb hby d10_111) rfl (XS.lloadN X13.here hx rfl (hb hby d10_113) rfl k)) ?_
  obtain ⟨cl14, Ar14, q14, S14, N14l, H14, G14⟩ := (id V_r8_12)
  have hin14 : ¬ ((8 : Int32) < 0 ∨ cl14.slots.size ≤ ((8 : Int32)).toNatClampNeg) := inb_of S14 ⟨by decide, by decide⟩
  obtain ⟨T14, h14, X14, e14, W14, st14⟩ := stJ X13 hx hZ e13 Ar14 (j := (8 : Int32)) hin14 (g := (mkF m 114 #[rv oa, iv 2, jv vb, sS, rv ot, iv 8, iv 8, iv 8, uS, uS] [(.long vb), (.int 8), (.ref r8)])) rfl rfl (hb hby d10_114)
  refine own_Fin.go st14 ?_
  have V_r8_14 := Arv.set Ar14 q14 S14 N14l H14 G14 rfl W14 8 rfl (Nat.le_of_ble_eq_true rfl)
  replace V_r8_14 : Arv Z h14 r8 kb8 .long (10 : Int32) [(.long 3458764515968024577), (.long 0), (.long yp), (.long wp), (.long ya), (.long wa), (.long yb), (.long wb), (.long vb), (.long 0)] (.long 0) := V_r8_14
  have E_oa_14 := Exa.wr W14 E_oa_12
  have F_oa_cells_14 := Fld.other W14 F_oa_cells_12 (Or.inl ne_oa_r8)
  have F_oa_sets_14 := Fld.other W14 F_oa_sets_12 (Or.inl ne_oa_r8)
  have E_ot_14 := Exa.wr W14 E_ot_12
  have F_ot_buckets_14 := Fld.other W14 F_ot_buckets_12 (Or.inl ne_ot_r8)
  have Z14 := Nat.le_trans Z12 (Keep.of_wr W14).1
  have K14 := K12.wr W14 (Or.inr sz_r8)
  have N14 := Fr.snoc X14 N12 g_r8
  show own_Fin _ _ _ _ _ _ _ (T14.setTop (mkF m 115 #[rv oa, iv 2, jv vb, sS, rv ot, iv 8, iv 8, iv 8, uS, uS] []))
  refine own_Fin.go (fun t k => XS.aloadN X14.here hx rfl (hb hby d10_115) rfl rfl k) ?_
  refine own_gF X14 hx hZ hown (own_W hw 39 rfl) e14 F_oa_cells_14 rfl rfl (hb hby d10_116) ?_
  intro T15 X15 e15
  refine own_Fin.go (fun t k => XS.iload X15.here hx rfl (hb hby d10_119) rfl (XS.iconst X15.here hx rfl (hb hby d10_121) (XS.iadd X15.here hx rfl (hb hby d10_122) rfl k))) ?_
  show own_Fin _ _ _ _ _ _ _ (T15.setTop (mkF m 123 #[rv oa, iv 2, jv vb, sS, rv ot, iv 8, iv 8, iv 8, uS, uS] [(.int ((8 : Int32) + (1 : Int32))), (.ref r8)]))
  rw [show ((8 : Int32) + (1 : Int32)) = (9 : Int32) from by decide +kernel]
  refine own_Fin.go (fun t k => XS.lconst X15.here hx rfl (hb hby d10_123) k) ?_
  obtain ⟨cl16, Ar16, q16, S16, N16l, H16, G16⟩ := (id V_r8_14)
  have hin16 : ¬ ((9 : Int32) < 0 ∨ cl16.slots.size ≤ ((9 : Int32)).toNatClampNeg) := inb_of S16 ⟨by decide, by decide⟩
  obtain ⟨T16, h16, X16, e16, W16, st16⟩ := stJ X15 hx hZ e15 Ar16 (j := (9 : Int32)) hin16 (g := (mkF m 124 #[rv oa, iv 2, jv vb, sS, rv ot, iv 8, iv 8, iv 8, uS, uS] [(.long 0), (.int 9), (.ref r8)])) rfl rfl (hb hby d10_124)
  refine own_Fin.go st16 ?_
  have V_r8_16 := Arv.set Ar16 q16 S16 N16l H16 G16 rfl W16 9 rfl (Nat.le_of_ble_eq_true rfl)
  replace V_r8_16 : Arv Z h16 r8 kb8 .long (10 : Int32) [(.long 3458764515968024577), (.long 0), (.long yp), (.long wp), (.long ya), (.long wa), (.long yb), (.long wb), (.long vb), (.long 0)] (.long 0) := V_r8_16
  have E_oa_16 := Exa.wr W16 E_oa_14
  have F_oa_cells_16 := Fld.other W16 F_oa_cells_14 (Or.inl ne_oa_r8)
  have F_oa_sets_16 := Fld.other W16 F_oa_sets_14 (Or.inl ne_oa_r8)
  have E_ot_16 := Exa.wr W16 E_ot_14
  have F_ot_buckets_16 := Fld.other W16 F_ot_buckets_14 (Or.inl ne_ot_r8)
  have Z16 := Nat.le_trans Z14 (Keep.of_wr W16).1
  have K16 := K14.wr W16 (Or.inr sz_r8)
  have N16 := Fr.snoc X16 N14 g_r8
  refine own_Fin.go (fun t k => XS.aloadN X16.here hx rfl (hb hby d10_125) rfl rfl k) ?_
  refine own_gF X16 hx hZ hown (own_W hw 43 rfl) e16 F_oa_sets_16 rfl rfl (hb hby d10_126) ?_
  intro T17 X17 e17
  refine own_Fin.go (fun t k => XS.ifnullYes X17.here hx rfl (pc0 := 129) (pc' := 216) rfl (hb hby d10_129) rfl (by decide) (by decide) k) ?_
  show own_Fin _ _ _ _ _ _ _ (T17.setTop (mkF m 216 #[rv oa, iv 2, jv vb, sS, rv ot, iv 8, iv 8, iv 8, uS, uS] []))
  refine own_Fin.go (fun t k => XS.aloadN X17.here hx rfl (hb hby d10_216) rfl rfl (XS.iloadN X17.here hx rfl (hb hby d10_217) rfl (XS.aloadN X17.here hx rfl (hb hby d10_218) rfl rfl (XS.iloadN X17.here hx rfl (hb hby d10_219) rfl k)))) ?_
  refine own_pC X17 hx hZ hown (own_W hw 70 rfl) (own_W hw 71 rfl) (own_W hw 48 rfl) rfl (own_W hw 72 rfl) (own_W hw 73 rfl) (own_W hw 17 rfl) (by decide) (own_rm_len2 l Z a0 hw [] oa r8 kb8 (10 : Int32) (3458764515968024577 : Int64) (0 : Int64) ([(.long yp), (.long wp), (.long ya), (.long wa), (.long yb), (.long wb), (.long vb), (.long 0)]) h16 n0 Z16 F_oa_cells_16 V_r8_16 (by decide)) 2 (by decide) (by decide) e17 E_oa_16 rfl (by rw [hml]; rfl) [(.int 2)] (lenOf own_pd1 rfl) rfl (Nat.le_of_eq rfl) (hb hby d10_220) rfl (by decide) (by decide) ?_
  rintro T18 Lc18 _ X18 ⟨rfl, N18q, e18⟩
  have N18 := Fr.app N16 N18q
  show own_Fin _ _ _ _ _ _ _ (T18.setTop (mkF m 223 #[rv oa, iv 2, jv vb, sS, rv ot, iv 8, iv 8, iv 8, uS, uS] [(.int (own_lena (0 : Int64))), (.int 2), (.ref oa)]))
  rw [show (own_lena (0 : Int64)) = (0 : Int32) from by decide +kernel]
  refine own_Fin.go (fun t k => XS.iconst X18.here hx rfl (hb hby d10_223) (XS.iadd X18.here hx rfl (hb hby d10_224) rfl k)) ?_
  show own_Fin _ _ _ _ _ _ _ (T18.setTop (mkF m 225 #[rv oa, iv 2, jv vb, sS, rv ot, iv 8, iv 8, iv 8, uS, uS] [(.int ((0 : Int32) + (1 : Int32))), (.int 2), (.ref oa)]))
  rw [show ((0 : Int32) + (1 : Int32)) = (1 : Int32) from by decide +kernel]
  refine own_pC X18 hx hZ hown (own_W hw 96 rfl) (own_W hw 97 rfl) (own_W hw 48 rfl) rfl (own_W hw 98 rfl) (own_W hw 99 rfl) (own_W hw 17 rfl) (by decide) (own_rm_sl2 l Z a0 hw [] oa (1 : Int32) r8 kb8 (10 : Int32) (3458764515968024577 : Int64) (0 : Int64) ([(.long yp), (.long wp), (.long ya), (.long wa), (.long yb), (.long wb), (.long vb), (.long 0)]) h16 n0 Z16 F_oa_cells_16 V_r8_16 (by decide) g_r8 ne_oa_r8) 0 (by decide) (by decide) e18 E_oa_16 rfl (by rw [hml]; rfl) [(.int 2), (.int 1)] (lenOf own_pd6 rfl) rfl (Nat.le_of_eq rfl) (hb hby d10_225) rfl (by decide) (by decide) ?_
  rintro T19 Lc19 _ X19 ⟨rfl, N19q, K19q, c19_1⟩
  have N19 := Fr.app N18 N19q
  have E_oa_19 := E_oa_16.keep K19q
  have F_oa_cells_19 := F_oa_cells_16.keep K19q (ninS ne_oa_r8 nin0)
  have F_oa_sets_19 := F_oa_sets_16.keep K19q (ninS ne_oa_r8 nin0)
  have E_ot_19 := E_ot_16.keep K19q
  have F_ot_buckets_19 := F_ot_buckets_16.keep K19q (ninS ne_ot_r8 nin0)
  have Z19 := Nat.le_trans Z16 K19q.1
  have K19 := K16.trans K19q (allS (Or.inr sz_r8) all0)
  rw [show (own_sla (0 : Int64) (1 : Int32)) = (1 : Int64) from by decide +kernel] at c19_1
  refine own_Fin.go (fun t k => XS.aload X19.here hx rfl (hb hby d10_228) rfl rfl (XS.dup X19.here hx rfl (hb hby d10_230) rfl rfl k)) ?_
  refine own_gF X19 hx hZ hown (own_W hw 101 rfl) rfl F_ot_buckets_19 rfl rfl (hb hby d10_231) ?_
  intro T20 X20 e20
  refine own_Fin.go (fun t k => XS.lconst X20.here hx rfl (hb hby d10_234) (XS.ladd X20.here hx rfl (hb hby d10_235) rfl k)) ?_
  obtain ⟨T21, h21, X21, e21, W21, st21⟩ := putF X20 hx hZ hown (host := "") (Or.inl (own_W hw 101 rfl)) Via.refl e20 F_ot_buckets_19 E_ot_19 (Or.inl (own_W hw 102 rfl)) (own_W hw 7 rfl) (ty := .long) (by decide) rfl rfl (g := (mkF m 236 #[rv oa, iv 2, jv vb, sS, rv ot, iv 8, iv 8, iv 8, uS, uS] [(.long (ub + (1 : Int64))), (.ref ot)])) rfl rfl (hb hby d10_236)
  refine own_Fin.go st21 ?_
  have F_ot_buckets_21 := Fld.same W21 F_ot_buckets_19
  have E_oa_21 := Exa.wr W21 E_oa_19
  have F_oa_cells_21 := Fld.other W21 F_oa_cells_19 (Or.inl ne_oa_ot)
  have F_oa_sets_21 := Fld.other W21 F_oa_sets_19 (Or.inl ne_oa_ot)
  have E_ot_21 := Exa.wr W21 E_ot_19
  have V_r8_21 := Arv.other c19_1 W21 (Ne.symm ne_ot_r8)
  have Z21 := Nat.le_trans Z19 (Keep.of_wr W21).1
  have K21 := K19.wr W21 (Or.inl (List.mem_of_getElem? (i := 1) rfl))
  have N21 := Fr.snoc X21 N19 g_ot
  show own_Fin _ _ _ _ _ _ _ (T21.setTop (mkF m 239 #[rv oa, iv 2, jv vb, sS, rv ot, iv 8, iv 8, iv 8, uS, uS] []))
  refine own_Fin.go (fun t k => XS.iload X21.here hx rfl (hb hby d10_239) rfl k) ?_
  refine own_retI X21 hx Bd.returns (hb hby d10_241) Bd.notSynchronized (by decide) (by decide) ?_
  rw [e21]
  exact ⟨r8, kb8, rfl, N21, K21, E_oa_21, F_oa_cells_21, F_oa_sets_21, V_r8_21, E_ot_21, F_ot_buckets_21, sz_r8, ne_oa_r8, ne_ot_r8⟩
theorem own_ef_adE2 (m : MethodId) (oa : Addr) (vb : Int64) (va : Int64) (ot : Addr) : entryFrame m #[(.ref oa), (.int 2), (.long vb), (.long va), (.ref ot)] 8 = mkF m 0 #[rv oa, iv 2, jv vb, sS, jv va, sS, rv ot, uS] [] := by first | (simp [entryFrame, mkF, argsToLocals, Value.category]; done) | rfl
def own_Q_adE2 (Z : State) (oa : Addr) (vb : Int64) (va : Int64) (ot : Addr) (oz : Addr) (kz : ClassId) (yp : Int64) (wp : Int64) (ya : Int64) (wa : Int64) (yb : Int64) (wb : Int64) (ub : Int64) (h0 : Heap) (n0 : Nat) (v : Option Value) (h : Heap) (L : List Loc) : Prop := ∃ ob : Addr, ∃ kb : ClassId, v = none ∧ Fr n0 L ∧ Keep h0 h [oa, ot, oz] ∧ Exa Z h oa own_k0 ∧ Fld Z h oa own_k0 "cells" "[J" (.ref ob) ∧ Fld Z h oa own_k0 "sets" "[Ljava/lang/Object;" .null ∧ Arv Z h ob kb .long (10 : Int32) [(.long 3458764515968024577), (.long 1), (.long yp), (.long wp), (.long ya), (.long wa), (.long yb), (.long wb), (.long vb), (.long (own_sat (0 : Int64) va))] (.long 0) ∧ Exa Z h ot own_k2 ∧ Fld Z h ot own_k2 "buckets" "J" (.long (ub + (1 : Int64))) ∧ h0.size ≤ ob ∧ oa ≠ ob ∧ ot ≠ ob
set_option maxRecDepth 65536 in
set_option maxHeartbeats 40000000 in
theorem own_rm_adE2 (l : Launch) (Z : State) (a0 : Array Value) (hw : ∀ d ∈ tables_1, d.before a0 Z = true) (ws : List Jvm.Cond) (oa : Addr) (vb : Int64) (va : Int64) (ot : Addr) (oz : Addr) (kz : ClassId) (yp : Int64) (wp : Int64) (ya : Int64) (wa : Int64) (yb : Int64) (wb : Int64) (ub : Int64) (h0 : Heap) (n0 : Nat) (Z0 : n0 ≤ h0.size) (E_oa : Exa Z h0 oa own_k0) (F_oa_cells : Fld Z h0 oa own_k0 "cells" "[J" (.ref oz)) (F_oa_sets : Fld Z h0 oa own_k0 "sets" "[Ljava/lang/Object;" .null) (V_oz : Arv Z h0 oz kz .long (8 : Int32) [(.long 3458764515968024577), (.long 0), (.long yp), (.long wp), (.long ya), (.long wa), (.long yb), (.long wb)] (.long 0)) (E_ot : Exa Z h0 ot own_k2) (F_ot_buckets : Fld Z h0 ot own_k2 "buckets" "J" (.long ub)) (g_oa : n0 ≤ oa) (g_oz : n0 ≤ oz) (g_ot : n0 ≤ ot) (ne_oa_ot : oa ≠ ot) (ne_oa_oz : oa ≠ oz) (ne_ot_oz : ot ≠ oz) :
    MetFree l own_y17 (head1 (Jvm.Cond.code own_y17 prog_4_method_4_code 8 none :: ws) ({ frames := 5, cells := 1, slots := 10, locals := 76 } : Room)) (fun a U => a = #[(.ref oa), (.int 2), (.long vb), (.long va), (.ref ot)] ∧ Z.Warmed39 U.vm ∧ U.heap = h0) (fun _ _ _ _ _ => True) (fun _ U o U' => ∃ v L, o = .returned v ∧ own_Q_adE2 Z oa vb va ot oz kz yp wp ya wa yb wb ub h0 n0 v U'.heap L ∧ FrameEnd U o U' L ({ frames := 5, cells := 1, slots := 10, locals := 76 } : Room).cells ({ frames := 5, cells := 1, slots := 10, locals := 76 } : Room).slots) := by
  refine MetFree.of_bodySF (plainFor_of_name own_pn0) hisR ?_
  intro p e s m args below meth c s₁ Bd hml0 hP hK
  obtain ⟨rfl, hZ, hh⟩ := hP
  have hx := Bd.exec
  have hby := Bd.bytes
  have hml : c.maxLocals = 8 := hml0
  have hown : s.vm.findClass own_k0 = some m.cls := findClass_of_methodNamed Bd.named
  have hnm := (name_of_methodNamed Bd.named Bd.method).1
  have X0 : Stand p l e ({ frames := 5, cells := 1, slots := 10, locals := 76 } : Room) s m #[(.ref oa), (.int 2), (.long vb), (.long va), (.ref ot)] below meth c s₁ [] 0 0 := Stand.of_body Bd
  have e0 : s₁.heap = h0 := by rw [← hh, Bd.state]; rfl
  have N0 := Fr.nil n0
  have K0 := Keep.refl h0 [oa, ot, oz]
  show own_Fin p e below s (own_Q_adE2 Z oa vb va ot oz kz yp wp ya wa yb wb ub h0 n0) ({ frames := 5, cells := 1, slots := 10, locals := 76 } : Room).cells ({ frames := 5, cells := 1, slots := 10, locals := 76 } : Room).slots (s₁.setTop (entryFrame m #[(.ref oa), (.int 2), (.long vb), (.long va), (.ref ot)] 8))
  refine own_Fin.go (fun t k => castTop (own_ef_adE2 m oa vb va ot) k) ?_
  refine own_Fin.go (fun t k => XS.aloadN X0.here hx rfl (hb hby d1_0) rfl rfl (XS.iloadN X0.here hx rfl (hb hby d1_1) rfl (XS.lloadN X0.here hx rfl (hb hby d1_2) rfl (XS.aload X0.here hx rfl (hb hby d1_3) rfl rfl k)))) ?_
  show own_Fin _ _ _ _ _ _ _ (s₁.setTop (mkF m 5 #[rv oa, iv 2, jv vb, sS, jv va, sS, rv ot, uS] [(.ref ot), (.long vb), (.int 2), (.ref oa)]))
  refine own_pC X0 hx hZ hown (own_W hw 50 rfl) (own_W hw 51 rfl) (own_W hw 48 rfl) rfl (own_W hw 52 rfl) (own_W hw 53 rfl) (own_W hw 17 rfl) (by decide) (own_rm_soE2 l Z a0 hw [] oa vb ot oz kz yp wp ya wa yb wb ub h0 n0 Z0 E_oa F_oa_cells F_oa_sets V_oz E_ot F_ot_buckets g_oa g_oz g_ot ne_oa_ot ne_oa_oz ne_ot_oz) 0 (by decide) (by decide) e0 E_oa rfl (by rw [hml]; rfl) [(.int 2), (.long vb), (.ref ot)] (lenOf own_pd7 rfl) rfl (Nat.le_of_eq rfl) (hb hby d1_5) rfl (by decide) (by decide) ?_
  rintro T1 Lc1 _ X1 ⟨ob1, kb1, rfl, N1q, K1q, c1_1, c1_2, c1_3, c1_4, c1_5, c1_6, c1_7, c1_8, c1_9⟩
  have N1 := Fr.app N0 N1q
  have Z1 := Nat.le_trans Z0 K1q.1
  have K1 := K0.trans K1q (allS (Or.inl (List.mem_of_getElem? (i := 0) rfl)) (allS (Or.inl (List.mem_of_getElem? (i := 1) rfl)) (allS (Or.inl (List.mem_of_getElem? (i := 2) rfl)) all0)))
  have ne_oa_ob1 : oa ≠ ob1 := Nat.ne_of_lt (Nat.lt_of_lt_of_le F_oa_sets.lt c1_7)
  have ne_oz_ob1 : oz ≠ ob1 := Nat.ne_of_lt (Nat.lt_of_lt_of_le V_oz.lt c1_7)
  have ne_ot_ob1 : ot ≠ ob1 := Nat.ne_of_lt (Nat.lt_of_lt_of_le F_ot_buckets.lt c1_7)
  have g_ob1 : n0 ≤ ob1 := Nat.le_trans Z0 c1_7
  have sz_ob1 : h0.size ≤ ob1 := Nat.le_trans K0.1 c1_7
  refine own_Fin.go (fun t k => XS.istore X1.here hx rfl (hb hby d1_8) rfl (l' := #[rv oa, iv 2, jv vb, sS, jv va, sS, rv ot, iv 8]) rfl (XS.aloadN X1.here hx rfl (hb hby d1_10) rfl rfl k)) ?_
  refine own_gF X1 hx hZ hown (own_W hw 39 rfl) rfl c1_2 rfl rfl (hb hby d1_11) ?_
  intro T2 X2 e2
  refine own_Fin.go (fun t k => XS.iload X2.here hx rfl (hb hby d1_14) rfl k) ?_
  show own_Fin _ _ _ _ _ _ _ (T2.setTop (mkF m 16 #[rv oa, iv 2, jv vb, sS, jv va, sS, rv ot, iv 8] [(.int 8), (.ref ob1)]))
  refine own_Fin.go (fun t k => XS.iconst X2.here hx rfl (hb hby d1_16) (XS.iadd X2.here hx rfl (hb hby d1_17) rfl k)) ?_
  show own_Fin _ _ _ _ _ _ _ (T2.setTop (mkF m 18 #[rv oa, iv 2, jv vb, sS, jv va, sS, rv ot, iv 8] [(.int ((8 : Int32) + (1 : Int32))), (.ref ob1)]))
  rw [show ((8 : Int32) + (1 : Int32)) = (9 : Int32) from by decide +kernel]
  refine own_Fin.go (fun t k => XS.aloadN X2.here hx rfl (hb hby d1_18) rfl rfl k) ?_
  refine own_gF X2 hx hZ hown (own_W hw 39 rfl) e2 c1_2 rfl rfl (hb hby d1_19) ?_
  intro T3 X3 e3
  refine own_Fin.go (fun t k => XS.iload X3.here hx rfl (hb hby d1_22) rfl (XS.iconst X3.here hx rfl (hb hby d1_24) (XS.iadd X3.here hx rfl (hb hby d1_25) rfl k))) ?_
  show own_Fin _ _ _ _ _ _ _ (T3.setTop (mkF m 26 #[rv oa, iv 2, jv vb, sS, jv va, sS, rv ot, iv 8] [(.int ((8 : Int32) + (1 : Int32))), (.ref ob1), (.int 9), (.ref ob1)]))
  rw [show ((8 : Int32) + (1 : Int32)) = (9 : Int32) from by decide +kernel]
  refine own_lal X3 hx hZ e3 c1_4 ⟨by decide, by decide⟩ (v := (0 : Int64)) rfl rfl rfl (hb hby d1_26) ?_
  refine own_Fin.go (fun t k => XS.lload X3.here hx rfl (hb hby d1_27) rfl k) ?_
  refine own_sC X3 hx hZ hown (own_W hw 103 rfl) (own_W hw 104 rfl) (own_W hw 17 rfl) (own_W hw 105 rfl) (by decide) (own_rm_sat l Z a0 hw [] (0 : Int64) va  T1.heap n0 Z1 ) 2 (by decide) (by decide) e3 rfl (by rw [hml]; rfl) [(.long 0), (.long va)] [(.int 9), (.ref ob1)] (lenOf own_pd8 rfl) rfl (Nat.le_of_eq rfl) (hb hby d1_29) rfl (by decide) (by decide) ?_
  rintro T5 Lc5 _ X5 ⟨rfl, N5q, e5⟩
  have N5 := Fr.app N1 N5q
  obtain ⟨cl6, Ar6, q6, S6, N6l, H6, G6⟩ := (id c1_4)
  have hin6 : ¬ ((9 : Int32) < 0 ∨ cl6.slots.size ≤ ((9 : Int32)).toNatClampNeg) := inb_of S6 ⟨by decide, by decide⟩
  obtain ⟨T6, h6, X6, e6, W6, st6⟩ := stJ X5 hx hZ e5 Ar6 (j := (9 : Int32)) hin6 (g := (mkF m 32 #[rv oa, iv 2, jv vb, sS, jv va, sS, rv ot, iv 8] [(.long (own_sat (0 : Int64) va)), (.int 9), (.ref ob1)])) rfl rfl (hb hby d1_32)
  refine own_Fin.go st6 ?_
  have V_ob1_6 := Arv.set Ar6 q6 S6 N6l H6 G6 rfl W6 9 rfl (Nat.le_of_ble_eq_true rfl)
  replace V_ob1_6 : Arv Z h6 ob1 kb1 .long (10 : Int32) [(.long 3458764515968024577), (.long 1), (.long yp), (.long wp), (.long ya), (.long wa), (.long yb), (.long wb), (.long vb), (.long (own_sat (0 : Int64) va))] (.long 0) := V_ob1_6
  have E_oa_6 := Exa.wr W6 c1_1
  have F_oa_cells_6 := Fld.other W6 c1_2 (Or.inl c1_8)
  have F_oa_sets_6 := Fld.other W6 c1_3 (Or.inl c1_8)
  have E_ot_6 := Exa.wr W6 c1_5
  have F_ot_buckets_6 := Fld.other W6 c1_6 (Or.inl c1_9)
  have Z6 := Nat.le_trans Z1 (Keep.of_wr W6).1
  have K6 := K1.wr W6 (Or.inr sz_ob1)
  have N6 := Fr.snoc X6 N5 g_ob1
  show own_Fin _ _ _ _ _ _ _ (T6.setTop (mkF m 33 #[rv oa, iv 2, jv vb, sS, jv va, sS, rv ot, iv 8] []))
  refine own_ret0 X6 hx Bd.returns (hb hby d1_33) Bd.notSynchronized (by decide) (by decide) ?_
  rw [e6]
  exact ⟨ob1, kb1, rfl, N6, K6, E_oa_6, F_oa_cells_6, F_oa_sets_6, V_ob1_6, E_ot_6, F_ot_buckets_6, sz_ob1, c1_8, c1_9⟩
theorem own_ef_soE3 (m : MethodId) (oa : Addr) (vb : Int64) (ot : Addr) : entryFrame m #[(.ref oa), (.int 2), (.long vb), (.ref ot)] 10 = mkF m 0 #[rv oa, iv 2, jv vb, sS, rv ot, uS, uS, uS, uS, uS] [] := by first | (simp [entryFrame, mkF, argsToLocals, Value.category]; done) | rfl
def own_Q_soE3 (Z : State) (oa : Addr) (vb : Int64) (ot : Addr) (oz : Addr) (kz : ClassId) (yp : Int64) (wp : Int64) (ya : Int64) (wa : Int64) (yb : Int64) (wb : Int64) (yc : Int64) (wc : Int64) (ub : Int64) (h0 : Heap) (n0 : Nat) (v : Option Value) (h : Heap) (L : List Loc) : Prop := ∃ ob : Addr, ∃ kb : ClassId, v = some (.int 10) ∧ Fr n0 L ∧ Keep h0 h [oa, ot, oz] ∧ Exa Z h oa own_k0 ∧ Fld Z h oa own_k0 "cells" "[J" (.ref ob) ∧ Fld Z h oa own_k0 "sets" "[Ljava/lang/Object;" .null ∧ Arv Z h ob kb .long (12 : Int32) [(.long 3458764517041766401), (.long 1), (.long yp), (.long wp), (.long ya), (.long wa), (.long yb), (.long wb), (.long yc), (.long wc), (.long vb), (.long 0)] (.long 0) ∧ Exa Z h ot own_k2 ∧ Fld Z h ot own_k2 "buckets" "J" (.long (ub + (1 : Int64))) ∧ h0.size ≤ ob ∧ oa ≠ ob ∧ ot ≠ ob
set_option maxRecDepth 65536 in
set_option maxHeartbeats 40000000 in
theorem own_rm_soE3 (l : Launch) (Z : State) (a0 : Array Value) (hw : ∀ d ∈ tables_1, d.before a0 Z = true) (ws : List Jvm.Cond) (oa : Addr) (vb : Int64) (ot : Addr) (oz : Addr) (kz : ClassId) (yp : Int64) (wp : Int64) (ya : Int64) (wa : Int64) (yb : Int64) (wb : Int64) (yc : Int64) (wc : Int64) (ub : Int64) (h0 : Heap) (n0 : Nat) (Z0 : n0 ≤ h0.size) (E_oa : Exa Z h0 oa own_k0) (F_oa_cells : Fld Z h0 oa own_k0 "cells" "[J" (.ref oz)) (F_oa_sets : Fld Z h0 oa own_k0 "sets" "[Ljava/lang/Object;" .null) (V_oz : Arv Z h0 oz kz .long (10 : Int32) [(.long 3458764517041766401), (.long 0), (.long yp), (.long wp), (.long ya), (.long wa), (.long yb), (.long wb), (.long yc), (.long wc)] (.long 0)) (E_ot : Exa Z h0 ot own_k2) (F_ot_buckets : Fld Z h0 ot own_k2 "buckets" "J" (.long ub)) (g_oa : n0 ≤ oa) (g_oz : n0 ≤ oz) (g_ot : n0 ≤ ot) (ne_oa_ot : oa ≠ ot) (ne_oa_oz : oa ≠ oz) (ne_ot_oz : ot ≠ oz) :
    MetFree l own_y16 (head1 (Jvm.Cond.code own_y16 prog_4_method_10_code 10 (some .int) :: ws) ({ frames := 4, cells := 1, slots := 12, locals := 55 } : Room)) (fun a U => a = #[(.ref oa), (.int 2), (.long vb), (.ref ot)] ∧ Z.Warmed39 U.vm ∧ U.heap = h0) (fun _ _ _ _ _ => True) (fun _ U o U' => ∃ v L, o = .returned v ∧ own_Q_soE3 Z oa vb ot oz kz yp wp ya wa yb wb yc wc ub h0 n0 v U'.heap L ∧ FrameEnd U o U' L ({ frames := 4, cells := 1, slots := 12, locals := 55 } : Room).cells ({ frames := 4, cells := 1, slots := 12, locals := 55 } : Room).slots) := by
  refine MetFree.of_bodySF (plainFor_of_name own_pn0) hisR ?_
  intro p e s m args below meth c s₁ Bd hml0 hP hK
  obtain ⟨rfl, hZ, hh⟩ := hP
  have hx := Bd.exec
  have hby := Bd.bytes
  have hml : c.maxLocals = 10 := hml0
  have hown : s.vm.findClass own_k0 = some m.cls := findClass_of_methodNamed Bd.named
  have hnm := (name_of_methodNamed Bd.named Bd.method).1
  have X0 : Stand p l e ({ frames := 4, cells := 1, slots := 12, locals := 55 } : Room) s m #[(.ref oa), (.int 2), (.long vb), (.ref ot)] below meth c s₁ [] 0 0 := Stand.of_body Bd
  have e0 : s₁.heap = h0 := by rw [← hh, Bd.state]; rfl
  have N0 := Fr.nil n0
  have K0 := Keep.refl h0 [oa, ot, oz]
  show own_Fin p e below s (own_Q_soE3 Z oa vb ot oz kz yp wp ya wa yb wb yc wc ub h0 n0) ({ frames := 4, cells := 1, slots := 12, locals := 55 } : Room).cells ({ frames := 4, cells := 1, slots := 12, locals := 55 } : Room).slots (s₁.setTop (entryFrame m #[(.ref oa), (.int 2), (.long vb), (.ref ot)] 10))
  refine own_Fin.go (fun t k => castTop (own_ef_soE3 m oa vb ot) k) ?_
  refine own_Fin.go (fun t k => XS.aloadN X0.here hx rfl (hb hby d10_0) rfl rfl (XS.iloadN X0.here hx rfl (hb hby d10_1) rfl (XS.lloadN X0.here hx rfl (hb hby d10_2) rfl k))) ?_
  refine own_pC X0 hx hZ hown (own_W hw 54 rfl) (own_W hw 55 rfl) (own_W hw 48 rfl) rfl (own_W hw 56 rfl) (own_W hw 57 rfl) (own_W hw 17 rfl) (by decide) (own_rm_iz2 l Z a0 hw [] oa vb oz kz (10 : Int32) (3458764517041766401 : Int64) (0 : Int64) ([(.long yp), (.long wp), (.long ya), (.long wa), (.long yb), (.long wb), (.long yc), (.long wc)]) h0 n0 Z0 E_oa F_oa_cells V_oz (by decide) (by decide)) 0 (by decide) (by decide) e0 E_oa rfl (by rw [hml]; rfl) [(.int 2), (.long vb)] (lenOf own_pd4 rfl) rfl (Nat.le_of_eq rfl) (hb hby d10_3) rfl (by decide) (by decide) ?_
  rintro T1 Lc1 _ X1 ⟨rfl, N1q, e1⟩
  have N1 := Fr.app N0 N1q
  show own_Fin _ _ _ _ _ _ _ (T1.setTop (mkF m 6 #[rv oa, iv 2, jv vb, sS, rv ot, uS, uS, uS, uS, uS] [(.int (own_ixc (3458764517041766401 : Int64)))]))
  rw [show (own_ixc (3458764517041766401 : Int64)) = (10 : Int32) from by decide +kernel]
  refine own_Fin.go (fun t k => XS.istore X1.here hx rfl (hb hby d10_6) rfl (l' := #[rv oa, iv 2, jv vb, sS, rv ot, iv 10, uS, uS, uS, uS]) rfl (XS.aloadN X1.here hx rfl (hb hby d10_8) rfl rfl (XS.iloadN X1.here hx rfl (hb hby d10_9) rfl k))) ?_
  refine own_pC X1 hx hZ hown (own_W hw 58 rfl) (own_W hw 59 rfl) (own_W hw 48 rfl) rfl (own_W hw 60 rfl) (own_W hw 61 rfl) (own_W hw 17 rfl) (by decide) (own_rm_st2 l Z a0 hw [] oa oz kz (10 : Int32) (3458764517041766401 : Int64) (0 : Int64) ([(.long yp), (.long wp), (.long ya), (.long wa), (.long yb), (.long wb), (.long yc), (.long wc)]) h0 n0 Z0 E_oa F_oa_cells V_oz (by decide)) 0 (by decide) (by decide) e1 E_oa rfl (by rw [hml]; rfl) [(.int 2)] (lenOf own_pd1 rfl) rfl (Nat.le_of_eq rfl) (hb hby d10_10) rfl (by decide) (by decide) ?_
  rintro T2 Lc2 _ X2 ⟨rfl, N2q, e2⟩
  have N2 := Fr.app N1 N2q
  show own_Fin _ _ _ _ _ _ _ (T2.setTop (mkF m 13 #[rv oa, iv 2, jv vb, sS, rv ot, iv 10, uS, uS, uS, uS] [(.int (own_stc (3458764517041766401 : Int64)))]))
  rw [show (own_stc (3458764517041766401 : Int64)) = (10 : Int32) from by decide +kernel]
  refine own_Fin.go (fun t k => XS.iconst X2.here hx rfl (hb hby d10_13) (XS.aloadN X2.here hx rfl (hb hby d10_14) rfl rfl (XS.iloadN X2.here hx rfl (hb hby d10_15) rfl k))) ?_
  refine own_pC X2 hx hZ hown (own_W hw 70 rfl) (own_W hw 71 rfl) (own_W hw 48 rfl) rfl (own_W hw 72 rfl) (own_W hw 73 rfl) (own_W hw 17 rfl) (by decide) (own_rm_len2 l Z a0 hw [] oa oz kz (10 : Int32) (3458764517041766401 : Int64) (0 : Int64) ([(.long yp), (.long wp), (.long ya), (.long wa), (.long yb), (.long wb), (.long yc), (.long wc)]) h0 n0 Z0 F_oa_cells V_oz (by decide)) 2 (by decide) (by decide) e2 E_oa rfl (by rw [hml]; rfl) [(.int 2)] (lenOf own_pd1 rfl) rfl (Nat.le_of_eq rfl) (hb hby d10_16) rfl (by decide) (by decide) ?_
  rintro T3 Lc3 _ X3 ⟨rfl, N3q, e3⟩
  have N3 := Fr.app N2 N3q
  show own_Fin _ _ _ _ _ _ _ (T3.setTop (mkF m 19 #[rv oa, iv 2, jv vb, sS, rv ot, iv 10, uS, uS, uS, uS] [(.int (own_lena (0 : Int64))), (.int 2), (.int 10)]))
  rw [show (own_lena (0 : Int64)) = (0 : Int32) from by decide +kernel]
  refine own_Fin.go (fun t k => XS.imul X3.here hx rfl (hb hby d10_19) rfl k) ?_
  show own_Fin _ _ _ _ _ _ _ (T3.setTop (mkF m 20 #[rv oa, iv 2, jv vb, sS, rv ot, iv 10, uS, uS, uS, uS] [(.int ((2 : Int32) * (0 : Int32))), (.int 10)]))
  rw [show ((2 : Int32) * (0 : Int32)) = (0 : Int32) from by decide +kernel]
  refine own_Fin.go (fun t k => XS.iadd X3.here hx rfl (hb hby d10_20) rfl k) ?_
  show own_Fin _ _ _ _ _ _ _ (T3.setTop (mkF m 21 #[rv oa, iv 2, jv vb, sS, rv ot, iv 10, uS, uS, uS, uS] [(.int ((10 : Int32) + (0 : Int32)))]))
  rw [show ((10 : Int32) + (0 : Int32)) = (10 : Int32) from by decide +kernel]
  refine own_Fin.go (fun t k => XS.istore X3.here hx rfl (hb hby d10_21) rfl (l' := #[rv oa, iv 2, jv vb, sS, rv ot, iv 10, iv 10, uS, uS, uS]) rfl (XS.iload X3.here hx rfl (hb hby d10_23) rfl (XS.iload X3.here hx rfl (hb hby d10_25) rfl (XS.icmpYes X3.here hx rfl (pc0 := 27) (pc' := 45) rfl (hb hby d10_27) rfl (by decide) (by decide) (by decide) k)))) ?_
  refine own_Fin.go (fun t k => XS.aloadN X3.here hx rfl (hb hby d10_45) rfl rfl k) ?_
  refine own_pC X3 hx hZ hown (own_W hw 79 rfl) (own_W hw 80 rfl) (own_W hw 48 rfl) rfl (own_W hw 81 rfl) (own_W hw 82 rfl) (own_W hw 17 rfl) (by decide) (own_rm_used l Z a0 hw [] oa oz kz (10 : Int32) (3458764517041766401 : Int64) (0 : Int64) ([(.long yp), (.long wp), (.long ya), (.long wa), (.long yb), (.long wb), (.long yc), (.long wc)]) h0 n0 Z0 E_oa F_oa_cells V_oz (by decide) (by decide)) 0 (by decide) (by decide) e3 E_oa rfl (by rw [hml]; rfl) [] (lenOf own_pd0 rfl) rfl (Nat.le_of_eq rfl) (hb hby d10_46) rfl (by decide) (by decide) ?_
  rintro T4 Lc4 _ X4 ⟨rfl, N4q, e4⟩
  have N4 := Fr.app N3 N4q
  show own_Fin _ _ _ _ _ _ _ (T4.setTop (mkF m 49 #[rv oa, iv 2, jv vb, sS, rv ot, iv 10, iv 10, uS, uS, uS] [(.int (own_std (3458764517041766401 : Int64) (0 : Int64)))]))
  rw [show (own_std (3458764517041766401 : Int64) (0 : Int64)) = (10 : Int32) from by decide +kernel]
  refine own_Fin.go (fun t k => XS.istore X4.here hx rfl (hb hby d10_49) rfl (l' := #[rv oa, iv 2, jv vb, sS, rv ot, iv 10, iv 10, iv 10, uS, uS]) rfl (XS.iload X4.here hx rfl (hb hby d10_51) rfl (XS.iconst X4.here hx rfl (hb hby d10_53) (XS.iadd X4.here hx rfl (hb hby d10_54) rfl k)))) ?_
  show own_Fin _ _ _ _ _ _ _ (T4.setTop (mkF m 55 #[rv oa, iv 2, jv vb, sS, rv ot, iv 10, iv 10, iv 10, uS, uS] [(.int ((10 : Int32) + (2 : Int32)))]))
  rw [show ((10 : Int32) + (2 : Int32)) = (12 : Int32) from by decide +kernel]
  refine own_Fin.go (fun t k => XS.aloadN X4.here hx rfl (hb hby d10_55) rfl rfl k) ?_
  refine own_gF X4 hx hZ hown (own_W hw 39 rfl) e4 F_oa_cells rfl rfl (hb hby d10_56) ?_
  intro T5 X5 e5
  obtain ⟨cl6, Ar6, -, S6, N6l, -, -⟩ := (id V_oz)
  refine own_Fin.go (fun t k => X5.arraylength hx (by rw [e5]; exact Ar6.1) (State.isArrayOf_alike hZ.alike Ar6.2.1) (g := (mkF m 59 #[rv oa, iv 2, jv vb, sS, rv ot, iv 10, iv 10, iv 10, uS, uS] [(.ref oz), (.int 12)])) rfl rfl (hb hby d10_59) t k) ?_
  rw [len_of S6 N6l]
  refine own_Fin.go (fun t k => XS.icmpNo X5.here hx rfl (hb hby d10_60) rfl (by decide) (XS.aloadN X5.here hx rfl (hb hby d10_63) rfl rfl (XS.aloadN X5.here hx rfl (hb hby d10_64) rfl rfl k))) ?_
  refine own_gF X5 hx hZ hown (own_W hw 39 rfl) e5 F_oa_cells rfl rfl (hb hby d10_65) ?_
  intro T7 X7 e7
  show own_Fin _ _ _ _ _ _ _ (T7.setTop (mkF m 68 #[rv oa, iv 2, jv vb, sS, rv ot, iv 10, iv 10, iv 10, uS, uS] [(.ref oz), (.ref oa)]))
  refine own_Fin.go (fun t k => XS.iload X7.here hx rfl (hb hby d10_68) rfl (XS.iconst X7.here hx rfl (hb hby d10_70) (XS.iadd X7.here hx rfl (hb hby d10_71) rfl k))) ?_
  show own_Fin _ _ _ _ _ _ _ (T7.setTop (mkF m 72 #[rv oa, iv 2, jv vb, sS, rv ot, iv 10, iv 10, iv 10, uS, uS] [(.int ((10 : Int32) + (2 : Int32))), (.ref oz), (.ref oa)]))
  rw [show ((10 : Int32) + (2 : Int32)) = (12 : Int32) from by decide +kernel]
  refine own_Fin.go (fun t k => XS.iload X7.here hx rfl (hb hby d10_72) rfl (XS.iconst X7.here hx rfl (hb hby d10_74) (XS.iushr X7.here hx rfl (hb hby d10_75) rfl k))) ?_
  show own_Fin _ _ _ _ _ _ _ (T7.setTop (mkF m 76 #[rv oa, iv 2, jv vb, sS, rv ot, iv 10, iv 10, iv 10, uS, uS] [(.int (((10 : Int32).toUInt32 >>> ((4 : Int32) &&& 31).toUInt32).toInt32)), (.int 12), (.ref oz), (.ref oa)]))
  rw [show (((10 : Int32).toUInt32 >>> ((4 : Int32) &&& 31).toUInt32).toInt32) = (0 : Int32) from by decide +kernel]
  refine own_Fin.go (fun t k => XS.iconst X7.here hx rfl (hb hby d10_76) (XS.ishl X7.here hx rfl (hb hby d10_77) rfl k)) ?_
  show own_Fin _ _ _ _ _ _ _ (T7.setTop (mkF m 78 #[rv oa, iv 2, jv vb, sS, rv ot, iv 10, iv 10, iv 10, uS, uS] [(.int ((0 : Int32) <<< ((1 : Int32) &&& 31))), (.int 12), (.ref oz), (.ref oa)]))
  rw [show ((0 : Int32) <<< ((1 : Int32) &&& 31)) = (0 : Int32) from by decide +kernel]
  refine own_Fin.go (fun t k => XS.iadd X7.here hx rfl (hb hby d10_78) rfl k) ?_
  show own_Fin _ _ _ _ _ _ _ (T7.setTop (mkF m 79 #[rv oa, iv 2, jv vb, sS, rv ot, iv 10, iv 10, iv 10, uS, uS] [(.int ((12 : Int32) + (0 : Int32))), (.ref oz), (.ref oa)]))
  rw [show ((12 : Int32) + (0 : Int32)) = (12 : Int32) from by decide +kernel]
  refine own_sC X7 hx hZ hown (own_W hw 83 rfl) (own_W hw 84 rfl) (own_W hw 85 rfl) (own_W hw 86 rfl) (by decide) (own_rm_cpy10 l Z a0 hw [] oz kz (3458764517041766401 : Int64) (0 : Int64) yp wp ya wa yb wb yc wc h0 n0 Z0 V_oz) 1 (by decide) (by decide) e7 rfl (by rw [hml]; rfl) [(.ref oz), (.int 12)] [(.ref oa)] (lenOf own_pd5 rfl) rfl (Nat.le_of_eq rfl) (hb hby d10_79) rfl (by decide) (by decide) ?_
  rintro T8 Lc8 _ X8 ⟨r8, kb8, rfl, N8q, K8q, c8_1, c8_2⟩
  have N8 := Fr.app N4 N8q
  have E_oa_8 := E_oa.keep K8q
  have F_oa_cells_8 := F_oa_cells.keep K8q nin0
  have F_oa_sets_8 := F_oa_sets.keep K8q nin0
  have V_oz_8 := V_oz.keep K8q nin0
  have E_ot_8 := E_ot.keep K8q
  have F_ot_buckets_8 := F_ot_buckets.keep K8q nin0
  have Z8 := Nat.le_trans Z0 K8q.1
  have K8 := K0.trans K8q all0
  have ne_oa_r8 : oa ≠ r8 := Nat.ne_of_lt (Nat.lt_of_lt_of_le F_oa_sets.lt c8_2)
  have ne_oz_r8 : oz ≠ r8 := Nat.ne_of_lt (Nat.lt_of_lt_of_le V_oz.lt c8_2)
  have ne_ot_r8 : ot ≠ r8 := Nat.ne_of_lt (Nat.lt_of_lt_of_le F_ot_buckets.lt c8_2)
  have g_r8 : n0 ≤ r8 := Nat.le_trans Z0 c8_2
  have sz_r8 : h0.size ≤ r8 := Nat.le_trans K0.1 c8_2
  obtain ⟨T9, h9, X9, e9, W9, st9⟩ := putF X8 hx hZ hown (host := "") (Or.inl (own_W hw 39 rfl)) Via.refl rfl F_oa_cells_8 E_oa_8 (Or.inl (own_W hw 40 rfl)) (own_W hw 16 rfl) (ty := (.array .long)) (by decide) rfl rfl (g := (mkF m 82 #[rv oa, iv 2, jv vb, sS, rv ot, iv 10, iv 10, iv 10, uS, uS] [(.ref r8), (.ref oa)])) rfl rfl (hb hby d10_82)
  refine own_Fin.go st9 ?_
  have F_oa_cells_9 := Fld.same W9 F_oa_cells_8
  have E_oa_9 := Exa.wr W9 E_oa_8
  have F_oa_sets_9 := Fld.other W9 F_oa_sets_8 (Or.inr (slot_ne (Or.inl (own_W hw 44 rfl)) (Or.inl (own_W hw 40 rfl)) (by decide) (t := (.array (.object "java/lang/Object"))) (t' := (.array .long)) (by decide) (by decide)))
  have V_oz_9 := Arv.other V_oz_8 W9 (Ne.symm ne_oa_oz)
  have E_ot_9 := Exa.wr W9 E_ot_8
  have F_ot_buckets_9 := Fld.other W9 F_ot_buckets_8 (Or.inl (Ne.symm ne_oa_ot))
  have V_r8_9 := Arv.other c8_1 W9 (Ne.symm ne_oa_r8)
  have Z9 := Nat.le_trans Z8 (Keep.of_wr W9).1
  have K9 := K8.wr W9 (Or.inl (List.mem_of_getElem? (i := 0) rfl))
  have N9 := Fr.snoc X9 N8 g_oa
  refine own_Fin.go (fun t k => XS.aloadN X9.here hx rfl (hb hby d10_85) rfl rfl k) ?_
  refine own_gF X9 hx hZ hown (own_W hw 39 rfl) e9 F_oa_cells_9 rfl rfl (hb hby d10_86) ?_
  intro T10 X10 e10
  refine own_Fin.go (fun t k => XS.iload X10.here hx rfl (hb hby d10_89) rfl (XS.aloadN X10.here hx rfl (hb hby d10_91) rfl rfl k)) ?_
  refine own_gF X10 hx hZ hown (own_W hw 39 rfl) e10 F_oa_cells_9 rfl rfl (hb hby d10_92) ?_
  intro T11 X11 e11
  show own_Fin _ _ _ _ _ _ _ (T11.setTop (mkF m 95 #[rv oa, iv 2, jv vb, sS, rv ot, iv 10, iv 10, iv 10, uS, uS] [(.ref r8), (.int 10), (.ref r8)]))
  refine own_Fin.go (fun t k => XS.iload X11.here hx rfl (hb hby d10_95) rfl (XS.iconst X11.here hx rfl (hb hby d10_97) (XS.iadd X11.here hx rfl (hb hby d10_98) rfl k))) ?_
  show own_Fin _ _ _ _ _ _ _ (T11.setTop (mkF m 99 #[rv oa, iv 2, jv vb, sS, rv ot, iv 10, iv 10, iv 10, uS, uS] [(.int ((10 : Int32) + (2 : Int32))), (.ref r8), (.int 10), (.ref r8)]))
  rw [show ((10 : Int32) + (2 : Int32)) = (12 : Int32) from by decide +kernel]
  refine own_Fin.go (fun t k => XS.iload X11.here hx rfl (hb hby d10_99) rfl (XS.iload X11.here hx rfl (hb hby d10_101) rfl (XS.isub X11.here hx rfl (hb hby d10_103) rfl k))) ?_
  show own_Fin _ _ _ _ _ _ _ (T11.setTop (mkF m 104 #[rv oa, iv 2, jv vb, sS, rv ot, iv 10, iv 10, iv 10, uS, uS] [(.int ((10 : Int32) - (10 : Int32))), (.int 12), (.ref r8), (.int 10), (.ref r8)]))
  rw [show ((10 : Int32) - (10 : Int32)) = (0 : Int32) from by decide +kernel]
  obtain ⟨T12, h12, L12, X12, e12, N12, K12q, V12c, st12⟩ := cpA X11 hx hZ hown (own_W hw 95 rfl) (own_W hw 94 rfl) (own_W hw 92 rfl) (own_W hw 93 rfl) e11 V_r8_9 V_r8_9 (us := []) (Or.inl ⟨rfl, rfl⟩) (by decide) (by decide) (by decide) (by decide) (by decide) rfl (Nat.le_of_ble_eq_true rfl) N9 g_r8 (g := (mkF m 104 #[rv oa, iv 2, jv vb, sS, rv ot, iv 10, iv 10, iv 10, uS, uS] [(.int 0), (.int 12), (.ref r8), (.int 10), (.ref r8)])) rfl (by rw [hml]; rfl) rfl (hb hby d10_104) (by decide) (W := 0) (Nat.le_of_eq rfl) (by decide)
  refine own_Fin.go st12 ?_
  have V_r8_12 : Arv Z h12 r8 kb8 .long (12 : Int32) [(.long 3458764517041766401), (.long 0), (.long yp), (.long wp), (.long ya), (.long wa), (.long yb), (.long wb), (.long yc), (.long wc), (.long 0), (.long 0)] (.long 0) := V12c
  have E_oa_12 := E_oa_9.keep K12q
  have F_oa_cells_12 := F_oa_cells_9.keep K12q (ninS ne_oa_r8 nin0)
  have F_oa_sets_12 := F_oa_sets_9.keep K12q (ninS ne_oa_r8 nin0)
  have E_ot_12 := E_ot_9.keep K12q
  have F_ot_buckets_12 := F_ot_buckets_9.keep K12q (ninS ne_ot_r8 nin0)
  have Z12 := Nat.le_trans Z9 K12q.1
  have K12 := K9.trans K12q (allS (Or.inr sz_r8) all0)
  refine own_Fin.go (fun t k => XS.aloadN X12.here hx rfl (hb hby d10_107) rfl rfl k) ?_
  refine own_gF X12 hx hZ hown (own_W hw 39 rfl) e12 F_oa_cells_12 rfl rfl (hb hby d10_108) ?_
  intro T13 X13 e13
  refine own_Fin.go (fun t k => XS.iload X13.here hx rfl (hb hby d10_111) rfl (XS.lloadN X13.here hx rfl (hb hby d10_113) rfl k)) ?_
  obtain ⟨cl14, Ar14, q14, S14, N14l, H14, G14⟩ := (id V_r8_12)
  have hin14 : ¬ ((10 : Int32) < 0 ∨ cl14.slots.size ≤ ((10 : Int32)).toNatClampNeg) := inb_of S14 ⟨by decide, by decide⟩
  obtain ⟨T14, h14, X14, e14, W14, st14⟩ := stJ X13 hx hZ e13 Ar14 (j := (10 : Int32)) hin14 (g := (mkF m 114 #[rv oa, iv 2, jv vb, sS, rv ot, iv 10, iv 10, iv 10, uS, uS] [(.long vb), (.int 10), (.ref r8)])) rfl rfl (hb hby d10_114)
  refine own_Fin.go st14 ?_
  have V_r8_14 := Arv.set Ar14 q14 S14 N14l H14 G14 rfl W14 10 rfl (Nat.le_of_ble_eq_true rfl)
  replace V_r8_14 : Arv Z h14 r8 kb8 .long (12 : Int32) [(.long 3458764517041766401), (.long 0), (.long yp), (.long wp), (.long ya), (.long wa), (.long yb), (.long wb), (.long yc), (.long wc), (.long vb), (.long 0)] (.long 0) := V_r8_14
  have E_oa_14 := Exa.wr W14 E_oa_12
  have F_oa_cells_14 := Fld.other W14 F_oa_cells_12 (Or.inl ne_oa_r8)
  have F_oa_sets_14 := Fld.other W14 F_oa_sets_12 (Or.inl ne_oa_r8)
  have E_ot_14 := Exa.wr W14 E_ot_12
  have F_ot_buckets_14 := Fld.other W14 F_ot_buckets_12 (Or.inl ne_ot_r8)
  have Z14 := Nat.le_trans Z12 (Keep.of_wr W14).1
  have K14 := K12.wr W14 (Or.inr sz_r8)
  have N14 := Fr.snoc X14 N12 g_r8
  show own_Fin _ _ _ _ _ _ _ (T14.setTop (mkF m 115 #[rv oa, iv 2, jv vb, sS, rv ot, iv 10, iv 10, iv 10, uS, uS] []))
  refine own_Fin.go (fun t k => XS.aloadN X14.here hx rfl (hb hby d10_115) rfl rfl k) ?_
  refine own_gF X14 hx hZ hown (own_W hw 39 rfl) e14 F_oa_cells_14 rfl rfl (hb hby d10_116) ?_
  intro T15 X15 e15
  refine own_Fin.go (fun t k => XS.iload X15.here hx rfl (hb hby d10_119) rfl (XS.iconst X15.here hx rfl (hb hby d10_121) (XS.iadd X15.here hx rfl (hb hby d10_122) rfl k))) ?_
  show own_Fin _ _ _ _ _ _ _ (T15.setTop (mkF m 123 #[rv oa, iv 2, jv vb, sS, rv ot, iv 10, iv 10, iv 10, uS, uS] [(.int ((10 : Int32) + (1 : Int32))), (.ref r8)]))
  rw [show ((10 : Int32) + (1 : Int32)) = (11 : Int32) from by decide +kernel]
  refine own_Fin.go (fun t k => XS.lconst X15.here hx rfl (hb hby d10_123) k) ?_
  obtain ⟨cl16, Ar16, q16, S16, N16l, H16, G16⟩ := (id V_r8_14)
  have hin16 : ¬ ((11 : Int32) < 0 ∨ cl16.slots.size ≤ ((11 : Int32)).toNatClampNeg) := inb_of S16 ⟨by decide, by decide⟩
  obtain ⟨T16, h16, X16, e16, W16, st16⟩ := stJ X15 hx hZ e15 Ar16 (j := (11 : Int32)) hin16 (g := (mkF m 124 #[rv oa, iv 2, jv vb, sS, rv ot, iv 10, iv 10, iv 10, uS, uS] [(.long 0), (.int 11), (.ref r8)])) rfl rfl (hb hby d10_124)
  refine own_Fin.go st16 ?_
  have V_r8_16 := Arv.set Ar16 q16 S16 N16l H16 G16 rfl W16 11 rfl (Nat.le_of_ble_eq_true rfl)
  replace V_r8_16 : Arv Z h16 r8 kb8 .long (12 : Int32) [(.long 3458764517041766401), (.long 0), (.long yp), (.long wp), (.long ya), (.long wa), (.long yb), (.long wb), (.long yc), (.long wc), (.long vb), (.long 0)] (.long 0) := V_r8_16
  have E_oa_16 := Exa.wr W16 E_oa_14
  have F_oa_cells_16 := Fld.other W16 F_oa_cells_14 (Or.inl ne_oa_r8)
  have F_oa_sets_16 := Fld.other W16 F_oa_sets_14 (Or.inl ne_oa_r8)
  have E_ot_16 := Exa.wr W16 E_ot_14
  have F_ot_buckets_16 := Fld.other W16 F_ot_buckets_14 (Or.inl ne_ot_r8)
  have Z16 := Nat.le_trans Z14 (Keep.of_wr W16).1
  have K16 := K14.wr W16 (Or.inr sz_r8)
  have N16 := Fr.snoc X16 N14 g_r8
  refine own_Fin.go (fun t k => XS.aloadN X16.here hx rfl (hb hby d10_125) rfl rfl k) ?_
  refine own_gF X16 hx hZ hown (own_W hw 43 rfl) e16 F_oa_sets_16 rfl rfl (hb hby d10_126) ?_
  intro T17 X17 e17
  refine own_Fin.go (fun t k => XS.ifnullYes X17.here hx rfl (pc0 := 129) (pc' := 216) rfl (hb hby d10_129) rfl (by decide) (by decide) k) ?_
  show own_Fin _ _ _ _ _ _ _ (T17.setTop (mkF m 216 #[rv oa, iv 2, jv vb, sS, rv ot, iv 10, iv 10, iv 10, uS, uS] []))
  refine own_Fin.go (fun t k => XS.aloadN X17.here hx rfl (hb hby d10_216) rfl rfl (XS.iloadN X17.here hx rfl (hb hby d10_217) rfl (XS.aloadN X17.here hx rfl (hb hby d10_218) rfl rfl (XS.iloadN X17.here hx rfl (hb hby d10_219) rfl k)))) ?_
  refine own_pC X17 hx hZ hown (own_W hw 70 rfl) (own_W hw 71 rfl) (own_W hw 48 rfl) rfl (own_W hw 72 rfl) (own_W hw 73 rfl) (own_W hw 17 rfl) (by decide) (own_rm_len2 l Z a0 hw [] oa r8 kb8 (12 : Int32) (3458764517041766401 : Int64) (0 : Int64) ([(.long yp), (.long wp), (.long ya), (.long wa), (.long yb), (.long wb), (.long yc), (.long wc), (.long vb), (.long 0)]) h16 n0 Z16 F_oa_cells_16 V_r8_16 (by decide)) 2 (by decide) (by decide) e17 E_oa_16 rfl (by rw [hml]; rfl) [(.int 2)] (lenOf own_pd1 rfl) rfl (Nat.le_of_eq rfl) (hb hby d10_220) rfl (by decide) (by decide) ?_
  rintro T18 Lc18 _ X18 ⟨rfl, N18q, e18⟩
  have N18 := Fr.app N16 N18q
  show own_Fin _ _ _ _ _ _ _ (T18.setTop (mkF m 223 #[rv oa, iv 2, jv vb, sS, rv ot, iv 10, iv 10, iv 10, uS, uS] [(.int (own_lena (0 : Int64))), (.int 2), (.ref oa)]))
  rw [show (own_lena (0 : Int64)) = (0 : Int32) from by decide +kernel]
  refine own_Fin.go (fun t k => XS.iconst X18.here hx rfl (hb hby d10_223) (XS.iadd X18.here hx rfl (hb hby d10_224) rfl k)) ?_
  show own_Fin _ _ _ _ _ _ _ (T18.setTop (mkF m 225 #[rv oa, iv 2, jv vb, sS, rv ot, iv 10, iv 10, iv 10, uS, uS] [(.int ((0 : Int32) + (1 : Int32))), (.int 2), (.ref oa)]))
  rw [show ((0 : Int32) + (1 : Int32)) = (1 : Int32) from by decide +kernel]
  refine own_pC X18 hx hZ hown (own_W hw 96 rfl) (own_W hw 97 rfl) (own_W hw 48 rfl) rfl (own_W hw 98 rfl) (own_W hw 99 rfl) (own_W hw 17 rfl) (by decide) (own_rm_sl2 l Z a0 hw [] oa (1 : Int32) r8 kb8 (12 : Int32) (3458764517041766401 : Int64) (0 : Int64) ([(.long yp), (.long wp), (.long ya), (.long wa), (.long yb), (.long wb), (.long yc), (.long wc), (.long vb), (.long 0)]) h16 n0 Z16 F_oa_cells_16 V_r8_16 (by decide) g_r8 ne_oa_r8) 0 (by decide) (by decide) e18 E_oa_16 rfl (by rw [hml]; rfl) [(.int 2), (.int 1)] (lenOf own_pd6 rfl) rfl (Nat.le_of_eq rfl) (hb hby d10_225) rfl (by decide) (by decide) ?_
  rintro T19 Lc19 _ X19 ⟨rfl, N19q, K19q, c19_1⟩
  have N19 := Fr.app N18 N19q
  have E_oa_19 := E_oa_16.keep K19q
  have F_oa_cells_19 := F_oa_cells_16.keep K19q (ninS ne_oa_r8 nin0)
  have F_oa_sets_19 := F_oa_sets_16.keep K19q (ninS ne_oa_r8 nin0)
  have E_ot_19 := E_ot_16.keep K19q
  have F_ot_buckets_19 := F_ot_buckets_16.keep K19q (ninS ne_ot_r8 nin0)
  have Z19 := Nat.le_trans Z16 K19q.1
  have K19 := K16.trans K19q (allS (Or.inr sz_r8) all0)
  rw [show (own_sla (0 : Int64) (1 : Int32)) = (1 : Int64) from by decide +kernel] at c19_1
  refine own_Fin.go (fun t k => XS.aload X19.here hx rfl (hb hby d10_228) rfl rfl (XS.dup X19.here hx rfl (hb hby d10_230) rfl rfl k)) ?_
  refine own_gF X19 hx hZ hown (own_W hw 101 rfl) rfl F_ot_buckets_19 rfl rfl (hb hby d10_231) ?_
  intro T20 X20 e20
  refine own_Fin.go (fun t k => XS.lconst X20.here hx rfl (hb hby d10_234) (XS.ladd X20.here hx rfl (hb hby d10_235) rfl k)) ?_
  obtain ⟨T21, h21, X21, e21, W21, st21⟩ := putF X20 hx hZ hown (host := "") (Or.inl (own_W hw 101 rfl)) Via.refl e20 F_ot_buckets_19 E_ot_19 (Or.inl (own_W hw 102 rfl)) (own_W hw 7 rfl) (ty := .long) (by decide) rfl rfl (g := (mkF m 236 #[rv oa, iv 2, jv vb, sS, rv ot, iv 10, iv 10, iv 10, uS, uS] [(.long (ub + (1 : Int64))), (.ref ot)])) rfl rfl (hb hby d10_236)
  refine own_Fin.go st21 ?_
  have F_ot_buckets_21 := Fld.same W21 F_ot_buckets_19
  have E_oa_21 := Exa.wr W21 E_oa_19
  have F_oa_cells_21 := Fld.other W21 F_oa_cells_19 (Or.inl ne_oa_ot)
  have F_oa_sets_21 := Fld.other W21 F_oa_sets_19 (Or.inl ne_oa_ot)
  have E_ot_21 := Exa.wr W21 E_ot_19
  have V_r8_21 := Arv.other c19_1 W21 (Ne.symm ne_ot_r8)
  have Z21 := Nat.le_trans Z19 (Keep.of_wr W21).1
  have K21 := K19.wr W21 (Or.inl (List.mem_of_getElem? (i := 1) rfl))
  have N21 := Fr.snoc X21 N19 g_ot
  show own_Fin _ _ _ _ _ _ _ (T21.setTop (mkF m 239 #[rv oa, iv 2, jv vb, sS, rv ot, iv 10, iv 10, iv 10, uS, uS] []))
  refine own_Fin.go (fun t k => XS.iload X21.here hx rfl (hb hby d10_239) rfl k) ?_
  refine own_retI X21 hx Bd.returns (hb hby d10_241) Bd.notSynchronized (by decide) (by decide) ?_
  rw [e21]
  exact ⟨r8, kb8, rfl, N21, K21, E_oa_21, F_oa_cells_21, F_oa_sets_21, V_r8_21, E_ot_21, F_ot_buckets_21, sz_r8, ne_oa_r8, ne_ot_r8⟩
theorem own_ef_adE3 (m : MethodId) (oa : Addr) (vb : Int64) (va : Int64) (ot : Addr) : entryFrame m #[(.ref oa), (.int 2), (.long vb), (.long va), (.ref ot)] 8 = mkF m 0 #[rv oa, iv 2, jv vb, sS, jv va, sS, rv ot, uS] [] := by first | (simp [entryFrame, mkF, argsToLocals, Value.category]; done) | rfl
def own_Q_adE3 (Z : State) (oa : Addr) (vb : Int64) (va : Int64) (ot : Addr) (oz : Addr) (kz : ClassId) (yp : Int64) (wp : Int64) (ya : Int64) (wa : Int64) (yb : Int64) (wb : Int64) (yc : Int64) (wc : Int64) (ub : Int64) (h0 : Heap) (n0 : Nat) (v : Option Value) (h : Heap) (L : List Loc) : Prop := ∃ ob : Addr, ∃ kb : ClassId, v = none ∧ Fr n0 L ∧ Keep h0 h [oa, ot, oz] ∧ Exa Z h oa own_k0 ∧ Fld Z h oa own_k0 "cells" "[J" (.ref ob) ∧ Fld Z h oa own_k0 "sets" "[Ljava/lang/Object;" .null ∧ Arv Z h ob kb .long (12 : Int32) [(.long 3458764517041766401), (.long 1), (.long yp), (.long wp), (.long ya), (.long wa), (.long yb), (.long wb), (.long yc), (.long wc), (.long vb), (.long (own_sat (0 : Int64) va))] (.long 0) ∧ Exa Z h ot own_k2 ∧ Fld Z h ot own_k2 "buckets" "J" (.long (ub + (1 : Int64))) ∧ h0.size ≤ ob ∧ oa ≠ ob ∧ ot ≠ ob
set_option maxRecDepth 65536 in
set_option maxHeartbeats 40000000 in
theorem own_rm_adE3 (l : Launch) (Z : State) (a0 : Array Value) (hw : ∀ d ∈ tables_1, d.before a0 Z = true) (ws : List Jvm.Cond) (oa : Addr) (vb : Int64) (va : Int64) (ot : Addr) (oz : Addr) (kz : ClassId) (yp : Int64) (wp : Int64) (ya : Int64) (wa : Int64) (yb : Int64) (wb : Int64) (yc : Int64) (wc : Int64) (ub : Int64) (h0 : Heap) (n0 : Nat) (Z0 : n0 ≤ h0.size) (E_oa : Exa Z h0 oa own_k0) (F_oa_cells : Fld Z h0 oa own_k0 "cells" "[J" (.ref oz)) (F_oa_sets : Fld Z h0 oa own_k0 "sets" "[Ljava/lang/Object;" .null) (V_oz : Arv Z h0 oz kz .long (10 : Int32) [(.long 3458764517041766401), (.long 0), (.long yp), (.long wp), (.long ya), (.long wa), (.long yb), (.long wb), (.long yc), (.long wc)] (.long 0)) (E_ot : Exa Z h0 ot own_k2) (F_ot_buckets : Fld Z h0 ot own_k2 "buckets" "J" (.long ub)) (g_oa : n0 ≤ oa) (g_oz : n0 ≤ oz) (g_ot : n0 ≤ ot) (ne_oa_ot : oa ≠ ot) (ne_oa_oz : oa ≠ oz) (ne_ot_oz : ot ≠ oz) :
    MetFree l own_y17 (head1 (Jvm.Cond.code own_y17 prog_4_method_4_code 8 none :: ws) ({ frames := 5, cells := 1, slots := 12, locals := 76 } : Room)) (fun a U => a = #[(.ref oa), (.int 2), (.long vb), (.long va), (.ref ot)] ∧ Z.Warmed39 U.vm ∧ U.heap = h0) (fun _ _ _ _ _ => True) (fun _ U o U' => ∃ v L, o = .returned v ∧ own_Q_adE3 Z oa vb va ot oz kz yp wp ya wa yb wb yc wc ub h0 n0 v U'.heap L ∧ FrameEnd U o U' L ({ frames := 5, cells := 1, slots := 12, locals := 76 } : Room).cells ({ frames := 5, cells := 1, slots := 12, locals := 76 } : Room).slots) := by
  refine MetFree.of_bodySF (plainFor_of_name own_pn0) hisR ?_
  intro p e s m args below meth c s₁ Bd hml0 hP hK
  obtain ⟨rfl, hZ, hh⟩ := hP
  have hx := Bd.exec
  have hby := Bd.bytes
  have hml : c.maxLocals = 8 := hml0
  have hown : s.vm.findClass own_k0 = some m.cls := findClass_of_methodNamed Bd.named
  have hnm := (name_of_methodNamed Bd.named Bd.method).1
  have X0 : Stand p l e ({ frames := 5, cells := 1, slots := 12, locals := 76 } : Room) s m #[(.ref oa), (.int 2), (.long vb), (.long va), (.ref ot)] below meth c s₁ [] 0 0 := Stand.of_body Bd
  have e0 : s₁.heap = h0 := by rw [← hh, Bd.state]; rfl
  have N0 := Fr.nil n0
  have K0 := Keep.refl h0 [oa, ot, oz]
  show own_Fin p e below s (own_Q_adE3 Z oa vb va ot oz kz yp wp ya wa yb wb yc wc ub h0 n0) ({ frames := 5, cells := 1, slots := 12, locals := 76 } : Room).cells ({ frames := 5, cells := 1, slots := 12, locals := 76 } : Room).slots (s₁.setTop (entryFrame m #[(.ref oa), (.int 2), (.long vb), (.long va), (.ref ot)] 8))
  refine own_Fin.go (fun t k => castTop (own_ef_adE3 m oa vb va ot) k) ?_
  refine own_Fin.go (fun t k => XS.aloadN X0.here hx rfl (hb hby d1_0) rfl rfl (XS.iloadN X0.here hx rfl (hb hby d1_1) rfl (XS.lloadN X0.here hx rfl (hb hby d1_2) rfl (XS.aload X0.here hx rfl (hb hby d1_3) rfl rfl k)))) ?_
  show own_Fin _ _ _ _ _ _ _ (s₁.setTop (mkF m 5 #[rv oa, iv 2, jv vb, sS, jv va, sS, rv ot, uS] [(.ref ot), (.long vb), (.int 2), (.ref oa)]))
  refine own_pC X0 hx hZ hown (own_W hw 50 rfl) (own_W hw 51 rfl) (own_W hw 48 rfl) rfl (own_W hw 52 rfl) (own_W hw 53 rfl) (own_W hw 17 rfl) (by decide) (own_rm_soE3 l Z a0 hw [] oa vb ot oz kz yp wp ya wa yb wb yc wc ub h0 n0 Z0 E_oa F_oa_cells F_oa_sets V_oz E_ot F_ot_buckets g_oa g_oz g_ot ne_oa_ot ne_oa_oz ne_ot_oz) 0 (by decide) (by decide) e0 E_oa rfl (by rw [hml]; rfl) [(.int 2), (.long vb), (.ref ot)] (lenOf own_pd7 rfl) rfl (Nat.le_of_eq rfl) (hb hby d1_5) rfl (by decide) (by decide) ?_
  rintro T1 Lc1 _ X1 ⟨ob1, kb1, rfl, N1q, K1q, c1_1, c1_2, c1_3, c1_4, c1_5, c1_6, c1_7, c1_8, c1_9⟩
  have N1 := Fr.app N0 N1q
  have Z1 := Nat.le_trans Z0 K1q.1
  have K1 := K0.trans K1q (allS (Or.inl (List.mem_of_getElem? (i := 0) rfl)) (allS (Or.inl (List.mem_of_getElem? (i := 1) rfl)) (allS (Or.inl (List.mem_of_getElem? (i := 2) rfl)) all0)))
  have ne_oa_ob1 : oa ≠ ob1 := Nat.ne_of_lt (Nat.lt_of_lt_of_le F_oa_sets.lt c1_7)
  have ne_oz_ob1 : oz ≠ ob1 := Nat.ne_of_lt (Nat.lt_of_lt_of_le V_oz.lt c1_7)
  have ne_ot_ob1 : ot ≠ ob1 := Nat.ne_of_lt (Nat.lt_of_lt_of_le F_ot_buckets.lt c1_7)
  have g_ob1 : n0 ≤ ob1 := Nat.le_trans Z0 c1_7
  have sz_ob1 : h0.size ≤ ob1 := Nat.le_trans K0.1 c1_7
  refine own_Fin.go (fun t k => XS.istore X1.here hx rfl (hb hby d1_8) rfl (l' := #[rv oa, iv 2, jv vb, sS, jv va, sS, rv ot, iv 10]) rfl (XS.aloadN X1.here hx rfl (hb hby d1_10) rfl rfl k)) ?_
  refine own_gF X1 hx hZ hown (own_W hw 39 rfl) rfl c1_2 rfl rfl (hb hby d1_11) ?_
  intro T2 X2 e2
  refine own_Fin.go (fun t k => XS.iload X2.here hx rfl (hb hby d1_14) rfl k) ?_
  show own_Fin _ _ _ _ _ _ _ (T2.setTop (mkF m 16 #[rv oa, iv 2, jv vb, sS, jv va, sS, rv ot, iv 10] [(.int 10), (.ref ob1)]))
  refine own_Fin.go (fun t k => XS.iconst X2.here hx rfl (hb hby d1_16) (XS.iadd X2.here hx rfl (hb hby d1_17) rfl k)) ?_
  show own_Fin _ _ _ _ _ _ _ (T2.setTop (mkF m 18 #[rv oa, iv 2, jv vb, sS, jv va, sS, rv ot, iv 10] [(.int ((10 : Int32) + (1 : Int32))), (.ref ob1)]))
  rw [show ((10 : Int32) + (1 : Int32)) = (11 : Int32) from by decide +kernel]
  refine own_Fin.go (fun t k => XS.aloadN X2.here hx rfl (hb hby d1_18) rfl rfl k) ?_
  refine own_gF X2 hx hZ hown (own_W hw 39 rfl) e2 c1_2 rfl rfl (hb hby d1_19) ?_
  intro T3 X3 e3
  refine own_Fin.go (fun t k => XS.iload X3.here hx rfl (hb hby d1_22) rfl (XS.iconst X3.here hx rfl (hb hby d1_24) (XS.iadd X3.here hx rfl (hb hby d1_25) rfl k))) ?_
  show own_Fin _ _ _ _ _ _ _ (T3.setTop (mkF m 26 #[rv oa, iv 2, jv vb, sS, jv va, sS, rv ot, iv 10] [(.int ((10 : Int32) + (1 : Int32))), (.ref ob1), (.int 11), (.ref ob1)]))
  rw [show ((10 : Int32) + (1 : Int32)) = (11 : Int32) from by decide +kernel]
  refine own_lal X3 hx hZ e3 c1_4 ⟨by decide, by decide⟩ (v := (0 : Int64)) rfl rfl rfl (hb hby d1_26) ?_
  refine own_Fin.go (fun t k => XS.lload X3.here hx rfl (hb hby d1_27) rfl k) ?_
  refine own_sC X3 hx hZ hown (own_W hw 103 rfl) (own_W hw 104 rfl) (own_W hw 17 rfl) (own_W hw 105 rfl) (by decide) (own_rm_sat l Z a0 hw [] (0 : Int64) va  T1.heap n0 Z1 ) 2 (by decide) (by decide) e3 rfl (by rw [hml]; rfl) [(.long 0), (.long va)] [(.int 11), (.ref ob1)] (lenOf own_pd8 rfl) rfl (Nat.le_of_eq rfl) (hb hby d1_29) rfl (by decide) (by decide) ?_
  rintro T5 Lc5 _ X5 ⟨rfl, N5q, e5⟩
  have N5 := Fr.app N1 N5q
  obtain ⟨cl6, Ar6, q6, S6, N6l, H6, G6⟩ := (id c1_4)
  have hin6 : ¬ ((11 : Int32) < 0 ∨ cl6.slots.size ≤ ((11 : Int32)).toNatClampNeg) := inb_of S6 ⟨by decide, by decide⟩
  obtain ⟨T6, h6, X6, e6, W6, st6⟩ := stJ X5 hx hZ e5 Ar6 (j := (11 : Int32)) hin6 (g := (mkF m 32 #[rv oa, iv 2, jv vb, sS, jv va, sS, rv ot, iv 10] [(.long (own_sat (0 : Int64) va)), (.int 11), (.ref ob1)])) rfl rfl (hb hby d1_32)
  refine own_Fin.go st6 ?_
  have V_ob1_6 := Arv.set Ar6 q6 S6 N6l H6 G6 rfl W6 11 rfl (Nat.le_of_ble_eq_true rfl)
  replace V_ob1_6 : Arv Z h6 ob1 kb1 .long (12 : Int32) [(.long 3458764517041766401), (.long 1), (.long yp), (.long wp), (.long ya), (.long wa), (.long yb), (.long wb), (.long yc), (.long wc), (.long vb), (.long (own_sat (0 : Int64) va))] (.long 0) := V_ob1_6
  have E_oa_6 := Exa.wr W6 c1_1
  have F_oa_cells_6 := Fld.other W6 c1_2 (Or.inl c1_8)
  have F_oa_sets_6 := Fld.other W6 c1_3 (Or.inl c1_8)
  have E_ot_6 := Exa.wr W6 c1_5
  have F_ot_buckets_6 := Fld.other W6 c1_6 (Or.inl c1_9)
  have Z6 := Nat.le_trans Z1 (Keep.of_wr W6).1
  have K6 := K1.wr W6 (Or.inr sz_ob1)
  have N6 := Fr.snoc X6 N5 g_ob1
  show own_Fin _ _ _ _ _ _ _ (T6.setTop (mkF m 33 #[rv oa, iv 2, jv vb, sS, jv va, sS, rv ot, iv 10] []))
  refine own_ret0 X6 hx Bd.returns (hb hby d1_33) Bd.notSynchronized (by decide) (by decide) ?_
  rw [e6]
  exact ⟨ob1, kb1, rfl, N6, K6, E_oa_6, F_oa_cells_6, F_oa_sets_6, V_ob1_6, E_ot_6, F_ot_buckets_6, sz_ob1, c1_8, c1_9⟩
theorem d12_0 : decode prog_4_method_6_code 0 = .ok (.aload_n 0, 1) := by decide +kernel
theorem d12_1 : decode prog_4_method_6_code 1 = .ok (.iload_n 1, 1) := by decide +kernel
theorem d12_2 : decode prog_4_method_6_code 2 = .ok (.invokevirtual 77, 3) := by decide +kernel
theorem d12_5 : decode prog_4_method_6_code 5 = .ok (.iconst 2, 1) := by decide +kernel
theorem d12_6 : decode prog_4_method_6_code 6 = .ok (.aload_n 0, 1) := by decide +kernel
theorem d12_7 : decode prog_4_method_6_code 7 = .ok (.iload_n 1, 1) := by decide +kernel
theorem d12_8 : decode prog_4_method_6_code 8 = .ok (.invokevirtual 80, 3) := by decide +kernel
theorem d12_11 : decode prog_4_method_6_code 11 = .ok (.imul, 1) := by decide +kernel
theorem d12_12 : decode prog_4_method_6_code 12 = .ok (.iadd, 1) := by decide +kernel
theorem d12_13 : decode prog_4_method_6_code 13 = .ok (.istore 6, 2) := by decide +kernel
theorem d12_15 : decode prog_4_method_6_code 15 = .ok (.lconst 0, 1) := by decide +kernel
theorem d12_16 : decode prog_4_method_6_code 16 = .ok (.lstore 7, 2) := by decide +kernel
theorem d12_18 : decode prog_4_method_6_code 18 = .ok (.aload_n 0, 1) := by decide +kernel
theorem d12_19 : decode prog_4_method_6_code 19 = .ok (.iload_n 1, 1) := by decide +kernel
theorem d12_20 : decode prog_4_method_6_code 20 = .ok (.lload_n 2, 1) := by decide +kernel
theorem d12_21 : decode prog_4_method_6_code 21 = .ok (.invokevirtual 83, 3) := by decide +kernel
theorem d12_24 : decode prog_4_method_6_code 24 = .ok (.istore 9, 2) := by decide +kernel
theorem d12_26 : decode prog_4_method_6_code 26 = .ok (.iload 9, 2) := by decide +kernel
theorem d12_28 : decode prog_4_method_6_code 28 = .ok (.iload 6, 2) := by decide +kernel
theorem d12_30 : decode prog_4_method_6_code 30 = .ok (.if_icmp .ge 38, 3) := by decide +kernel
theorem d12_33 : decode prog_4_method_6_code 33 = .ok (.aload_n 0, 1) := by decide +kernel
theorem d12_34 : decode prog_4_method_6_code 34 = .ok (.getfield 21, 3) := by decide +kernel
theorem d12_37 : decode prog_4_method_6_code 37 = .ok (.iload 9, 2) := by decide +kernel
theorem d12_39 : decode prog_4_method_6_code 39 = .ok (.laload, 1) := by decide +kernel
theorem d12_40 : decode prog_4_method_6_code 40 = .ok (.lload 4, 2) := by decide +kernel
theorem d12_42 : decode prog_4_method_6_code 42 = .ok (.lcmp, 1) := by decide +kernel
theorem d12_43 : decode prog_4_method_6_code 43 = .ok (.ifCond .gt 25, 3) := by decide +kernel
theorem d12_46 : decode prog_4_method_6_code 46 = .ok (.lload 7, 2) := by decide +kernel
theorem d12_48 : decode prog_4_method_6_code 48 = .ok (.aload_n 0, 1) := by decide +kernel
theorem d12_49 : decode prog_4_method_6_code 49 = .ok (.getfield 21, 3) := by decide +kernel
theorem d12_52 : decode prog_4_method_6_code 52 = .ok (.iload 9, 2) := by decide +kernel
theorem d12_54 : decode prog_4_method_6_code 54 = .ok (.iconst 1, 1) := by decide +kernel
theorem d12_55 : decode prog_4_method_6_code 55 = .ok (.iadd, 1) := by decide +kernel
theorem d12_56 : decode prog_4_method_6_code 56 = .ok (.laload, 1) := by decide +kernel
theorem d12_57 : decode prog_4_method_6_code 57 = .ok (.invokestatic 45, 3) := by decide +kernel
theorem d12_60 : decode prog_4_method_6_code 60 = .ok (.lstore 7, 2) := by decide +kernel
theorem d12_62 : decode prog_4_method_6_code 62 = .ok (.iinc 9 2, 3) := by decide +kernel
theorem d12_65 : decode prog_4_method_6_code 65 = .ok (.goto (-39), 3) := by decide +kernel
theorem d12_68 : decode prog_4_method_6_code 68 = .ok (.lload 7, 2) := by decide +kernel
theorem d12_70 : decode prog_4_method_6_code 70 = .ok (.lreturn, 1) := by decide +kernel
theorem own_ef_su1 (m : MethodId) (oa : Addr) (vf : Int64) (vl : Int64) : entryFrame m #[(.ref oa), (.int 1), (.long vf), (.long vl)] 10 = mkF m 0 #[rv oa, iv 1, jv vf, sS, jv vl, sS, uS, uS, uS, uS] [] := by first | (simp [entryFrame, mkF, argsToLocals, Value.category]; done) | rfl
def own_Q_su1 (Z : State) (oa : Addr) (vf : Int64) (vl : Int64) (oz : Addr) (kz : ClassId) (yp : Int64) (wp : Int64) (ya : Int64) (wa : Int64) (yq : Int64) (wq : Int64) (h0 : Heap) (n0 : Nat) (v : Option Value) (h : Heap) (L : List Loc) : Prop := v = some (.long (own_suma ya wa vf vl)) ∧ Fr n0 L ∧ h = h0
set_option maxRecDepth 65536 in
set_option maxHeartbeats 40000000 in
theorem own_rm_su1 (l : Launch) (Z : State) (a0 : Array Value) (hw : ∀ d ∈ tables_1, d.before a0 Z = true) (ws : List Jvm.Cond) (oa : Addr) (vf : Int64) (vl : Int64) (oz : Addr) (kz : ClassId) (yp : Int64) (wp : Int64) (ya : Int64) (wa : Int64) (yq : Int64) (wq : Int64) (h0 : Heap) (n0 : Nat) (Z0 : n0 ≤ h0.size) (E_oa : Exa Z h0 oa own_k0) (F_oa_cells : Fld Z h0 oa own_k0 "cells" "[J" (.ref oz)) (V_oz : Arv Z h0 oz kz .long (8 : Int32) [(.long 3458764514894282753), (.long 1), (.long yp), (.long wp), (.long ya), (.long wa), (.long yq), (.long wq)] (.long 0)) :
    MetFree l own_y18 (head1 (Jvm.Cond.code own_y18 prog_4_method_6_code 10 (some .long) :: ws) ({ frames := 4, cells := 0, slots := 0, locals := 55 } : Room)) (fun a U => a = #[(.ref oa), (.int 1), (.long vf), (.long vl)] ∧ Z.Warmed39 U.vm ∧ U.heap = h0) (fun _ _ _ _ _ => True) (fun _ U o U' => ∃ v L, o = .returned v ∧ own_Q_su1 Z oa vf vl oz kz yp wp ya wa yq wq h0 n0 v U'.heap L ∧ FrameEnd U o U' L ({ frames := 4, cells := 0, slots := 0, locals := 55 } : Room).cells ({ frames := 4, cells := 0, slots := 0, locals := 55 } : Room).slots) := by
  refine MetFree.of_bodySF (plainFor_of_name own_pn0) hisR ?_
  intro p e s m args below meth c s₁ Bd hml0 hP hK
  obtain ⟨rfl, hZ, hh⟩ := hP
  have hx := Bd.exec
  have hby := Bd.bytes
  have hml : c.maxLocals = 10 := hml0
  have hown : s.vm.findClass own_k0 = some m.cls := findClass_of_methodNamed Bd.named
  have hnm := (name_of_methodNamed Bd.named Bd.method).1
  have X0 : Stand p l e ({ frames := 4, cells := 0, slots := 0, locals := 55 } : Room) s m #[(.ref oa), (.int 1), (.long vf), (.long vl)] below meth c s₁ [] 0 0 := Stand.of_body Bd
  have e0 : s₁.heap = h0 := by rw [← hh, Bd.state]; rfl
  have N0 := Fr.nil n0
  show own_Fin p e below s (own_Q_su1 Z oa vf vl oz kz yp wp ya wa yq wq h0 n0) ({ frames := 4, cells := 0, slots := 0, locals := 55 } : Room).cells ({ frames := 4, cells := 0, slots := 0, locals := 55 } : Room).slots (s₁.setTop (entryFrame m #[(.ref oa), (.int 1), (.long vf), (.long vl)] 10))
  refine own_Fin.go (fun t k => castTop (own_ef_su1 m oa vf vl) k) ?_
  by_cases qya : ya < vf
  · show own_Fin _ _ _ _ _ _ _ (s₁.setTop (mkF m 0 #[rv oa, iv 1, jv vf, sS, jv vl, sS, uS, uS, uS, uS] []))
    refine own_Fin.go (fun t k => XS.aloadN X0.here hx rfl (hb hby d12_0) rfl rfl (XS.iloadN X0.here hx rfl (hb hby d12_1) rfl k)) ?_
    refine own_pC X0 hx hZ hown (own_W hw 58 rfl) (own_W hw 59 rfl) (own_W hw 48 rfl) rfl (own_W hw 60 rfl) (own_W hw 61 rfl) (own_W hw 17 rfl) (by decide) (own_rm_st1 l Z a0 hw [] oa oz kz (8 : Int32) (3458764514894282753 : Int64) (1 : Int64) ([(.long yp), (.long wp), (.long ya), (.long wa), (.long yq), (.long wq)]) h0 n0 Z0 E_oa F_oa_cells V_oz (by decide)) 0 (by decide) (by decide) e0 E_oa rfl (by rw [hml]; rfl) [(.int 1)] (lenOf own_pd1 rfl) rfl (Nat.le_of_eq rfl) (hb hby d12_2) rfl (by decide) (by decide) ?_
    rintro T1 Lc1 _ X1 ⟨rfl, N1q, e1⟩
    have N1 := Fr.app N0 N1q
    show own_Fin _ _ _ _ _ _ _ (T1.setTop (mkF m 5 #[rv oa, iv 1, jv vf, sS, jv vl, sS, uS, uS, uS, uS] [(.int (own_stb (3458764514894282753 : Int64)))]))
    rw [show (own_stb (3458764514894282753 : Int64)) = (4 : Int32) from by decide +kernel]
    refine own_Fin.go (fun t k => XS.iconst X1.here hx rfl (hb hby d12_5) (XS.aloadN X1.here hx rfl (hb hby d12_6) rfl rfl (XS.iloadN X1.here hx rfl (hb hby d12_7) rfl k))) ?_
    refine own_pC X1 hx hZ hown (own_W hw 70 rfl) (own_W hw 71 rfl) (own_W hw 48 rfl) rfl (own_W hw 72 rfl) (own_W hw 73 rfl) (own_W hw 17 rfl) (by decide) (own_rm_len1 l Z a0 hw [] oa oz kz (8 : Int32) (3458764514894282753 : Int64) (1 : Int64) ([(.long yp), (.long wp), (.long ya), (.long wa), (.long yq), (.long wq)]) h0 n0 Z0 F_oa_cells V_oz (by decide)) 2 (by decide) (by decide) e1 E_oa rfl (by rw [hml]; rfl) [(.int 1)] (lenOf own_pd1 rfl) rfl (Nat.le_of_eq rfl) (hb hby d12_8) rfl (by decide) (by decide) ?_
    rintro T2 Lc2 _ X2 ⟨rfl, N2q, e2⟩
    have N2 := Fr.app N1 N2q
    show own_Fin _ _ _ _ _ _ _ (T2.setTop (mkF m 11 #[rv oa, iv 1, jv vf, sS, jv vl, sS, uS, uS, uS, uS] [(.int (own_lenb (3458764514894282753 : Int64))), (.int 2), (.int 4)]))
    rw [show (own_lenb (3458764514894282753 : Int64)) = (1 : Int32) from by decide +kernel]
    refine own_Fin.go (fun t k => XS.imul X2.here hx rfl (hb hby d12_11) rfl k) ?_
    show own_Fin _ _ _ _ _ _ _ (T2.setTop (mkF m 12 #[rv oa, iv 1, jv vf, sS, jv vl, sS, uS, uS, uS, uS] [(.int ((2 : Int32) * (1 : Int32))), (.int 4)]))
    rw [show ((2 : Int32) * (1 : Int32)) = (2 : Int32) from by decide +kernel]
    refine own_Fin.go (fun t k => XS.iadd X2.here hx rfl (hb hby d12_12) rfl k) ?_
    show own_Fin _ _ _ _ _ _ _ (T2.setTop (mkF m 13 #[rv oa, iv 1, jv vf, sS, jv vl, sS, uS, uS, uS, uS] [(.int ((4 : Int32) + (2 : Int32)))]))
    rw [show ((4 : Int32) + (2 : Int32)) = (6 : Int32) from by decide +kernel]
    refine own_Fin.go (fun t k => XS.istore X2.here hx rfl (hb hby d12_13) rfl (l' := #[rv oa, iv 1, jv vf, sS, jv vl, sS, iv 6, uS, uS, uS]) rfl (XS.lconst X2.here hx rfl (hb hby d12_15) (XS.lstore X2.here hx rfl (hb hby d12_16) rfl (l' := #[rv oa, iv 1, jv vf, sS, jv vl, sS, iv 6, jv 0, sS, uS]) rfl (XS.aloadN X2.here hx rfl (hb hby d12_18) rfl rfl k)))) ?_
    refine own_Fin.go (fun t k => XS.iloadN X2.here hx rfl (hb hby d12_19) rfl (XS.lloadN X2.here hx rfl (hb hby d12_20) rfl k)) ?_
    refine own_pC X2 hx hZ hown (own_W hw 54 rfl) (own_W hw 55 rfl) (own_W hw 48 rfl) rfl (own_W hw 56 rfl) (own_W hw 57 rfl) (own_W hw 17 rfl) (by decide) (own_rm_ix1 l Z a0 hw [] oa vf oz kz (8 : Int32) (3458764514894282753 : Int64) (1 : Int64) yp wp ya wa ([(.long yq), (.long wq)]) h0 n0 Z0 E_oa F_oa_cells V_oz (by decide) (by decide) (by decide)) 0 (by decide) (by decide) e2 E_oa rfl (by rw [hml]; rfl) [(.int 1), (.long vf)] (lenOf own_pd4 rfl) rfl (Nat.le_of_eq rfl) (hb hby d12_21) rfl (by decide) (by decide) ?_
    rintro T3 Lc3 _ X3 ⟨rfl, N3q, e3⟩
    have N3 := Fr.app N2 N3q
    show own_Fin _ _ _ _ _ _ _ (T3.setTop (mkF m 24 #[rv oa, iv 1, jv vf, sS, jv vl, sS, iv 6, jv 0, sS, uS] [(.int (own_lb1 ya vf))]))
    rw [show (own_lb1 ya vf) = (6 : Int32) from by simp only [own_lb1, if_pos qya]]
    refine own_Fin.go (fun t k => XS.istore X3.here hx rfl (hb hby d12_24) rfl (l' := #[rv oa, iv 1, jv vf, sS, jv vl, sS, iv 6, jv 0, sS, iv 6]) rfl (XS.iload X3.here hx rfl (hb hby d12_26) rfl (XS.iload X3.here hx rfl (hb hby d12_28) rfl (XS.icmpYes X3.here hx rfl (pc0 := 30) (pc' := 68) rfl (hb hby d12_30) rfl (by decide) (by decide) (by decide) k)))) ?_
    refine own_Fin.go (fun t k => XS.lload X3.here hx rfl (hb hby d12_68) rfl k) ?_
    refine own_retJ X3 hx Bd.returns (hb hby d12_70) Bd.notSynchronized (by decide) (by decide) ?_
    rw [e3]
    exact ⟨by simp only [own_suma, own_run, if_pos qya], N3, rfl⟩
  · show own_Fin _ _ _ _ _ _ _ (s₁.setTop (mkF m 0 #[rv oa, iv 1, jv vf, sS, jv vl, sS, uS, uS, uS, uS] []))
    refine own_Fin.go (fun t k => XS.aloadN X0.here hx rfl (hb hby d12_0) rfl rfl (XS.iloadN X0.here hx rfl (hb hby d12_1) rfl k)) ?_
    refine own_pC X0 hx hZ hown (own_W hw 58 rfl) (own_W hw 59 rfl) (own_W hw 48 rfl) rfl (own_W hw 60 rfl) (own_W hw 61 rfl) (own_W hw 17 rfl) (by decide) (own_rm_st1 l Z a0 hw [] oa oz kz (8 : Int32) (3458764514894282753 : Int64) (1 : Int64) ([(.long yp), (.long wp), (.long ya), (.long wa), (.long yq), (.long wq)]) h0 n0 Z0 E_oa F_oa_cells V_oz (by decide)) 0 (by decide) (by decide) e0 E_oa rfl (by rw [hml]; rfl) [(.int 1)] (lenOf own_pd1 rfl) rfl (Nat.le_of_eq rfl) (hb hby d12_2) rfl (by decide) (by decide) ?_
    rintro T5 Lc5 _ X5 ⟨rfl, N5q, e5⟩
    have N5 := Fr.app N0 N5q
    show own_Fin _ _ _ _ _ _ _ (T5.setTop (mkF m 5 #[rv oa, iv 1, jv vf, sS, jv vl, sS, uS, uS, uS, uS] [(.int (own_stb (3458764514894282753 : Int64)))]))
    rw [show (own_stb (3458764514894282753 : Int64)) = (4 : Int32) from by decide +kernel]
    refine own_Fin.go (fun t k => XS.iconst X5.here hx rfl (hb hby d12_5) (XS.aloadN X5.here hx rfl (hb hby d12_6) rfl rfl (XS.iloadN X5.here hx rfl (hb hby d12_7) rfl k))) ?_
    refine own_pC X5 hx hZ hown (own_W hw 70 rfl) (own_W hw 71 rfl) (own_W hw 48 rfl) rfl (own_W hw 72 rfl) (own_W hw 73 rfl) (own_W hw 17 rfl) (by decide) (own_rm_len1 l Z a0 hw [] oa oz kz (8 : Int32) (3458764514894282753 : Int64) (1 : Int64) ([(.long yp), (.long wp), (.long ya), (.long wa), (.long yq), (.long wq)]) h0 n0 Z0 F_oa_cells V_oz (by decide)) 2 (by decide) (by decide) e5 E_oa rfl (by rw [hml]; rfl) [(.int 1)] (lenOf own_pd1 rfl) rfl (Nat.le_of_eq rfl) (hb hby d12_8) rfl (by decide) (by decide) ?_
    rintro T6 Lc6 _ X6 ⟨rfl, N6q, e6⟩
    have N6 := Fr.app N5 N6q
    show own_Fin _ _ _ _ _ _ _ (T6.setTop (mkF m 11 #[rv oa, iv 1, jv vf, sS, jv vl, sS, uS, uS, uS, uS] [(.int (own_lenb (3458764514894282753 : Int64))), (.int 2), (.int 4)]))
    rw [show (own_lenb (3458764514894282753 : Int64)) = (1 : Int32) from by decide +kernel]
    refine own_Fin.go (fun t k => XS.imul X6.here hx rfl (hb hby d12_11) rfl k) ?_
    show own_Fin _ _ _ _ _ _ _ (T6.setTop (mkF m 12 #[rv oa, iv 1, jv vf, sS, jv vl, sS, uS, uS, uS, uS] [(.int ((2 : Int32) * (1 : Int32))), (.int 4)]))
    rw [show ((2 : Int32) * (1 : Int32)) = (2 : Int32) from by decide +kernel]
    refine own_Fin.go (fun t k => XS.iadd X6.here hx rfl (hb hby d12_12) rfl k) ?_
    show own_Fin _ _ _ _ _ _ _ (T6.setTop (mkF m 13 #[rv oa, iv 1, jv vf, sS, jv vl, sS, uS, uS, uS, uS] [(.int ((4 : Int32) + (2 : Int32)))]))
    rw [show ((4 : Int32) + (2 : Int32)) = (6 : Int32) from by decide +kernel]
    refine own_Fin.go (fun t k => XS.istore X6.here hx rfl (hb hby d12_13) rfl (l' := #[rv oa, iv 1, jv vf, sS, jv vl, sS, iv 6, uS, uS, uS]) rfl (XS.lconst X6.here hx rfl (hb hby d12_15) (XS.lstore X6.here hx rfl (hb hby d12_16) rfl (l' := #[rv oa, iv 1, jv vf, sS, jv vl, sS, iv 6, jv 0, sS, uS]) rfl (XS.aloadN X6.here hx rfl (hb hby d12_18) rfl rfl k)))) ?_
    refine own_Fin.go (fun t k => XS.iloadN X6.here hx rfl (hb hby d12_19) rfl (XS.lloadN X6.here hx rfl (hb hby d12_20) rfl k)) ?_
    refine own_pC X6 hx hZ hown (own_W hw 54 rfl) (own_W hw 55 rfl) (own_W hw 48 rfl) rfl (own_W hw 56 rfl) (own_W hw 57 rfl) (own_W hw 17 rfl) (by decide) (own_rm_ix1 l Z a0 hw [] oa vf oz kz (8 : Int32) (3458764514894282753 : Int64) (1 : Int64) yp wp ya wa ([(.long yq), (.long wq)]) h0 n0 Z0 E_oa F_oa_cells V_oz (by decide) (by decide) (by decide)) 0 (by decide) (by decide) e6 E_oa rfl (by rw [hml]; rfl) [(.int 1), (.long vf)] (lenOf own_pd4 rfl) rfl (Nat.le_of_eq rfl) (hb hby d12_21) rfl (by decide) (by decide) ?_
    rintro T7 Lc7 _ X7 ⟨rfl, N7q, e7⟩
    have N7 := Fr.app N6 N7q
    show own_Fin _ _ _ _ _ _ _ (T7.setTop (mkF m 24 #[rv oa, iv 1, jv vf, sS, jv vl, sS, iv 6, jv 0, sS, uS] [(.int (own_lb1 ya vf))]))
    rw [show (own_lb1 ya vf) = (4 : Int32) from by simp only [own_lb1, if_neg qya]]
    refine own_Fin.go (fun t k => XS.istore X7.here hx rfl (hb hby d12_24) rfl (l' := #[rv oa, iv 1, jv vf, sS, jv vl, sS, iv 6, jv 0, sS, iv 4]) rfl (XS.iload X7.here hx rfl (hb hby d12_26) rfl (XS.iload X7.here hx rfl (hb hby d12_28) rfl (XS.icmpNo X7.here hx rfl (hb hby d12_30) rfl (by decide) k)))) ?_
    refine own_Fin.go (fun t k => XS.aloadN X7.here hx rfl (hb hby d12_33) rfl rfl k) ?_
    refine own_gF X7 hx hZ hown (own_W hw 39 rfl) e7 F_oa_cells rfl rfl (hb hby d12_34) ?_
    intro T9 X9 e9
    show own_Fin _ _ _ _ _ _ _ (T9.setTop (mkF m 37 #[rv oa, iv 1, jv vf, sS, jv vl, sS, iv 6, jv 0, sS, iv 4] [(.ref oz)]))
    refine own_Fin.go (fun t k => XS.iload X9.here hx rfl (hb hby d12_37) rfl k) ?_
    refine own_lal X9 hx hZ e9 V_oz ⟨by decide, by decide⟩ (v := ya) rfl rfl rfl (hb hby d12_39) ?_
    refine own_Fin.go (fun t k => XS.lload X9.here hx rfl (hb hby d12_40) rfl (XS.lcmp X9.here hx rfl (hb hby d12_42) rfl k)) ?_
    by_cases hc43_11 : vl < ya
    · refine own_Fin.go (fun t k => XS.ifYes X9.here hx rfl (pc0 := 43) (pc' := 68) rfl (hb hby d12_43) rfl (Jvm.Free.XT.ll_gt_t hc43_11) (by decide) (by decide) k) ?_
      show own_Fin _ _ _ _ _ _ _ (T9.setTop (mkF m 68 #[rv oa, iv 1, jv vf, sS, jv vl, sS, iv 6, jv 0, sS, iv 4] []))
      refine own_Fin.go (fun t k => XS.lload X9.here hx rfl (hb hby d12_68) rfl k) ?_
      refine own_retJ X9 hx Bd.returns (hb hby d12_70) Bd.notSynchronized (by decide) (by decide) ?_
      rw [e9]
      exact ⟨by simp only [own_suma, own_run, if_neg qya, if_pos hc43_11], N7, rfl⟩
    · refine own_Fin.go (fun t k => XS.ifNo X9.here hx rfl (hb hby d12_43) rfl (Jvm.Free.XT.ll_gt_f hc43_11) k) ?_
      show own_Fin _ _ _ _ _ _ _ (T9.setTop (mkF m 46 #[rv oa, iv 1, jv vf, sS, jv vl, sS, iv 6, jv 0, sS, iv 4] []))
      refine own_Fin.go (fun t k => XS.lload X9.here hx rfl (hb hby d12_46) rfl (XS.aloadN X9.here hx rfl (hb hby d12_48) rfl rfl k)) ?_
      refine own_gF X9 hx hZ hown (own_W hw 39 rfl) e9 F_oa_cells rfl rfl (hb hby d12_49) ?_
      intro T12 X12 e12
      refine own_Fin.go (fun t k => XS.iload X12.here hx rfl (hb hby d12_52) rfl (XS.iconst X12.here hx rfl (hb hby d12_54) (XS.iadd X12.here hx rfl (hb hby d12_55) rfl k))) ?_
      show own_Fin _ _ _ _ _ _ _ (T12.setTop (mkF m 56 #[rv oa, iv 1, jv vf, sS, jv vl, sS, iv 6, jv 0, sS, iv 4] [(.int ((4 : Int32) + (1 : Int32))), (.ref oz), (.long 0)]))
      rw [show ((4 : Int32) + (1 : Int32)) = (5 : Int32) from by decide +kernel]
      refine own_lal X12 hx hZ e12 V_oz ⟨by decide, by decide⟩ (v := wa) rfl rfl rfl (hb hby d12_56) ?_
      refine own_sC X12 hx hZ hown (own_W hw 103 rfl) (own_W hw 104 rfl) (own_W hw 17 rfl) (own_W hw 105 rfl) (by decide) (own_rm_sat l Z a0 hw [] (0 : Int64) wa  h0 n0 Z0 ) 0 (by decide) (by decide) e12 rfl (by rw [hml]; rfl) [(.long 0), (.long wa)] [] (lenOf own_pd8 rfl) rfl (Nat.le_of_eq rfl) (hb hby d12_57) rfl (by decide) (by decide) ?_
      rintro T14 Lc14 _ X14 ⟨rfl, N14q, e14⟩
      have N14 := Fr.app N7 N14q
      refine own_Fin.go (fun t k => XS.lstore X14.here hx rfl (hb hby d12_60) rfl (l' := #[rv oa, iv 1, jv vf, sS, jv vl, sS, iv 6, .val (.long (own_sat (0 : Int64) wa)), sS, iv 4]) rfl (XS.iinc X14.here hx rfl (hb hby d12_62) rfl (l' := #[rv oa, iv 1, jv vf, sS, jv vl, sS, iv 6, .val (.long (own_sat (0 : Int64) wa)), sS, .val (.int ((4 : Int32) + (2 : Int32)))]) rfl k)) ?_
      show own_Fin _ _ _ _ _ _ _ (T14.setTop (mkF m 65 #[rv oa, iv 1, jv vf, sS, jv vl, sS, iv 6, .val (.long (own_sat (0 : Int64) wa)), sS, .val (.int ((4 : Int32) + (2 : Int32)))] []))
      rw [show ((4 : Int32) + (2 : Int32)) = (6 : Int32) from by decide +kernel]
      refine own_Fin.go (fun t k => XS.goto X14.here hx rfl (pc0 := 65) (pc' := 26) rfl (hb hby d12_65) (by decide) (by decide) (XS.iload X14.here hx rfl (hb hby d12_26) rfl (XS.iload X14.here hx rfl (hb hby d12_28) rfl (XS.icmpYes X14.here hx rfl (pc0 := 30) (pc' := 68) rfl (hb hby d12_30) rfl (by decide) (by decide) (by decide) k)))) ?_
      refine own_Fin.go (fun t k => XS.lload X14.here hx rfl (hb hby d12_68) rfl k) ?_
      refine own_retJ X14 hx Bd.returns (hb hby d12_70) Bd.notSynchronized (by decide) (by decide) ?_
      rw [e14]
      exact ⟨by simp only [own_suma, own_run, if_neg qya, if_neg hc43_11], N14, rfl⟩
theorem own_ef_su2 (m : MethodId) (oa : Addr) (vf : Int64) (vl : Int64) : entryFrame m #[(.ref oa), (.int 1), (.long vf), (.long vl)] 10 = mkF m 0 #[rv oa, iv 1, jv vf, sS, jv vl, sS, uS, uS, uS, uS] [] := by first | (simp [entryFrame, mkF, argsToLocals, Value.category]; done) | rfl
def own_Q_su2 (Z : State) (oa : Addr) (vf : Int64) (vl : Int64) (oz : Addr) (kz : ClassId) (yp : Int64) (wp : Int64) (ya : Int64) (wa : Int64) (yb : Int64) (wb : Int64) (yq : Int64) (wq : Int64) (h0 : Heap) (n0 : Nat) (v : Option Value) (h : Heap) (L : List Loc) : Prop := v = some (.long (own_sumb ya wa yb wb vf vl)) ∧ Fr n0 L ∧ h = h0
set_option maxRecDepth 65536 in
set_option maxHeartbeats 40000000 in
theorem own_rm_su2 (l : Launch) (Z : State) (a0 : Array Value) (hw : ∀ d ∈ tables_1, d.before a0 Z = true) (ws : List Jvm.Cond) (oa : Addr) (vf : Int64) (vl : Int64) (oz : Addr) (kz : ClassId) (yp : Int64) (wp : Int64) (ya : Int64) (wa : Int64) (yb : Int64) (wb : Int64) (yq : Int64) (wq : Int64) (h0 : Heap) (n0 : Nat) (Z0 : n0 ≤ h0.size) (E_oa : Exa Z h0 oa own_k0) (F_oa_cells : Fld Z h0 oa own_k0 "cells" "[J" (.ref oz)) (V_oz : Arv Z h0 oz kz .long (10 : Int32) [(.long 3458764515968024577), (.long 1), (.long yp), (.long wp), (.long ya), (.long wa), (.long yb), (.long wb), (.long yq), (.long wq)] (.long 0)) :
    MetFree l own_y18 (head1 (Jvm.Cond.code own_y18 prog_4_method_6_code 10 (some .long) :: ws) ({ frames := 4, cells := 0, slots := 0, locals := 55 } : Room)) (fun a U => a = #[(.ref oa), (.int 1), (.long vf), (.long vl)] ∧ Z.Warmed39 U.vm ∧ U.heap = h0) (fun _ _ _ _ _ => True) (fun _ U o U' => ∃ v L, o = .returned v ∧ own_Q_su2 Z oa vf vl oz kz yp wp ya wa yb wb yq wq h0 n0 v U'.heap L ∧ FrameEnd U o U' L ({ frames := 4, cells := 0, slots := 0, locals := 55 } : Room).cells ({ frames := 4, cells := 0, slots := 0, locals := 55 } : Room).slots) := by
  refine MetFree.of_bodySF (plainFor_of_name own_pn0) hisR ?_
  intro p e s m args below meth c s₁ Bd hml0 hP hK
  obtain ⟨rfl, hZ, hh⟩ := hP
  have hx := Bd.exec
  have hby := Bd.bytes
  have hml : c.maxLocals = 10 := hml0
  have hown : s.vm.findClass own_k0 = some m.cls := findClass_of_methodNamed Bd.named
  have hnm := (name_of_methodNamed Bd.named Bd.method).1
  have X0 : Stand p l e ({ frames := 4, cells := 0, slots := 0, locals := 55 } : Room) s m #[(.ref oa), (.int 1), (.long vf), (.long vl)] below meth c s₁ [] 0 0 := Stand.of_body Bd
  have e0 : s₁.heap = h0 := by rw [← hh, Bd.state]; rfl
  have N0 := Fr.nil n0
  show own_Fin p e below s (own_Q_su2 Z oa vf vl oz kz yp wp ya wa yb wb yq wq h0 n0) ({ frames := 4, cells := 0, slots := 0, locals := 55 } : Room).cells ({ frames := 4, cells := 0, slots := 0, locals := 55 } : Room).slots (s₁.setTop (entryFrame m #[(.ref oa), (.int 1), (.long vf), (.long vl)] 10))
  refine own_Fin.go (fun t k => castTop (own_ef_su2 m oa vf vl) k) ?_
  by_cases qyb : yb < vf
  · show own_Fin _ _ _ _ _ _ _ (s₁.setTop (mkF m 0 #[rv oa, iv 1, jv vf, sS, jv vl, sS, uS, uS, uS, uS] []))
    refine own_Fin.go (fun t k => XS.aloadN X0.here hx rfl (hb hby d12_0) rfl rfl (XS.iloadN X0.here hx rfl (hb hby d12_1) rfl k)) ?_
    refine own_pC X0 hx hZ hown (own_W hw 58 rfl) (own_W hw 59 rfl) (own_W hw 48 rfl) rfl (own_W hw 60 rfl) (own_W hw 61 rfl) (own_W hw 17 rfl) (by decide) (own_rm_st1 l Z a0 hw [] oa oz kz (10 : Int32) (3458764515968024577 : Int64) (1 : Int64) ([(.long yp), (.long wp), (.long ya), (.long wa), (.long yb), (.long wb), (.long yq), (.long wq)]) h0 n0 Z0 E_oa F_oa_cells V_oz (by decide)) 0 (by decide) (by decide) e0 E_oa rfl (by rw [hml]; rfl) [(.int 1)] (lenOf own_pd1 rfl) rfl (Nat.le_of_eq rfl) (hb hby d12_2) rfl (by decide) (by decide) ?_
    rintro T1 Lc1 _ X1 ⟨rfl, N1q, e1⟩
    have N1 := Fr.app N0 N1q
    show own_Fin _ _ _ _ _ _ _ (T1.setTop (mkF m 5 #[rv oa, iv 1, jv vf, sS, jv vl, sS, uS, uS, uS, uS] [(.int (own_stb (3458764515968024577 : Int64)))]))
    rw [show (own_stb (3458764515968024577 : Int64)) = (4 : Int32) from by decide +kernel]
    refine own_Fin.go (fun t k => XS.iconst X1.here hx rfl (hb hby d12_5) (XS.aloadN X1.here hx rfl (hb hby d12_6) rfl rfl (XS.iloadN X1.here hx rfl (hb hby d12_7) rfl k))) ?_
    refine own_pC X1 hx hZ hown (own_W hw 70 rfl) (own_W hw 71 rfl) (own_W hw 48 rfl) rfl (own_W hw 72 rfl) (own_W hw 73 rfl) (own_W hw 17 rfl) (by decide) (own_rm_len1 l Z a0 hw [] oa oz kz (10 : Int32) (3458764515968024577 : Int64) (1 : Int64) ([(.long yp), (.long wp), (.long ya), (.long wa), (.long yb), (.long wb), (.long yq), (.long wq)]) h0 n0 Z0 F_oa_cells V_oz (by decide)) 2 (by decide) (by decide) e1 E_oa rfl (by rw [hml]; rfl) [(.int 1)] (lenOf own_pd1 rfl) rfl (Nat.le_of_eq rfl) (hb hby d12_8) rfl (by decide) (by decide) ?_
    rintro T2 Lc2 _ X2 ⟨rfl, N2q, e2⟩
    have N2 := Fr.app N1 N2q
    show own_Fin _ _ _ _ _ _ _ (T2.setTop (mkF m 11 #[rv oa, iv 1, jv vf, sS, jv vl, sS, uS, uS, uS, uS] [(.int (own_lenb (3458764515968024577 : Int64))), (.int 2), (.int 4)]))
    rw [show (own_lenb (3458764515968024577 : Int64)) = (2 : Int32) from by decide +kernel]
    refine own_Fin.go (fun t k => XS.imul X2.here hx rfl (hb hby d12_11) rfl k) ?_
    show own_Fin _ _ _ _ _ _ _ (T2.setTop (mkF m 12 #[rv oa, iv 1, jv vf, sS, jv vl, sS, uS, uS, uS, uS] [(.int ((2 : Int32) * (2 : Int32))), (.int 4)]))
    rw [show ((2 : Int32) * (2 : Int32)) = (4 : Int32) from by decide +kernel]
    refine own_Fin.go (fun t k => XS.iadd X2.here hx rfl (hb hby d12_12) rfl k) ?_
    show own_Fin _ _ _ _ _ _ _ (T2.setTop (mkF m 13 #[rv oa, iv 1, jv vf, sS, jv vl, sS, uS, uS, uS, uS] [(.int ((4 : Int32) + (4 : Int32)))]))
    rw [show ((4 : Int32) + (4 : Int32)) = (8 : Int32) from by decide +kernel]
    refine own_Fin.go (fun t k => XS.istore X2.here hx rfl (hb hby d12_13) rfl (l' := #[rv oa, iv 1, jv vf, sS, jv vl, sS, iv 8, uS, uS, uS]) rfl (XS.lconst X2.here hx rfl (hb hby d12_15) (XS.lstore X2.here hx rfl (hb hby d12_16) rfl (l' := #[rv oa, iv 1, jv vf, sS, jv vl, sS, iv 8, jv 0, sS, uS]) rfl (XS.aloadN X2.here hx rfl (hb hby d12_18) rfl rfl k)))) ?_
    refine own_Fin.go (fun t k => XS.iloadN X2.here hx rfl (hb hby d12_19) rfl (XS.lloadN X2.here hx rfl (hb hby d12_20) rfl k)) ?_
    refine own_pC X2 hx hZ hown (own_W hw 54 rfl) (own_W hw 55 rfl) (own_W hw 48 rfl) rfl (own_W hw 56 rfl) (own_W hw 57 rfl) (own_W hw 17 rfl) (by decide) (own_rm_ix2 l Z a0 hw [] oa vf oz kz (10 : Int32) (3458764515968024577 : Int64) (1 : Int64) yp wp ya wa yb wb ([(.long yq), (.long wq)]) h0 n0 Z0 E_oa F_oa_cells V_oz (by decide) (by decide) (by decide)) 0 (by decide) (by decide) e2 E_oa rfl (by rw [hml]; rfl) [(.int 1), (.long vf)] (lenOf own_pd4 rfl) rfl (Nat.le_of_eq rfl) (hb hby d12_21) rfl (by decide) (by decide) ?_
    rintro T3 Lc3 _ X3 ⟨rfl, N3q, e3⟩
    have N3 := Fr.app N2 N3q
    show own_Fin _ _ _ _ _ _ _ (T3.setTop (mkF m 24 #[rv oa, iv 1, jv vf, sS, jv vl, sS, iv 8, jv 0, sS, uS] [(.int (own_lb2 ya yb vf))]))
    rw [show (own_lb2 ya yb vf) = (8 : Int32) from by simp only [own_lb2, if_pos qyb]]
    refine own_Fin.go (fun t k => XS.istore X3.here hx rfl (hb hby d12_24) rfl (l' := #[rv oa, iv 1, jv vf, sS, jv vl, sS, iv 8, jv 0, sS, iv 8]) rfl (XS.iload X3.here hx rfl (hb hby d12_26) rfl (XS.iload X3.here hx rfl (hb hby d12_28) rfl (XS.icmpYes X3.here hx rfl (pc0 := 30) (pc' := 68) rfl (hb hby d12_30) rfl (by decide) (by decide) (by decide) k)))) ?_
    refine own_Fin.go (fun t k => XS.lload X3.here hx rfl (hb hby d12_68) rfl k) ?_
    refine own_retJ X3 hx Bd.returns (hb hby d12_70) Bd.notSynchronized (by decide) (by decide) ?_
    rw [e3]
    exact ⟨by simp only [own_sumb, own_run, if_pos qyb], N3, rfl⟩
  · by_cases qya : ya < vf
    · show own_Fin _ _ _ _ _ _ _ (s₁.setTop (mkF m 0 #[rv oa, iv 1, jv vf, sS, jv vl, sS, uS, uS, uS, uS] []))
      refine own_Fin.go (fun t k => XS.aloadN X0.here hx rfl (hb hby d12_0) rfl rfl (XS.iloadN X0.here hx rfl (hb hby d12_1) rfl k)) ?_
      refine own_pC X0 hx hZ hown (own_W hw 58 rfl) (own_W hw 59 rfl) (own_W hw 48 rfl) rfl (own_W hw 60 rfl) (own_W hw 61 rfl) (own_W hw 17 rfl) (by decide) (own_rm_st1 l Z a0 hw [] oa oz kz (10 : Int32) (3458764515968024577 : Int64) (1 : Int64) ([(.long yp), (.long wp), (.long ya), (.long wa), (.long yb), (.long wb), (.long yq), (.long wq)]) h0 n0 Z0 E_oa F_oa_cells V_oz (by decide)) 0 (by decide) (by decide) e0 E_oa rfl (by rw [hml]; rfl) [(.int 1)] (lenOf own_pd1 rfl) rfl (Nat.le_of_eq rfl) (hb hby d12_2) rfl (by decide) (by decide) ?_
      rintro T5 Lc5 _ X5 ⟨rfl, N5q, e5⟩
      have N5 := Fr.app N0 N5q
      show own_Fin _ _ _ _ _ _ _ (T5.setTop (mkF m 5 #[rv oa, iv 1, jv vf, sS, jv vl, sS, uS, uS, uS, uS] [(.int (own_stb (3458764515968024577 : Int64)))]))
      rw [show (own_stb (3458764515968024577 : Int64)) = (4 : Int32) from by decide +kernel]
      refine own_Fin.go (fun t k => XS.iconst X5.here hx rfl (hb hby d12_5) (XS.aloadN X5.here hx rfl (hb hby d12_6) rfl rfl (XS.iloadN X5.here hx rfl (hb hby d12_7) rfl k))) ?_
      refine own_pC X5 hx hZ hown (own_W hw 70 rfl) (own_W hw 71 rfl) (own_W hw 48 rfl) rfl (own_W hw 72 rfl) (own_W hw 73 rfl) (own_W hw 17 rfl) (by decide) (own_rm_len1 l Z a0 hw [] oa oz kz (10 : Int32) (3458764515968024577 : Int64) (1 : Int64) ([(.long yp), (.long wp), (.long ya), (.long wa), (.long yb), (.long wb), (.long yq), (.long wq)]) h0 n0 Z0 F_oa_cells V_oz (by decide)) 2 (by decide) (by decide) e5 E_oa rfl (by rw [hml]; rfl) [(.int 1)] (lenOf own_pd1 rfl) rfl (Nat.le_of_eq rfl) (hb hby d12_8) rfl (by decide) (by decide) ?_
      rintro T6 Lc6 _ X6 ⟨rfl, N6q, e6⟩
      have N6 := Fr.app N5 N6q
      show own_Fin _ _ _ _ _ _ _ (T6.setTop (mkF m 11 #[rv oa, iv 1, jv vf, sS, jv vl, sS, uS, uS, uS, uS] [(.int (own_lenb (3458764515968024577 : Int64))), (.int 2), (.int 4)]))
      rw [show (own_lenb (3458764515968024577 : Int64)) = (2 : Int32) from by decide +kernel]
      refine own_Fin.go (fun t k => XS.imul X6.here hx rfl (hb hby d12_11) rfl k) ?_
      show own_Fin _ _ _ _ _ _ _ (T6.setTop (mkF m 12 #[rv oa, iv 1, jv vf, sS, jv vl, sS, uS, uS, uS, uS] [(.int ((2 : Int32) * (2 : Int32))), (.int 4)]))
      rw [show ((2 : Int32) * (2 : Int32)) = (4 : Int32) from by decide +kernel]
      refine own_Fin.go (fun t k => XS.iadd X6.here hx rfl (hb hby d12_12) rfl k) ?_
      show own_Fin _ _ _ _ _ _ _ (T6.setTop (mkF m 13 #[rv oa, iv 1, jv vf, sS, jv vl, sS, uS, uS, uS, uS] [(.int ((4 : Int32) + (4 : Int32)))]))
      rw [show ((4 : Int32) + (4 : Int32)) = (8 : Int32) from by decide +kernel]
      refine own_Fin.go (fun t k => XS.istore X6.here hx rfl (hb hby d12_13) rfl (l' := #[rv oa, iv 1, jv vf, sS, jv vl, sS, iv 8, uS, uS, uS]) rfl (XS.lconst X6.here hx rfl (hb hby d12_15) (XS.lstore X6.here hx rfl (hb hby d12_16) rfl (l' := #[rv oa, iv 1, jv vf, sS, jv vl, sS, iv 8, jv 0, sS, uS]) rfl (XS.aloadN X6.here hx rfl (hb hby d12_18) rfl rfl k)))) ?_
      refine own_Fin.go (fun t k => XS.iloadN X6.here hx rfl (hb hby d12_19) rfl (XS.lloadN X6.here hx rfl (hb hby d12_20) rfl k)) ?_
      refine own_pC X6 hx hZ hown (own_W hw 54 rfl) (own_W hw 55 rfl) (own_W hw 48 rfl) rfl (own_W hw 56 rfl) (own_W hw 57 rfl) (own_W hw 17 rfl) (by decide) (own_rm_ix2 l Z a0 hw [] oa vf oz kz (10 : Int32) (3458764515968024577 : Int64) (1 : Int64) yp wp ya wa yb wb ([(.long yq), (.long wq)]) h0 n0 Z0 E_oa F_oa_cells V_oz (by decide) (by decide) (by decide)) 0 (by decide) (by decide) e6 E_oa rfl (by rw [hml]; rfl) [(.int 1), (.long vf)] (lenOf own_pd4 rfl) rfl (Nat.le_of_eq rfl) (hb hby d12_21) rfl (by decide) (by decide) ?_
      rintro T7 Lc7 _ X7 ⟨rfl, N7q, e7⟩
      have N7 := Fr.app N6 N7q
      show own_Fin _ _ _ _ _ _ _ (T7.setTop (mkF m 24 #[rv oa, iv 1, jv vf, sS, jv vl, sS, iv 8, jv 0, sS, uS] [(.int (own_lb2 ya yb vf))]))
      rw [show (own_lb2 ya yb vf) = (6 : Int32) from by simp only [own_lb2, if_neg qyb, if_pos qya]]
      refine own_Fin.go (fun t k => XS.istore X7.here hx rfl (hb hby d12_24) rfl (l' := #[rv oa, iv 1, jv vf, sS, jv vl, sS, iv 8, jv 0, sS, iv 6]) rfl (XS.iload X7.here hx rfl (hb hby d12_26) rfl (XS.iload X7.here hx rfl (hb hby d12_28) rfl (XS.icmpNo X7.here hx rfl (hb hby d12_30) rfl (by decide) k)))) ?_
      refine own_Fin.go (fun t k => XS.aloadN X7.here hx rfl (hb hby d12_33) rfl rfl k) ?_
      refine own_gF X7 hx hZ hown (own_W hw 39 rfl) e7 F_oa_cells rfl rfl (hb hby d12_34) ?_
      intro T9 X9 e9
      show own_Fin _ _ _ _ _ _ _ (T9.setTop (mkF m 37 #[rv oa, iv 1, jv vf, sS, jv vl, sS, iv 8, jv 0, sS, iv 6] [(.ref oz)]))
      refine own_Fin.go (fun t k => XS.iload X9.here hx rfl (hb hby d12_37) rfl k) ?_
      refine own_lal X9 hx hZ e9 V_oz ⟨by decide, by decide⟩ (v := yb) rfl rfl rfl (hb hby d12_39) ?_
      refine own_Fin.go (fun t k => XS.lload X9.here hx rfl (hb hby d12_40) rfl (XS.lcmp X9.here hx rfl (hb hby d12_42) rfl k)) ?_
      by_cases hc43_11 : vl < yb
      · refine own_Fin.go (fun t k => XS.ifYes X9.here hx rfl (pc0 := 43) (pc' := 68) rfl (hb hby d12_43) rfl (Jvm.Free.XT.ll_gt_t hc43_11) (by decide) (by decide) k) ?_
        show own_Fin _ _ _ _ _ _ _ (T9.setTop (mkF m 68 #[rv oa, iv 1, jv vf, sS, jv vl, sS, iv 8, jv 0, sS, iv 6] []))
        refine own_Fin.go (fun t k => XS.lload X9.here hx rfl (hb hby d12_68) rfl k) ?_
        refine own_retJ X9 hx Bd.returns (hb hby d12_70) Bd.notSynchronized (by decide) (by decide) ?_
        rw [e9]
        exact ⟨by simp only [own_sumb, own_run, if_neg qyb, if_pos qya, if_pos hc43_11], N7, rfl⟩
      · refine own_Fin.go (fun t k => XS.ifNo X9.here hx rfl (hb hby d12_43) rfl (Jvm.Free.XT.ll_gt_f hc43_11) k) ?_
        show own_Fin _ _ _ _ _ _ _ (T9.setTop (mkF m 46 #[rv oa, iv 1, jv vf, sS, jv vl, sS, iv 8, jv 0, sS, iv 6] []))
        refine own_Fin.go (fun t k => XS.lload X9.here hx rfl (hb hby d12_46) rfl (XS.aloadN X9.here hx rfl (hb hby d12_48) rfl rfl k)) ?_
        refine own_gF X9 hx hZ hown (own_W hw 39 rfl) e9 F_oa_cells rfl rfl (hb hby d12_49) ?_
        intro T12 X12 e12
        refine own_Fin.go (fun t k => XS.iload X12.here hx rfl (hb hby d12_52) rfl (XS.iconst X12.here hx rfl (hb hby d12_54) (XS.iadd X12.here hx rfl (hb hby d12_55) rfl k))) ?_
        show own_Fin _ _ _ _ _ _ _ (T12.setTop (mkF m 56 #[rv oa, iv 1, jv vf, sS, jv vl, sS, iv 8, jv 0, sS, iv 6] [(.int ((6 : Int32) + (1 : Int32))), (.ref oz), (.long 0)]))
        rw [show ((6 : Int32) + (1 : Int32)) = (7 : Int32) from by decide +kernel]
        refine own_lal X12 hx hZ e12 V_oz ⟨by decide, by decide⟩ (v := wb) rfl rfl rfl (hb hby d12_56) ?_
        refine own_sC X12 hx hZ hown (own_W hw 103 rfl) (own_W hw 104 rfl) (own_W hw 17 rfl) (own_W hw 105 rfl) (by decide) (own_rm_sat l Z a0 hw [] (0 : Int64) wb  h0 n0 Z0 ) 0 (by decide) (by decide) e12 rfl (by rw [hml]; rfl) [(.long 0), (.long wb)] [] (lenOf own_pd8 rfl) rfl (Nat.le_of_eq rfl) (hb hby d12_57) rfl (by decide) (by decide) ?_
        rintro T14 Lc14 _ X14 ⟨rfl, N14q, e14⟩
        have N14 := Fr.app N7 N14q
        refine own_Fin.go (fun t k => XS.lstore X14.here hx rfl (hb hby d12_60) rfl (l' := #[rv oa, iv 1, jv vf, sS, jv vl, sS, iv 8, .val (.long (own_sat (0 : Int64) wb)), sS, iv 6]) rfl (XS.iinc X14.here hx rfl (hb hby d12_62) rfl (l' := #[rv oa, iv 1, jv vf, sS, jv vl, sS, iv 8, .val (.long (own_sat (0 : Int64) wb)), sS, .val (.int ((6 : Int32) + (2 : Int32)))]) rfl k)) ?_
        show own_Fin _ _ _ _ _ _ _ (T14.setTop (mkF m 65 #[rv oa, iv 1, jv vf, sS, jv vl, sS, iv 8, .val (.long (own_sat (0 : Int64) wb)), sS, .val (.int ((6 : Int32) + (2 : Int32)))] []))
        rw [show ((6 : Int32) + (2 : Int32)) = (8 : Int32) from by decide +kernel]
        refine own_Fin.go (fun t k => XS.goto X14.here hx rfl (pc0 := 65) (pc' := 26) rfl (hb hby d12_65) (by decide) (by decide) (XS.iload X14.here hx rfl (hb hby d12_26) rfl (XS.iload X14.here hx rfl (hb hby d12_28) rfl (XS.icmpYes X14.here hx rfl (pc0 := 30) (pc' := 68) rfl (hb hby d12_30) rfl (by decide) (by decide) (by decide) k)))) ?_
        refine own_Fin.go (fun t k => XS.lload X14.here hx rfl (hb hby d12_68) rfl k) ?_
        refine own_retJ X14 hx Bd.returns (hb hby d12_70) Bd.notSynchronized (by decide) (by decide) ?_
        rw [e14]
        exact ⟨by simp only [own_sumb, own_run, if_neg qyb, if_pos qya, if_neg hc43_11], N14, rfl⟩
    · show own_Fin _ _ _ _ _ _ _ (s₁.setTop (mkF m 0 #[rv oa, iv 1, jv vf, sS, jv vl, sS, uS, uS, uS, uS] []))
      refine own_Fin.go (fun t k => XS.aloadN X0.here hx rfl (hb hby d12_0) rfl rfl (XS.iloadN X0.here hx rfl (hb hby d12_1) rfl k)) ?_
      refine own_pC X0 hx hZ hown (own_W hw 58 rfl) (own_W hw 59 rfl) (own_W hw 48 rfl) rfl (own_W hw 60 rfl) (own_W hw 61 rfl) (own_W hw 17 rfl) (by decide) (own_rm_st1 l Z a0 hw [] oa oz kz (10 : Int32) (3458764515968024577 : Int64) (1 : Int64) ([(.long yp), (.long wp), (.long ya), (.long wa), (.long yb), (.long wb), (.long yq), (.long wq)]) h0 n0 Z0 E_oa F_oa_cells V_oz (by decide)) 0 (by decide) (by decide) e0 E_oa rfl (by rw [hml]; rfl) [(.int 1)] (lenOf own_pd1 rfl) rfl (Nat.le_of_eq rfl) (hb hby d12_2) rfl (by decide) (by decide) ?_
      rintro T16 Lc16 _ X16 ⟨rfl, N16q, e16⟩
      have N16 := Fr.app N0 N16q
      show own_Fin _ _ _ _ _ _ _ (T16.setTop (mkF m 5 #[rv oa, iv 1, jv vf, sS, jv vl, sS, uS, uS, uS, uS] [(.int (own_stb (3458764515968024577 : Int64)))]))
      rw [show (own_stb (3458764515968024577 : Int64)) = (4 : Int32) from by decide +kernel]
      refine own_Fin.go (fun t k => XS.iconst X16.here hx rfl (hb hby d12_5) (XS.aloadN X16.here hx rfl (hb hby d12_6) rfl rfl (XS.iloadN X16.here hx rfl (hb hby d12_7) rfl k))) ?_
      refine own_pC X16 hx hZ hown (own_W hw 70 rfl) (own_W hw 71 rfl) (own_W hw 48 rfl) rfl (own_W hw 72 rfl) (own_W hw 73 rfl) (own_W hw 17 rfl) (by decide) (own_rm_len1 l Z a0 hw [] oa oz kz (10 : Int32) (3458764515968024577 : Int64) (1 : Int64) ([(.long yp), (.long wp), (.long ya), (.long wa), (.long yb), (.long wb), (.long yq), (.long wq)]) h0 n0 Z0 F_oa_cells V_oz (by decide)) 2 (by decide) (by decide) e16 E_oa rfl (by rw [hml]; rfl) [(.int 1)] (lenOf own_pd1 rfl) rfl (Nat.le_of_eq rfl) (hb hby d12_8) rfl (by decide) (by decide) ?_
      rintro T17 Lc17 _ X17 ⟨rfl, N17q, e17⟩
      have N17 := Fr.app N16 N17q
      show own_Fin _ _ _ _ _ _ _ (T17.setTop (mkF m 11 #[rv oa, iv 1, jv vf, sS, jv vl, sS, uS, uS, uS, uS] [(.int (own_lenb (3458764515968024577 : Int64))), (.int 2), (.int 4)]))
      rw [show (own_lenb (3458764515968024577 : Int64)) = (2 : Int32) from by decide +kernel]
      refine own_Fin.go (fun t k => XS.imul X17.here hx rfl (hb hby d12_11) rfl k) ?_
      show own_Fin _ _ _ _ _ _ _ (T17.setTop (mkF m 12 #[rv oa, iv 1, jv vf, sS, jv vl, sS, uS, uS, uS, uS] [(.int ((2 : Int32) * (2 : Int32))), (.int 4)]))
      rw [show ((2 : Int32) * (2 : Int32)) = (4 : Int32) from by decide +kernel]
      refine own_Fin.go (fun t k => XS.iadd X17.here hx rfl (hb hby d12_12) rfl k) ?_
      show own_Fin _ _ _ _ _ _ _ (T17.setTop (mkF m 13 #[rv oa, iv 1, jv vf, sS, jv vl, sS, uS, uS, uS, uS] [(.int ((4 : Int32) + (4 : Int32)))]))
      rw [show ((4 : Int32) + (4 : Int32)) = (8 : Int32) from by decide +kernel]
      refine own_Fin.go (fun t k => XS.istore X17.here hx rfl (hb hby d12_13) rfl (l' := #[rv oa, iv 1, jv vf, sS, jv vl, sS, iv 8, uS, uS, uS]) rfl (XS.lconst X17.here hx rfl (hb hby d12_15) (XS.lstore X17.here hx rfl (hb hby d12_16) rfl (l' := #[rv oa, iv 1, jv vf, sS, jv vl, sS, iv 8, jv 0, sS, uS]) rfl (XS.aloadN X17.here hx rfl (hb hby d12_18) rfl rfl k)))) ?_
      refine own_Fin.go (fun t k => XS.iloadN X17.here hx rfl (hb hby d12_19) rfl (XS.lloadN X17.here hx rfl (hb hby d12_20) rfl k)) ?_
      refine own_pC X17 hx hZ hown (own_W hw 54 rfl) (own_W hw 55 rfl) (own_W hw 48 rfl) rfl (own_W hw 56 rfl) (own_W hw 57 rfl) (own_W hw 17 rfl) (by decide) (own_rm_ix2 l Z a0 hw [] oa vf oz kz (10 : Int32) (3458764515968024577 : Int64) (1 : Int64) yp wp ya wa yb wb ([(.long yq), (.long wq)]) h0 n0 Z0 E_oa F_oa_cells V_oz (by decide) (by decide) (by decide)) 0 (by decide) (by decide) e17 E_oa rfl (by rw [hml]; rfl) [(.int 1), (.long vf)] (lenOf own_pd4 rfl) rfl (Nat.le_of_eq rfl) (hb hby d12_21) rfl (by decide) (by decide) ?_
      rintro T18 Lc18 _ X18 ⟨rfl, N18q, e18⟩
      have N18 := Fr.app N17 N18q
      show own_Fin _ _ _ _ _ _ _ (T18.setTop (mkF m 24 #[rv oa, iv 1, jv vf, sS, jv vl, sS, iv 8, jv 0, sS, uS] [(.int (own_lb2 ya yb vf))]))
      rw [show (own_lb2 ya yb vf) = (4 : Int32) from by simp only [own_lb2, if_neg qyb, if_neg qya]]
      refine own_Fin.go (fun t k => XS.istore X18.here hx rfl (hb hby d12_24) rfl (l' := #[rv oa, iv 1, jv vf, sS, jv vl, sS, iv 8, jv 0, sS, iv 4]) rfl (XS.iload X18.here hx rfl (hb hby d12_26) rfl (XS.iload X18.here hx rfl (hb hby d12_28) rfl (XS.icmpNo X18.here hx rfl (hb hby d12_30) rfl (by decide) k)))) ?_
      refine own_Fin.go (fun t k => XS.aloadN X18.here hx rfl (hb hby d12_33) rfl rfl k) ?_
      refine own_gF X18 hx hZ hown (own_W hw 39 rfl) e18 F_oa_cells rfl rfl (hb hby d12_34) ?_
      intro T20 X20 e20
      show own_Fin _ _ _ _ _ _ _ (T20.setTop (mkF m 37 #[rv oa, iv 1, jv vf, sS, jv vl, sS, iv 8, jv 0, sS, iv 4] [(.ref oz)]))
      refine own_Fin.go (fun t k => XS.iload X20.here hx rfl (hb hby d12_37) rfl k) ?_
      refine own_lal X20 hx hZ e20 V_oz ⟨by decide, by decide⟩ (v := ya) rfl rfl rfl (hb hby d12_39) ?_
      refine own_Fin.go (fun t k => XS.lload X20.here hx rfl (hb hby d12_40) rfl (XS.lcmp X20.here hx rfl (hb hby d12_42) rfl k)) ?_
      by_cases hc43_22 : vl < ya
      · refine own_Fin.go (fun t k => XS.ifYes X20.here hx rfl (pc0 := 43) (pc' := 68) rfl (hb hby d12_43) rfl (Jvm.Free.XT.ll_gt_t hc43_22) (by decide) (by decide) k) ?_
        show own_Fin _ _ _ _ _ _ _ (T20.setTop (mkF m 68 #[rv oa, iv 1, jv vf, sS, jv vl, sS, iv 8, jv 0, sS, iv 4] []))
        refine own_Fin.go (fun t k => XS.lload X20.here hx rfl (hb hby d12_68) rfl k) ?_
        refine own_retJ X20 hx Bd.returns (hb hby d12_70) Bd.notSynchronized (by decide) (by decide) ?_
        rw [e20]
        exact ⟨by simp only [own_sumb, own_run, if_neg qyb, if_neg qya, if_pos hc43_22], N18, rfl⟩
      · refine own_Fin.go (fun t k => XS.ifNo X20.here hx rfl (hb hby d12_43) rfl (Jvm.Free.XT.ll_gt_f hc43_22) k) ?_
        show own_Fin _ _ _ _ _ _ _ (T20.setTop (mkF m 46 #[rv oa, iv 1, jv vf, sS, jv vl, sS, iv 8, jv 0, sS, iv 4] []))
        refine own_Fin.go (fun t k => XS.lload X20.here hx rfl (hb hby d12_46) rfl (XS.aloadN X20.here hx rfl (hb hby d12_48) rfl rfl k)) ?_
        refine own_gF X20 hx hZ hown (own_W hw 39 rfl) e20 F_oa_cells rfl rfl (hb hby d12_49) ?_
        intro T23 X23 e23
        refine own_Fin.go (fun t k => XS.iload X23.here hx rfl (hb hby d12_52) rfl (XS.iconst X23.here hx rfl (hb hby d12_54) (XS.iadd X23.here hx rfl (hb hby d12_55) rfl k))) ?_
        show own_Fin _ _ _ _ _ _ _ (T23.setTop (mkF m 56 #[rv oa, iv 1, jv vf, sS, jv vl, sS, iv 8, jv 0, sS, iv 4] [(.int ((4 : Int32) + (1 : Int32))), (.ref oz), (.long 0)]))
        rw [show ((4 : Int32) + (1 : Int32)) = (5 : Int32) from by decide +kernel]
        refine own_lal X23 hx hZ e23 V_oz ⟨by decide, by decide⟩ (v := wa) rfl rfl rfl (hb hby d12_56) ?_
        refine own_sC X23 hx hZ hown (own_W hw 103 rfl) (own_W hw 104 rfl) (own_W hw 17 rfl) (own_W hw 105 rfl) (by decide) (own_rm_sat l Z a0 hw [] (0 : Int64) wa  h0 n0 Z0 ) 0 (by decide) (by decide) e23 rfl (by rw [hml]; rfl) [(.long 0), (.long wa)] [] (lenOf own_pd8 rfl) rfl (Nat.le_of_eq rfl) (hb hby d12_57) rfl (by decide) (by decide) ?_
        rintro T25 Lc25 _ X25 ⟨rfl, N25q, e25⟩
        have N25 := Fr.app N18 N25q
        refine own_Fin.go (fun t k => XS.lstore X25.here hx rfl (hb hby d12_60) rfl (l' := #[rv oa, iv 1, jv vf, sS, jv vl, sS, iv 8, .val (.long (own_sat (0 : Int64) wa)), sS, iv 4]) rfl (XS.iinc X25.here hx rfl (hb hby d12_62) rfl (l' := #[rv oa, iv 1, jv vf, sS, jv vl, sS, iv 8, .val (.long (own_sat (0 : Int64) wa)), sS, .val (.int ((4 : Int32) + (2 : Int32)))]) rfl k)) ?_
        show own_Fin _ _ _ _ _ _ _ (T25.setTop (mkF m 65 #[rv oa, iv 1, jv vf, sS, jv vl, sS, iv 8, .val (.long (own_sat (0 : Int64) wa)), sS, .val (.int ((4 : Int32) + (2 : Int32)))] []))
        rw [show ((4 : Int32) + (2 : Int32)) = (6 : Int32) from by decide +kernel]
        refine own_Fin.go (fun t k => XS.goto X25.here hx rfl (pc0 := 65) (pc' := 26) rfl (hb hby d12_65) (by decide) (by decide) (XS.iload X25.here hx rfl (hb hby d12_26) rfl (XS.iload X25.here hx rfl (hb hby d12_28) rfl (XS.icmpNo X25.here hx rfl (hb hby d12_30) rfl (by decide) k)))) ?_
        refine own_Fin.go (fun t k => XS.aloadN X25.here hx rfl (hb hby d12_33) rfl rfl k) ?_
        refine own_gF X25 hx hZ hown (own_W hw 39 rfl) e25 F_oa_cells rfl rfl (hb hby d12_34) ?_
        intro T27 X27 e27
        show own_Fin _ _ _ _ _ _ _ (T27.setTop (mkF m 37 #[rv oa, iv 1, jv vf, sS, jv vl, sS, iv 8, .val (.long (own_sat (0 : Int64) wa)), sS, iv 6] [(.ref oz)]))
        refine own_Fin.go (fun t k => XS.iload X27.here hx rfl (hb hby d12_37) rfl k) ?_
        refine own_lal X27 hx hZ e27 V_oz ⟨by decide, by decide⟩ (v := yb) rfl rfl rfl (hb hby d12_39) ?_
        refine own_Fin.go (fun t k => XS.lload X27.here hx rfl (hb hby d12_40) rfl (XS.lcmp X27.here hx rfl (hb hby d12_42) rfl k)) ?_
        by_cases hc43_29 : vl < yb
        · refine own_Fin.go (fun t k => XS.ifYes X27.here hx rfl (pc0 := 43) (pc' := 68) rfl (hb hby d12_43) rfl (Jvm.Free.XT.ll_gt_t hc43_29) (by decide) (by decide) k) ?_
          show own_Fin _ _ _ _ _ _ _ (T27.setTop (mkF m 68 #[rv oa, iv 1, jv vf, sS, jv vl, sS, iv 8, .val (.long (own_sat (0 : Int64) wa)), sS, iv 6] []))
          refine own_Fin.go (fun t k => XS.lload X27.here hx rfl (hb hby d12_68) rfl k) ?_
          refine own_retJ X27 hx Bd.returns (hb hby d12_70) Bd.notSynchronized (by decide) (by decide) ?_
          rw [e27]
          exact ⟨by simp only [own_sumb, own_run, if_neg qyb, if_neg qya, if_neg hc43_22, if_pos hc43_29], N25, rfl⟩
        · refine own_Fin.go (fun t k => XS.ifNo X27.here hx rfl (hb hby d12_43) rfl (Jvm.Free.XT.ll_gt_f hc43_29) k) ?_
          show own_Fin _ _ _ _ _ _ _ (T27.setTop (mkF m 46 #[rv oa, iv 1, jv vf, sS, jv vl, sS, iv 8, .val (.long (own_sat (0 : Int64) wa)), sS, iv 6] []))
          refine own_Fin.go (fun t k => XS.lload X27.here hx rfl (hb hby d12_46) rfl (XS.aloadN X27.here hx rfl (hb hby d12_48) rfl rfl k)) ?_
          refine own_gF X27 hx hZ hown (own_W hw 39 rfl) e27 F_oa_cells rfl rfl (hb hby d12_49) ?_
          intro T30 X30 e30
          refine own_Fin.go (fun t k => XS.iload X30.here hx rfl (hb hby d12_52) rfl (XS.iconst X30.here hx rfl (hb hby d12_54) (XS.iadd X30.here hx rfl (hb hby d12_55) rfl k))) ?_
          show own_Fin _ _ _ _ _ _ _ (T30.setTop (mkF m 56 #[rv oa, iv 1, jv vf, sS, jv vl, sS, iv 8, .val (.long (own_sat (0 : Int64) wa)), sS, iv 6] [(.int ((6 : Int32) + (1 : Int32))), (.ref oz), (.long (own_sat (0 : Int64) wa))]))
          rw [show ((6 : Int32) + (1 : Int32)) = (7 : Int32) from by decide +kernel]
          refine own_lal X30 hx hZ e30 V_oz ⟨by decide, by decide⟩ (v := wb) rfl rfl rfl (hb hby d12_56) ?_
          refine own_sC X30 hx hZ hown (own_W hw 103 rfl) (own_W hw 104 rfl) (own_W hw 17 rfl) (own_W hw 105 rfl) (by decide) (own_rm_sat l Z a0 hw [] (own_sat (0 : Int64) wa) wb  h0 n0 Z0 ) 0 (by decide) (by decide) e30 rfl (by rw [hml]; rfl) [(.long (own_sat (0 : Int64) wa)), (.long wb)] [] (lenOf own_pd8 rfl) rfl (Nat.le_of_eq rfl) (hb hby d12_57) rfl (by decide) (by decide) ?_
          rintro T32 Lc32 _ X32 ⟨rfl, N32q, e32⟩
          have N32 := Fr.app N25 N32q
          refine own_Fin.go (fun t k => XS.lstore X32.here hx rfl (hb hby d12_60) rfl (l' := #[rv oa, iv 1, jv vf, sS, jv vl, sS, iv 8, .val (.long (own_sat (own_sat (0 : Int64) wa) wb)), sS, iv 6]) rfl (XS.iinc X32.here hx rfl (hb hby d12_62) rfl (l' := #[rv oa, iv 1, jv vf, sS, jv vl, sS, iv 8, .val (.long (own_sat (own_sat (0 : Int64) wa) wb)), sS, .val (.int ((6 : Int32) + (2 : Int32)))]) rfl k)) ?_
          show own_Fin _ _ _ _ _ _ _ (T32.setTop (mkF m 65 #[rv oa, iv 1, jv vf, sS, jv vl, sS, iv 8, .val (.long (own_sat (own_sat (0 : Int64) wa) wb)), sS, .val (.int ((6 : Int32) + (2 : Int32)))] []))
          rw [show ((6 : Int32) + (2 : Int32)) = (8 : Int32) from by decide +kernel]
          refine own_Fin.go (fun t k => XS.goto X32.here hx rfl (pc0 := 65) (pc' := 26) rfl (hb hby d12_65) (by decide) (by decide) (XS.iload X32.here hx rfl (hb hby d12_26) rfl (XS.iload X32.here hx rfl (hb hby d12_28) rfl (XS.icmpYes X32.here hx rfl (pc0 := 30) (pc' := 68) rfl (hb hby d12_30) rfl (by decide) (by decide) (by decide) k)))) ?_
          refine own_Fin.go (fun t k => XS.lload X32.here hx rfl (hb hby d12_68) rfl k) ?_
          refine own_retJ X32 hx Bd.returns (hb hby d12_70) Bd.notSynchronized (by decide) (by decide) ?_
          rw [e32]
          exact ⟨by simp only [own_sumb, own_run, if_neg qyb, if_neg qya, if_neg hc43_22, if_neg hc43_29], N32, rfl⟩
theorem own_ef_su3 (m : MethodId) (oa : Addr) (vf : Int64) (vl : Int64) : entryFrame m #[(.ref oa), (.int 1), (.long vf), (.long vl)] 10 = mkF m 0 #[rv oa, iv 1, jv vf, sS, jv vl, sS, uS, uS, uS, uS] [] := by first | (simp [entryFrame, mkF, argsToLocals, Value.category]; done) | rfl
def own_Q_su3 (Z : State) (oa : Addr) (vf : Int64) (vl : Int64) (oz : Addr) (kz : ClassId) (yp : Int64) (wp : Int64) (ya : Int64) (wa : Int64) (yb : Int64) (wb : Int64) (yc : Int64) (wc : Int64) (yq : Int64) (wq : Int64) (h0 : Heap) (n0 : Nat) (v : Option Value) (h : Heap) (L : List Loc) : Prop := v = some (.long (own_sumc ya wa yb wb yc wc vf vl)) ∧ Fr n0 L ∧ h = h0
set_option maxRecDepth 65536 in
set_option maxHeartbeats 40000000 in
theorem own_rm_su3 (l : Launch) (Z : State) (a0 : Array Value) (hw : ∀ d ∈ tables_1, d.before a0 Z = true) (ws : List Jvm.Cond) (oa : Addr) (vf : Int64) (vl : Int64) (oz : Addr) (kz : ClassId) (yp : Int64) (wp : Int64) (ya : Int64) (wa : Int64) (yb : Int64) (wb : Int64) (yc : Int64) (wc : Int64) (yq : Int64) (wq : Int64) (h0 : Heap) (n0 : Nat) (Z0 : n0 ≤ h0.size) (E_oa : Exa Z h0 oa own_k0) (F_oa_cells : Fld Z h0 oa own_k0 "cells" "[J" (.ref oz)) (V_oz : Arv Z h0 oz kz .long (12 : Int32) [(.long 3458764517041766401), (.long 1), (.long yp), (.long wp), (.long ya), (.long wa), (.long yb), (.long wb), (.long yc), (.long wc), (.long yq), (.long wq)] (.long 0)) :
    MetFree l own_y18 (head1 (Jvm.Cond.code own_y18 prog_4_method_6_code 10 (some .long) :: ws) ({ frames := 4, cells := 0, slots := 0, locals := 55 } : Room)) (fun a U => a = #[(.ref oa), (.int 1), (.long vf), (.long vl)] ∧ Z.Warmed39 U.vm ∧ U.heap = h0) (fun _ _ _ _ _ => True) (fun _ U o U' => ∃ v L, o = .returned v ∧ own_Q_su3 Z oa vf vl oz kz yp wp ya wa yb wb yc wc yq wq h0 n0 v U'.heap L ∧ FrameEnd U o U' L ({ frames := 4, cells := 0, slots := 0, locals := 55 } : Room).cells ({ frames := 4, cells := 0, slots := 0, locals := 55 } : Room).slots) := by
  refine MetFree.of_bodySF (plainFor_of_name own_pn0) hisR ?_
  intro p e s m args below meth c s₁ Bd hml0 hP hK
  obtain ⟨rfl, hZ, hh⟩ := hP
  have hx := Bd.exec
  have hby := Bd.bytes
  have hml : c.maxLocals = 10 := hml0
  have hown : s.vm.findClass own_k0 = some m.cls := findClass_of_methodNamed Bd.named
  have hnm := (name_of_methodNamed Bd.named Bd.method).1
  have X0 : Stand p l e ({ frames := 4, cells := 0, slots := 0, locals := 55 } : Room) s m #[(.ref oa), (.int 1), (.long vf), (.long vl)] below meth c s₁ [] 0 0 := Stand.of_body Bd
  have e0 : s₁.heap = h0 := by rw [← hh, Bd.state]; rfl
  have N0 := Fr.nil n0
  show own_Fin p e below s (own_Q_su3 Z oa vf vl oz kz yp wp ya wa yb wb yc wc yq wq h0 n0) ({ frames := 4, cells := 0, slots := 0, locals := 55 } : Room).cells ({ frames := 4, cells := 0, slots := 0, locals := 55 } : Room).slots (s₁.setTop (entryFrame m #[(.ref oa), (.int 1), (.long vf), (.long vl)] 10))
  refine own_Fin.go (fun t k => castTop (own_ef_su3 m oa vf vl) k) ?_
  by_cases qyb : yb < vf
  · by_cases qyc : yc < vf
    · show own_Fin _ _ _ _ _ _ _ (s₁.setTop (mkF m 0 #[rv oa, iv 1, jv vf, sS, jv vl, sS, uS, uS, uS, uS] []))
      refine own_Fin.go (fun t k => XS.aloadN X0.here hx rfl (hb hby d12_0) rfl rfl (XS.iloadN X0.here hx rfl (hb hby d12_1) rfl k)) ?_
      refine own_pC X0 hx hZ hown (own_W hw 58 rfl) (own_W hw 59 rfl) (own_W hw 48 rfl) rfl (own_W hw 60 rfl) (own_W hw 61 rfl) (own_W hw 17 rfl) (by decide) (own_rm_st1 l Z a0 hw [] oa oz kz (12 : Int32) (3458764517041766401 : Int64) (1 : Int64) ([(.long yp), (.long wp), (.long ya), (.long wa), (.long yb), (.long wb), (.long yc), (.long wc), (.long yq), (.long wq)]) h0 n0 Z0 E_oa F_oa_cells V_oz (by decide)) 0 (by decide) (by decide) e0 E_oa rfl (by rw [hml]; rfl) [(.int 1)] (lenOf own_pd1 rfl) rfl (Nat.le_of_eq rfl) (hb hby d12_2) rfl (by decide) (by decide) ?_
      rintro T1 Lc1 _ X1 ⟨rfl, N1q, e1⟩
      have N1 := Fr.app N0 N1q
      show own_Fin _ _ _ _ _ _ _ (T1.setTop (mkF m 5 #[rv oa, iv 1, jv vf, sS, jv vl, sS, uS, uS, uS, uS] [(.int (own_stb (3458764517041766401 : Int64)))]))
      rw [show (own_stb (3458764517041766401 : Int64)) = (4 : Int32) from by decide +kernel]
      refine own_Fin.go (fun t k => XS.iconst X1.here hx rfl (hb hby d12_5) (XS.aloadN X1.here hx rfl (hb hby d12_6) rfl rfl (XS.iloadN X1.here hx rfl (hb hby d12_7) rfl k))) ?_
      refine own_pC X1 hx hZ hown (own_W hw 70 rfl) (own_W hw 71 rfl) (own_W hw 48 rfl) rfl (own_W hw 72 rfl) (own_W hw 73 rfl) (own_W hw 17 rfl) (by decide) (own_rm_len1 l Z a0 hw [] oa oz kz (12 : Int32) (3458764517041766401 : Int64) (1 : Int64) ([(.long yp), (.long wp), (.long ya), (.long wa), (.long yb), (.long wb), (.long yc), (.long wc), (.long yq), (.long wq)]) h0 n0 Z0 F_oa_cells V_oz (by decide)) 2 (by decide) (by decide) e1 E_oa rfl (by rw [hml]; rfl) [(.int 1)] (lenOf own_pd1 rfl) rfl (Nat.le_of_eq rfl) (hb hby d12_8) rfl (by decide) (by decide) ?_
      rintro T2 Lc2 _ X2 ⟨rfl, N2q, e2⟩
      have N2 := Fr.app N1 N2q
      show own_Fin _ _ _ _ _ _ _ (T2.setTop (mkF m 11 #[rv oa, iv 1, jv vf, sS, jv vl, sS, uS, uS, uS, uS] [(.int (own_lenb (3458764517041766401 : Int64))), (.int 2), (.int 4)]))
      rw [show (own_lenb (3458764517041766401 : Int64)) = (3 : Int32) from by decide +kernel]
      refine own_Fin.go (fun t k => XS.imul X2.here hx rfl (hb hby d12_11) rfl k) ?_
      show own_Fin _ _ _ _ _ _ _ (T2.setTop (mkF m 12 #[rv oa, iv 1, jv vf, sS, jv vl, sS, uS, uS, uS, uS] [(.int ((2 : Int32) * (3 : Int32))), (.int 4)]))
      rw [show ((2 : Int32) * (3 : Int32)) = (6 : Int32) from by decide +kernel]
      refine own_Fin.go (fun t k => XS.iadd X2.here hx rfl (hb hby d12_12) rfl k) ?_
      show own_Fin _ _ _ _ _ _ _ (T2.setTop (mkF m 13 #[rv oa, iv 1, jv vf, sS, jv vl, sS, uS, uS, uS, uS] [(.int ((4 : Int32) + (6 : Int32)))]))
      rw [show ((4 : Int32) + (6 : Int32)) = (10 : Int32) from by decide +kernel]
      refine own_Fin.go (fun t k => XS.istore X2.here hx rfl (hb hby d12_13) rfl (l' := #[rv oa, iv 1, jv vf, sS, jv vl, sS, iv 10, uS, uS, uS]) rfl (XS.lconst X2.here hx rfl (hb hby d12_15) (XS.lstore X2.here hx rfl (hb hby d12_16) rfl (l' := #[rv oa, iv 1, jv vf, sS, jv vl, sS, iv 10, jv 0, sS, uS]) rfl (XS.aloadN X2.here hx rfl (hb hby d12_18) rfl rfl k)))) ?_
      refine own_Fin.go (fun t k => XS.iloadN X2.here hx rfl (hb hby d12_19) rfl (XS.lloadN X2.here hx rfl (hb hby d12_20) rfl k)) ?_
      refine own_pC X2 hx hZ hown (own_W hw 54 rfl) (own_W hw 55 rfl) (own_W hw 48 rfl) rfl (own_W hw 56 rfl) (own_W hw 57 rfl) (own_W hw 17 rfl) (by decide) (own_rm_ix3 l Z a0 hw [] oa vf oz kz (12 : Int32) (3458764517041766401 : Int64) (1 : Int64) yp wp ya wa yb wb yc wc ([(.long yq), (.long wq)]) h0 n0 Z0 E_oa F_oa_cells V_oz (by decide) (by decide) (by decide)) 0 (by decide) (by decide) e2 E_oa rfl (by rw [hml]; rfl) [(.int 1), (.long vf)] (lenOf own_pd4 rfl) rfl (Nat.le_of_eq rfl) (hb hby d12_21) rfl (by decide) (by decide) ?_
      rintro T3 Lc3 _ X3 ⟨rfl, N3q, e3⟩
      have N3 := Fr.app N2 N3q
      show own_Fin _ _ _ _ _ _ _ (T3.setTop (mkF m 24 #[rv oa, iv 1, jv vf, sS, jv vl, sS, iv 10, jv 0, sS, uS] [(.int (own_lb3 ya yb yc vf))]))
      rw [show (own_lb3 ya yb yc vf) = (10 : Int32) from by simp only [own_lb3, if_pos qyb, if_pos qyc]]
      refine own_Fin.go (fun t k => XS.istore X3.here hx rfl (hb hby d12_24) rfl (l' := #[rv oa, iv 1, jv vf, sS, jv vl, sS, iv 10, jv 0, sS, iv 10]) rfl (XS.iload X3.here hx rfl (hb hby d12_26) rfl (XS.iload X3.here hx rfl (hb hby d12_28) rfl (XS.icmpYes X3.here hx rfl (pc0 := 30) (pc' := 68) rfl (hb hby d12_30) rfl (by decide) (by decide) (by decide) k)))) ?_
      refine own_Fin.go (fun t k => XS.lload X3.here hx rfl (hb hby d12_68) rfl k) ?_
      refine own_retJ X3 hx Bd.returns (hb hby d12_70) Bd.notSynchronized (by decide) (by decide) ?_
      rw [e3]
      exact ⟨by simp only [own_sumc, own_run, if_pos qyb, if_pos qyc], N3, rfl⟩
    · show own_Fin _ _ _ _ _ _ _ (s₁.setTop (mkF m 0 #[rv oa, iv 1, jv vf, sS, jv vl, sS, uS, uS, uS, uS] []))
      refine own_Fin.go (fun t k => XS.aloadN X0.here hx rfl (hb hby d12_0) rfl rfl (XS.iloadN X0.here hx rfl (hb hby d12_1) rfl k)) ?_
      refine own_pC X0 hx hZ hown (own_W hw 58 rfl) (own_W hw 59 rfl) (own_W hw 48 rfl) rfl (own_W hw 60 rfl) (own_W hw 61 rfl) (own_W hw 17 rfl) (by decide) (own_rm_st1 l Z a0 hw [] oa oz kz (12 : Int32) (3458764517041766401 : Int64) (1 : Int64) ([(.long yp), (.long wp), (.long ya), (.long wa), (.long yb), (.long wb), (.long yc), (.long wc), (.long yq), (.long wq)]) h0 n0 Z0 E_oa F_oa_cells V_oz (by decide)) 0 (by decide) (by decide) e0 E_oa rfl (by rw [hml]; rfl) [(.int 1)] (lenOf own_pd1 rfl) rfl (Nat.le_of_eq rfl) (hb hby d12_2) rfl (by decide) (by decide) ?_
      rintro T5 Lc5 _ X5 ⟨rfl, N5q, e5⟩
      have N5 := Fr.app N0 N5q
      show own_Fin _ _ _ _ _ _ _ (T5.setTop (mkF m 5 #[rv oa, iv 1, jv vf, sS, jv vl, sS, uS, uS, uS, uS] [(.int (own_stb (3458764517041766401 : Int64)))]))
      rw [show (own_stb (3458764517041766401 : Int64)) = (4 : Int32) from by decide +kernel]
      refine own_Fin.go (fun t k => XS.iconst X5.here hx rfl (hb hby d12_5) (XS.aloadN X5.here hx rfl (hb hby d12_6) rfl rfl (XS.iloadN X5.here hx rfl (hb hby d12_7) rfl k))) ?_
      refine own_pC X5 hx hZ hown (own_W hw 70 rfl) (own_W hw 71 rfl) (own_W hw 48 rfl) rfl (own_W hw 72 rfl) (own_W hw 73 rfl) (own_W hw 17 rfl) (by decide) (own_rm_len1 l Z a0 hw [] oa oz kz (12 : Int32) (3458764517041766401 : Int64) (1 : Int64) ([(.long yp), (.long wp), (.long ya), (.long wa), (.long yb), (.long wb), (.long yc), (.long wc), (.long yq), (.long wq)]) h0 n0 Z0 F_oa_cells V_oz (by decide)) 2 (by decide) (by decide) e5 E_oa rfl (by rw [hml]; rfl) [(.int 1)] (lenOf own_pd1 rfl) rfl (Nat.le_of_eq rfl) (hb hby d12_8) rfl (by decide) (by decide) ?_
      rintro T6 Lc6 _ X6 ⟨rfl, N6q, e6⟩
      have N6 := Fr.app N5 N6q
      show own_Fin _ _ _ _ _ _ _ (T6.setTop (mkF m 11 #[rv oa, iv 1, jv vf, sS, jv vl, sS, uS, uS, uS, uS] [(.int (own_lenb (3458764517041766401 : Int64))), (.int 2), (.int 4)]))
      rw [show (own_lenb (3458764517041766401 : Int64)) = (3 : Int32) from by decide +kernel]
      refine own_Fin.go (fun t k => XS.imul X6.here hx rfl (hb hby d12_11) rfl k) ?_
      show own_Fin _ _ _ _ _ _ _ (T6.setTop (mkF m 12 #[rv oa, iv 1, jv vf, sS, jv vl, sS, uS, uS, uS, uS] [(.int ((2 : Int32) * (3 : Int32))), (.int 4)]))
      rw [show ((2 : Int32) * (3 : Int32)) = (6 : Int32) from by decide +kernel]
      refine own_Fin.go (fun t k => XS.iadd X6.here hx rfl (hb hby d12_12) rfl k) ?_
      show own_Fin _ _ _ _ _ _ _ (T6.setTop (mkF m 13 #[rv oa, iv 1, jv vf, sS, jv vl, sS, uS, uS, uS, uS] [(.int ((4 : Int32) + (6 : Int32)))]))
      rw [show ((4 : Int32) + (6 : Int32)) = (10 : Int32) from by decide +kernel]
      refine own_Fin.go (fun t k => XS.istore X6.here hx rfl (hb hby d12_13) rfl (l' := #[rv oa, iv 1, jv vf, sS, jv vl, sS, iv 10, uS, uS, uS]) rfl (XS.lconst X6.here hx rfl (hb hby d12_15) (XS.lstore X6.here hx rfl (hb hby d12_16) rfl (l' := #[rv oa, iv 1, jv vf, sS, jv vl, sS, iv 10, jv 0, sS, uS]) rfl (XS.aloadN X6.here hx rfl (hb hby d12_18) rfl rfl k)))) ?_
      refine own_Fin.go (fun t k => XS.iloadN X6.here hx rfl (hb hby d12_19) rfl (XS.lloadN X6.here hx rfl (hb hby d12_20) rfl k)) ?_
      refine own_pC X6 hx hZ hown (own_W hw 54 rfl) (own_W hw 55 rfl) (own_W hw 48 rfl) rfl (own_W hw 56 rfl) (own_W hw 57 rfl) (own_W hw 17 rfl) (by decide) (own_rm_ix3 l Z a0 hw [] oa vf oz kz (12 : Int32) (3458764517041766401 : Int64) (1 : Int64) yp wp ya wa yb wb yc wc ([(.long yq), (.long wq)]) h0 n0 Z0 E_oa F_oa_cells V_oz (by decide) (by decide) (by decide)) 0 (by decide) (by decide) e6 E_oa rfl (by rw [hml]; rfl) [(.int 1), (.long vf)] (lenOf own_pd4 rfl) rfl (Nat.le_of_eq rfl) (hb hby d12_21) rfl (by decide) (by decide) ?_
      rintro T7 Lc7 _ X7 ⟨rfl, N7q, e7⟩
      have N7 := Fr.app N6 N7q
      show own_Fin _ _ _ _ _ _ _ (T7.setTop (mkF m 24 #[rv oa, iv 1, jv vf, sS, jv vl, sS, iv 10, jv 0, sS, uS] [(.int (own_lb3 ya yb yc vf))]))
      rw [show (own_lb3 ya yb yc vf) = (8 : Int32) from by simp only [own_lb3, if_pos qyb, if_neg qyc]]
      refine own_Fin.go (fun t k => XS.istore X7.here hx rfl (hb hby d12_24) rfl (l' := #[rv oa, iv 1, jv vf, sS, jv vl, sS, iv 10, jv 0, sS, iv 8]) rfl (XS.iload X7.here hx rfl (hb hby d12_26) rfl (XS.iload X7.here hx rfl (hb hby d12_28) rfl (XS.icmpNo X7.here hx rfl (hb hby d12_30) rfl (by decide) k)))) ?_
      refine own_Fin.go (fun t k => XS.aloadN X7.here hx rfl (hb hby d12_33) rfl rfl k) ?_
      refine own_gF X7 hx hZ hown (own_W hw 39 rfl) e7 F_oa_cells rfl rfl (hb hby d12_34) ?_
      intro T9 X9 e9
      show own_Fin _ _ _ _ _ _ _ (T9.setTop (mkF m 37 #[rv oa, iv 1, jv vf, sS, jv vl, sS, iv 10, jv 0, sS, iv 8] [(.ref oz)]))
      refine own_Fin.go (fun t k => XS.iload X9.here hx rfl (hb hby d12_37) rfl k) ?_
      refine own_lal X9 hx hZ e9 V_oz ⟨by decide, by decide⟩ (v := yc) rfl rfl rfl (hb hby d12_39) ?_
      refine own_Fin.go (fun t k => XS.lload X9.here hx rfl (hb hby d12_40) rfl (XS.lcmp X9.here hx rfl (hb hby d12_42) rfl k)) ?_
      by_cases hc43_11 : vl < yc
      · refine own_Fin.go (fun t k => XS.ifYes X9.here hx rfl (pc0 := 43) (pc' := 68) rfl (hb hby d12_43) rfl (Jvm.Free.XT.ll_gt_t hc43_11) (by decide) (by decide) k) ?_
        show own_Fin _ _ _ _ _ _ _ (T9.setTop (mkF m 68 #[rv oa, iv 1, jv vf, sS, jv vl, sS, iv 10, jv 0, sS, iv 8] []))
        refine own_Fin.go (fun t k => XS.lload X9.here hx rfl (hb hby d12_68) rfl k) ?_
        refine own_retJ X9 hx Bd.returns (hb hby d12_70) Bd.notSynchronized (by decide) (by decide) ?_
        rw [e9]
        exact ⟨by simp only [own_sumc, own_run, if_pos qyb, if_neg qyc, if_pos hc43_11], N7, rfl⟩
      · refine own_Fin.go (fun t k => XS.ifNo X9.here hx rfl (hb hby d12_43) rfl (Jvm.Free.XT.ll_gt_f hc43_11) k) ?_
        show own_Fin _ _ _ _ _ _ _ (T9.setTop (mkF m 46 #[rv oa, iv 1, jv vf, sS, jv vl, sS, iv 10, jv 0, sS, iv 8] []))
        refine own_Fin.go (fun t k => XS.lload X9.here hx rfl (hb hby d12_46) rfl (XS.aloadN X9.here hx rfl (hb hby d12_48) rfl rfl k)) ?_
        refine own_gF X9 hx hZ hown (own_W hw 39 rfl) e9 F_oa_cells rfl rfl (hb hby d12_49) ?_
        intro T12 X12 e12
        refine own_Fin.go (fun t k => XS.iload X12.here hx rfl (hb hby d12_52) rfl (XS.iconst X12.here hx rfl (hb hby d12_54) (XS.iadd X12.here hx rfl (hb hby d12_55) rfl k))) ?_
        show own_Fin _ _ _ _ _ _ _ (T12.setTop (mkF m 56 #[rv oa, iv 1, jv vf, sS, jv vl, sS, iv 10, jv 0, sS, iv 8] [(.int ((8 : Int32) + (1 : Int32))), (.ref oz), (.long 0)]))
        rw [show ((8 : Int32) + (1 : Int32)) = (9 : Int32) from by decide +kernel]
        refine own_lal X12 hx hZ e12 V_oz ⟨by decide, by decide⟩ (v := wc) rfl rfl rfl (hb hby d12_56) ?_
        refine own_sC X12 hx hZ hown (own_W hw 103 rfl) (own_W hw 104 rfl) (own_W hw 17 rfl) (own_W hw 105 rfl) (by decide) (own_rm_sat l Z a0 hw [] (0 : Int64) wc  h0 n0 Z0 ) 0 (by decide) (by decide) e12 rfl (by rw [hml]; rfl) [(.long 0), (.long wc)] [] (lenOf own_pd8 rfl) rfl (Nat.le_of_eq rfl) (hb hby d12_57) rfl (by decide) (by decide) ?_
        rintro T14 Lc14 _ X14 ⟨rfl, N14q, e14⟩
        have N14 := Fr.app N7 N14q
        refine own_Fin.go (fun t k => XS.lstore X14.here hx rfl (hb hby d12_60) rfl (l' := #[rv oa, iv 1, jv vf, sS, jv vl, sS, iv 10, .val (.long (own_sat (0 : Int64) wc)), sS, iv 8]) rfl (XS.iinc X14.here hx rfl (hb hby d12_62) rfl (l' := #[rv oa, iv 1, jv vf, sS, jv vl, sS, iv 10, .val (.long (own_sat (0 : Int64) wc)), sS, .val (.int ((8 : Int32) + (2 : Int32)))]) rfl k)) ?_
        show own_Fin _ _ _ _ _ _ _ (T14.setTop (mkF m 65 #[rv oa, iv 1, jv vf, sS, jv vl, sS, iv 10, .val (.long (own_sat (0 : Int64) wc)), sS, .val (.int ((8 : Int32) + (2 : Int32)))] []))
        rw [show ((8 : Int32) + (2 : Int32)) = (10 : Int32) from by decide +kernel]
        refine own_Fin.go (fun t k => XS.goto X14.here hx rfl (pc0 := 65) (pc' := 26) rfl (hb hby d12_65) (by decide) (by decide) (XS.iload X14.here hx rfl (hb hby d12_26) rfl (XS.iload X14.here hx rfl (hb hby d12_28) rfl (XS.icmpYes X14.here hx rfl (pc0 := 30) (pc' := 68) rfl (hb hby d12_30) rfl (by decide) (by decide) (by decide) k)))) ?_
        refine own_Fin.go (fun t k => XS.lload X14.here hx rfl (hb hby d12_68) rfl k) ?_
        refine own_retJ X14 hx Bd.returns (hb hby d12_70) Bd.notSynchronized (by decide) (by decide) ?_
        rw [e14]
        exact ⟨by simp only [own_sumc, own_run, if_pos qyb, if_neg qyc, if_neg hc43_11], N14, rfl⟩
  · by_cases qya : ya < vf
    · show own_Fin _ _ _ _ _ _ _ (s₁.setTop (mkF m 0 #[rv oa, iv 1, jv vf, sS, jv vl, sS, uS, uS, uS, uS] []))
      refine own_Fin.go (fun t k => XS.aloadN X0.here hx rfl (hb hby d12_0) rfl rfl (XS.iloadN X0.here hx rfl (hb hby d12_1) rfl k)) ?_
      refine own_pC X0 hx hZ hown (own_W hw 58 rfl) (own_W hw 59 rfl) (own_W hw 48 rfl) rfl (own_W hw 60 rfl) (own_W hw 61 rfl) (own_W hw 17 rfl) (by decide) (own_rm_st1 l Z a0 hw [] oa oz kz (12 : Int32) (3458764517041766401 : Int64) (1 : Int64) ([(.long yp), (.long wp), (.long ya), (.long wa), (.long yb), (.long wb), (.long yc), (.long wc), (.long yq), (.long wq)]) h0 n0 Z0 E_oa F_oa_cells V_oz (by decide)) 0 (by decide) (by decide) e0 E_oa rfl (by rw [hml]; rfl) [(.int 1)] (lenOf own_pd1 rfl) rfl (Nat.le_of_eq rfl) (hb hby d12_2) rfl (by decide) (by decide) ?_
      rintro T16 Lc16 _ X16 ⟨rfl, N16q, e16⟩
      have N16 := Fr.app N0 N16q
      show own_Fin _ _ _ _ _ _ _ (T16.setTop (mkF m 5 #[rv oa, iv 1, jv vf, sS, jv vl, sS, uS, uS, uS, uS] [(.int (own_stb (3458764517041766401 : Int64)))]))
      rw [show (own_stb (3458764517041766401 : Int64)) = (4 : Int32) from by decide +kernel]
      refine own_Fin.go (fun t k => XS.iconst X16.here hx rfl (hb hby d12_5) (XS.aloadN X16.here hx rfl (hb hby d12_6) rfl rfl (XS.iloadN X16.here hx rfl (hb hby d12_7) rfl k))) ?_
      refine own_pC X16 hx hZ hown (own_W hw 70 rfl) (own_W hw 71 rfl) (own_W hw 48 rfl) rfl (own_W hw 72 rfl) (own_W hw 73 rfl) (own_W hw 17 rfl) (by decide) (own_rm_len1 l Z a0 hw [] oa oz kz (12 : Int32) (3458764517041766401 : Int64) (1 : Int64) ([(.long yp), (.long wp), (.long ya), (.long wa), (.long yb), (.long wb), (.long yc), (.long wc), (.long yq), (.long wq)]) h0 n0 Z0 F_oa_cells V_oz (by decide)) 2 (by decide) (by decide) e16 E_oa rfl (by rw [hml]; rfl) [(.int 1)] (lenOf own_pd1 rfl) rfl (Nat.le_of_eq rfl) (hb hby d12_8) rfl (by decide) (by decide) ?_
      rintro T17 Lc17 _ X17 ⟨rfl, N17q, e17⟩
      have N17 := Fr.app N16 N17q
      show own_Fin _ _ _ _ _ _ _ (T17.setTop (mkF m 11 #[rv oa, iv 1, jv vf, sS, jv vl, sS, uS, uS, uS, uS] [(.int (own_lenb (3458764517041766401 : Int64))), (.int 2), (.int 4)]))
      rw [show (own_lenb (3458764517041766401 : Int64)) = (3 : Int32) from by decide +kernel]
      refine own_Fin.go (fun t k => XS.imul X17.here hx rfl (hb hby d12_11) rfl k) ?_
      show own_Fin _ _ _ _ _ _ _ (T17.setTop (mkF m 12 #[rv oa, iv 1, jv vf, sS, jv vl, sS, uS, uS, uS, uS] [(.int ((2 : Int32) * (3 : Int32))), (.int 4)]))
      rw [show ((2 : Int32) * (3 : Int32)) = (6 : Int32) from by decide +kernel]
      refine own_Fin.go (fun t k => XS.iadd X17.here hx rfl (hb hby d12_12) rfl k) ?_
      show own_Fin _ _ _ _ _ _ _ (T17.setTop (mkF m 13 #[rv oa, iv 1, jv vf, sS, jv vl, sS, uS, uS, uS, uS] [(.int ((4 : Int32) + (6 : Int32)))]))
      rw [show ((4 : Int32) + (6 : Int32)) = (10 : Int32) from by decide +kernel]
      refine own_Fin.go (fun t k => XS.istore X17.here hx rfl (hb hby d12_13) rfl (l' := #[rv oa, iv 1, jv vf, sS, jv vl, sS, iv 10, uS, uS, uS]) rfl (XS.lconst X17.here hx rfl (hb hby d12_15) (XS.lstore X17.here hx rfl (hb hby d12_16) rfl (l' := #[rv oa, iv 1, jv vf, sS, jv vl, sS, iv 10, jv 0, sS, uS]) rfl (XS.aloadN X17.here hx rfl (hb hby d12_18) rfl rfl k)))) ?_
      refine own_Fin.go (fun t k => XS.iloadN X17.here hx rfl (hb hby d12_19) rfl (XS.lloadN X17.here hx rfl (hb hby d12_20) rfl k)) ?_
      refine own_pC X17 hx hZ hown (own_W hw 54 rfl) (own_W hw 55 rfl) (own_W hw 48 rfl) rfl (own_W hw 56 rfl) (own_W hw 57 rfl) (own_W hw 17 rfl) (by decide) (own_rm_ix3 l Z a0 hw [] oa vf oz kz (12 : Int32) (3458764517041766401 : Int64) (1 : Int64) yp wp ya wa yb wb yc wc ([(.long yq), (.long wq)]) h0 n0 Z0 E_oa F_oa_cells V_oz (by decide) (by decide) (by decide)) 0 (by decide) (by decide) e17 E_oa rfl (by rw [hml]; rfl) [(.int 1), (.long vf)] (lenOf own_pd4 rfl) rfl (Nat.le_of_eq rfl) (hb hby d12_21) rfl (by decide) (by decide) ?_
      rintro T18 Lc18 _ X18 ⟨rfl, N18q, e18⟩
      have N18 := Fr.app N17 N18q
      show own_Fin _ _ _ _ _ _ _ (T18.setTop (mkF m 24 #[rv oa, iv 1, jv vf, sS, jv vl, sS, iv 10, jv 0, sS, uS] [(.int (own_lb3 ya yb yc vf))]))
      rw [show (own_lb3 ya yb yc vf) = (6 : Int32) from by simp only [own_lb3, if_neg qyb, if_pos qya]]
      refine own_Fin.go (fun t k => XS.istore X18.here hx rfl (hb hby d12_24) rfl (l' := #[rv oa, iv 1, jv vf, sS, jv vl, sS, iv 10, jv 0, sS, iv 6]) rfl (XS.iload X18.here hx rfl (hb hby d12_26) rfl (XS.iload X18.here hx rfl (hb hby d12_28) rfl (XS.icmpNo X18.here hx rfl (hb hby d12_30) rfl (by decide) k)))) ?_
      refine own_Fin.go (fun t k => XS.aloadN X18.here hx rfl (hb hby d12_33) rfl rfl k) ?_
      refine own_gF X18 hx hZ hown (own_W hw 39 rfl) e18 F_oa_cells rfl rfl (hb hby d12_34) ?_
      intro T20 X20 e20
      show own_Fin _ _ _ _ _ _ _ (T20.setTop (mkF m 37 #[rv oa, iv 1, jv vf, sS, jv vl, sS, iv 10, jv 0, sS, iv 6] [(.ref oz)]))
      refine own_Fin.go (fun t k => XS.iload X20.here hx rfl (hb hby d12_37) rfl k) ?_
      refine own_lal X20 hx hZ e20 V_oz ⟨by decide, by decide⟩ (v := yb) rfl rfl rfl (hb hby d12_39) ?_
      refine own_Fin.go (fun t k => XS.lload X20.here hx rfl (hb hby d12_40) rfl (XS.lcmp X20.here hx rfl (hb hby d12_42) rfl k)) ?_
      by_cases hc43_22 : vl < yb
      · refine own_Fin.go (fun t k => XS.ifYes X20.here hx rfl (pc0 := 43) (pc' := 68) rfl (hb hby d12_43) rfl (Jvm.Free.XT.ll_gt_t hc43_22) (by decide) (by decide) k) ?_
        show own_Fin _ _ _ _ _ _ _ (T20.setTop (mkF m 68 #[rv oa, iv 1, jv vf, sS, jv vl, sS, iv 10, jv 0, sS, iv 6] []))
        refine own_Fin.go (fun t k => XS.lload X20.here hx rfl (hb hby d12_68) rfl k) ?_
        refine own_retJ X20 hx Bd.returns (hb hby d12_70) Bd.notSynchronized (by decide) (by decide) ?_
        rw [e20]
        exact ⟨by simp only [own_sumc, own_run, if_neg qyb, if_pos qya, if_pos hc43_22], N18, rfl⟩
      · refine own_Fin.go (fun t k => XS.ifNo X20.here hx rfl (hb hby d12_43) rfl (Jvm.Free.XT.ll_gt_f hc43_22) k) ?_
        show own_Fin _ _ _ _ _ _ _ (T20.setTop (mkF m 46 #[rv oa, iv 1, jv vf, sS, jv vl, sS, iv 10, jv 0, sS, iv 6] []))
        refine own_Fin.go (fun t k => XS.lload X20.here hx rfl (hb hby d12_46) rfl (XS.aloadN X20.here hx rfl (hb hby d12_48) rfl rfl k)) ?_
        refine own_gF X20 hx hZ hown (own_W hw 39 rfl) e20 F_oa_cells rfl rfl (hb hby d12_49) ?_
        intro T23 X23 e23
        refine own_Fin.go (fun t k => XS.iload X23.here hx rfl (hb hby d12_52) rfl (XS.iconst X23.here hx rfl (hb hby d12_54) (XS.iadd X23.here hx rfl (hb hby d12_55) rfl k))) ?_
        show own_Fin _ _ _ _ _ _ _ (T23.setTop (mkF m 56 #[rv oa, iv 1, jv vf, sS, jv vl, sS, iv 10, jv 0, sS, iv 6] [(.int ((6 : Int32) + (1 : Int32))), (.ref oz), (.long 0)]))
        rw [show ((6 : Int32) + (1 : Int32)) = (7 : Int32) from by decide +kernel]
        refine own_lal X23 hx hZ e23 V_oz ⟨by decide, by decide⟩ (v := wb) rfl rfl rfl (hb hby d12_56) ?_
        refine own_sC X23 hx hZ hown (own_W hw 103 rfl) (own_W hw 104 rfl) (own_W hw 17 rfl) (own_W hw 105 rfl) (by decide) (own_rm_sat l Z a0 hw [] (0 : Int64) wb  h0 n0 Z0 ) 0 (by decide) (by decide) e23 rfl (by rw [hml]; rfl) [(.long 0), (.long wb)] [] (lenOf own_pd8 rfl) rfl (Nat.le_of_eq rfl) (hb hby d12_57) rfl (by decide) (by decide) ?_
        rintro T25 Lc25 _ X25 ⟨rfl, N25q, e25⟩
        have N25 := Fr.app N18 N25q
        refine own_Fin.go (fun t k => XS.lstore X25.here hx rfl (hb hby d12_60) rfl (l' := #[rv oa, iv 1, jv vf, sS, jv vl, sS, iv 10, .val (.long (own_sat (0 : Int64) wb)), sS, iv 6]) rfl (XS.iinc X25.here hx rfl (hb hby d12_62) rfl (l' := #[rv oa, iv 1, jv vf, sS, jv vl, sS, iv 10, .val (.long (own_sat (0 : Int64) wb)), sS, .val (.int ((6 : Int32) + (2 : Int32)))]) rfl k)) ?_
        show own_Fin _ _ _ _ _ _ _ (T25.setTop (mkF m 65 #[rv oa, iv 1, jv vf, sS, jv vl, sS, iv 10, .val (.long (own_sat (0 : Int64) wb)), sS, .val (.int ((6 : Int32) + (2 : Int32)))] []))
        rw [show ((6 : Int32) + (2 : Int32)) = (8 : Int32) from by decide +kernel]
        refine own_Fin.go (fun t k => XS.goto X25.here hx rfl (pc0 := 65) (pc' := 26) rfl (hb hby d12_65) (by decide) (by decide) (XS.iload X25.here hx rfl (hb hby d12_26) rfl (XS.iload X25.here hx rfl (hb hby d12_28) rfl (XS.icmpNo X25.here hx rfl (hb hby d12_30) rfl (by decide) k)))) ?_
        refine own_Fin.go (fun t k => XS.aloadN X25.here hx rfl (hb hby d12_33) rfl rfl k) ?_
        refine own_gF X25 hx hZ hown (own_W hw 39 rfl) e25 F_oa_cells rfl rfl (hb hby d12_34) ?_
        intro T27 X27 e27
        show own_Fin _ _ _ _ _ _ _ (T27.setTop (mkF m 37 #[rv oa, iv 1, jv vf, sS, jv vl, sS, iv 10, .val (.long (own_sat (0 : Int64) wb)), sS, iv 8] [(.ref oz)]))
        refine own_Fin.go (fun t k => XS.iload X27.here hx rfl (hb hby d12_37) rfl k) ?_
        refine own_lal X27 hx hZ e27 V_oz ⟨by decide, by decide⟩ (v := yc) rfl rfl rfl (hb hby d12_39) ?_
        refine own_Fin.go (fun t k => XS.lload X27.here hx rfl (hb hby d12_40) rfl (XS.lcmp X27.here hx rfl (hb hby d12_42) rfl k)) ?_
        by_cases hc43_29 : vl < yc
        · refine own_Fin.go (fun t k => XS.ifYes X27.here hx rfl (pc0 := 43) (pc' := 68) rfl (hb hby d12_43) rfl (Jvm.Free.XT.ll_gt_t hc43_29) (by decide) (by decide) k) ?_
          show own_Fin _ _ _ _ _ _ _ (T27.setTop (mkF m 68 #[rv oa, iv 1, jv vf, sS, jv vl, sS, iv 10, .val (.long (own_sat (0 : Int64) wb)), sS, iv 8] []))
          refine own_Fin.go (fun t k => XS.lload X27.here hx rfl (hb hby d12_68) rfl k) ?_
          refine own_retJ X27 hx Bd.returns (hb hby d12_70) Bd.notSynchronized (by decide) (by decide) ?_
          rw [e27]
          exact ⟨by simp only [own_sumc, own_run, if_neg qyb, if_pos qya, if_neg hc43_22, if_pos hc43_29], N25, rfl⟩
        · refine own_Fin.go (fun t k => XS.ifNo X27.here hx rfl (hb hby d12_43) rfl (Jvm.Free.XT.ll_gt_f hc43_29) k) ?_
          show own_Fin _ _ _ _ _ _ _ (T27.setTop (mkF m 46 #[rv oa, iv 1, jv vf, sS, jv vl, sS, iv 10, .val (.long (own_sat (0 : Int64) wb)), sS, iv 8] []))
          refine own_Fin.go (fun t k => XS.lload X27.here hx rfl (hb hby d12_46) rfl (XS.aloadN X27.here hx rfl (hb hby d12_48) rfl rfl k)) ?_
          refine own_gF X27 hx hZ hown (own_W hw 39 rfl) e27 F_oa_cells rfl rfl (hb hby d12_49) ?_
          intro T30 X30 e30
          refine own_Fin.go (fun t k => XS.iload X30.here hx rfl (hb hby d12_52) rfl (XS.iconst X30.here hx rfl (hb hby d12_54) (XS.iadd X30.here hx rfl (hb hby d12_55) rfl k))) ?_
          show own_Fin _ _ _ _ _ _ _ (T30.setTop (mkF m 56 #[rv oa, iv 1, jv vf, sS, jv vl, sS, iv 10, .val (.long (own_sat (0 : Int64) wb)), sS, iv 8] [(.int ((8 : Int32) + (1 : Int32))), (.ref oz), (.long (own_sat (0 : Int64) wb))]))
          rw [show ((8 : Int32) + (1 : Int32)) = (9 : Int32) from by decide +kernel]
          refine own_lal X30 hx hZ e30 V_oz ⟨by decide, by decide⟩ (v := wc) rfl rfl rfl (hb hby d12_56) ?_
          refine own_sC X30 hx hZ hown (own_W hw 103 rfl) (own_W hw 104 rfl) (own_W hw 17 rfl) (own_W hw 105 rfl) (by decide) (own_rm_sat l Z a0 hw [] (own_sat (0 : Int64) wb) wc  h0 n0 Z0 ) 0 (by decide) (by decide) e30 rfl (by rw [hml]; rfl) [(.long (own_sat (0 : Int64) wb)), (.long wc)] [] (lenOf own_pd8 rfl) rfl (Nat.le_of_eq rfl) (hb hby d12_57) rfl (by decide) (by decide) ?_
          rintro T32 Lc32 _ X32 ⟨rfl, N32q, e32⟩
          have N32 := Fr.app N25 N32q
          refine own_Fin.go (fun t k => XS.lstore X32.here hx rfl (hb hby d12_60) rfl (l' := #[rv oa, iv 1, jv vf, sS, jv vl, sS, iv 10, .val (.long (own_sat (own_sat (0 : Int64) wb) wc)), sS, iv 8]) rfl (XS.iinc X32.here hx rfl (hb hby d12_62) rfl (l' := #[rv oa, iv 1, jv vf, sS, jv vl, sS, iv 10, .val (.long (own_sat (own_sat (0 : Int64) wb) wc)), sS, .val (.int ((8 : Int32) + (2 : Int32)))]) rfl k)) ?_
          show own_Fin _ _ _ _ _ _ _ (T32.setTop (mkF m 65 #[rv oa, iv 1, jv vf, sS, jv vl, sS, iv 10, .val (.long (own_sat (own_sat (0 : Int64) wb) wc)), sS, .val (.int ((8 : Int32) + (2 : Int32)))] []))
          rw [show ((8 : Int32) + (2 : Int32)) = (10 : Int32) from by decide +kernel]
          refine own_Fin.go (fun t k => XS.goto X32.here hx rfl (pc0 := 65) (pc' := 26) rfl (hb hby d12_65) (by decide) (by decide) (XS.iload X32.here hx rfl (hb hby d12_26) rfl (XS.iload X32.here hx rfl (hb hby d12_28) rfl (XS.icmpYes X32.here hx rfl (pc0 := 30) (pc' := 68) rfl (hb hby d12_30) rfl (by decide) (by decide) (by decide) k)))) ?_
          refine own_Fin.go (fun t k => XS.lload X32.here hx rfl (hb hby d12_68) rfl k) ?_
          refine own_retJ X32 hx Bd.returns (hb hby d12_70) Bd.notSynchronized (by decide) (by decide) ?_
          rw [e32]
          exact ⟨by simp only [own_sumc, own_run, if_neg qyb, if_pos qya, if_neg hc43_22, if_neg hc43_29], N32, rfl⟩
    · show own_Fin _ _ _ _ _ _ _ (s₁.setTop (mkF m 0 #[rv oa, iv 1, jv vf, sS, jv vl, sS, uS, uS, uS, uS] []))
      refine own_Fin.go (fun t k => XS.aloadN X0.here hx rfl (hb hby d12_0) rfl rfl (XS.iloadN X0.here hx rfl (hb hby d12_1) rfl k)) ?_
      refine own_pC X0 hx hZ hown (own_W hw 58 rfl) (own_W hw 59 rfl) (own_W hw 48 rfl) rfl (own_W hw 60 rfl) (own_W hw 61 rfl) (own_W hw 17 rfl) (by decide) (own_rm_st1 l Z a0 hw [] oa oz kz (12 : Int32) (3458764517041766401 : Int64) (1 : Int64) ([(.long yp), (.long wp), (.long ya), (.long wa), (.long yb), (.long wb), (.long yc), (.long wc), (.long yq), (.long wq)]) h0 n0 Z0 E_oa F_oa_cells V_oz (by decide)) 0 (by decide) (by decide) e0 E_oa rfl (by rw [hml]; rfl) [(.int 1)] (lenOf own_pd1 rfl) rfl (Nat.le_of_eq rfl) (hb hby d12_2) rfl (by decide) (by decide) ?_
      rintro T34 Lc34 _ X34 ⟨rfl, N34q, e34⟩
      have N34 := Fr.app N0 N34q
      show own_Fin _ _ _ _ _ _ _ (T34.setTop (mkF m 5 #[rv oa, iv 1, jv vf, sS, jv vl, sS, uS, uS, uS, uS] [(.int (own_stb (3458764517041766401 : Int64)))]))
      rw [show (own_stb (3458764517041766401 : Int64)) = (4 : Int32) from by decide +kernel]
      refine own_Fin.go (fun t k => XS.iconst X34.here hx rfl (hb hby d12_5) (XS.aloadN X34.here hx rfl (hb hby d12_6) rfl rfl (XS.iloadN X34.here hx rfl (hb hby d12_7) rfl k))) ?_
      refine own_pC X34 hx hZ hown (own_W hw 70 rfl) (own_W hw 71 rfl) (own_W hw 48 rfl) rfl (own_W hw 72 rfl) (own_W hw 73 rfl) (own_W hw 17 rfl) (by decide) (own_rm_len1 l Z a0 hw [] oa oz kz (12 : Int32) (3458764517041766401 : Int64) (1 : Int64) ([(.long yp), (.long wp), (.long ya), (.long wa), (.long yb), (.long wb), (.long yc), (.long wc), (.long yq), (.long wq)]) h0 n0 Z0 F_oa_cells V_oz (by decide)) 2 (by decide) (by decide) e34 E_oa rfl (by rw [hml]; rfl) [(.int 1)] (lenOf own_pd1 rfl) rfl (Nat.le_of_eq rfl) (hb hby d12_8) rfl (by decide) (by decide) ?_
      rintro T35 Lc35 _ X35 ⟨rfl, N35q, e35⟩
      have N35 := Fr.app N34 N35q
      show own_Fin _ _ _ _ _ _ _ (T35.setTop (mkF m 11 #[rv oa, iv 1, jv vf, sS, jv vl, sS, uS, uS, uS, uS] [(.int (own_lenb (3458764517041766401 : Int64))), (.int 2), (.int 4)]))
      rw [show (own_lenb (3458764517041766401 : Int64)) = (3 : Int32) from by decide +kernel]
      refine own_Fin.go (fun t k => XS.imul X35.here hx rfl (hb hby d12_11) rfl k) ?_
      show own_Fin _ _ _ _ _ _ _ (T35.setTop (mkF m 12 #[rv oa, iv 1, jv vf, sS, jv vl, sS, uS, uS, uS, uS] [(.int ((2 : Int32) * (3 : Int32))), (.int 4)]))
      rw [show ((2 : Int32) * (3 : Int32)) = (6 : Int32) from by decide +kernel]
      refine own_Fin.go (fun t k => XS.iadd X35.here hx rfl (hb hby d12_12) rfl k) ?_
      show own_Fin _ _ _ _ _ _ _ (T35.setTop (mkF m 13 #[rv oa, iv 1, jv vf, sS, jv vl, sS, uS, uS, uS, uS] [(.int ((4 : Int32) + (6 : Int32)))]))
      rw [show ((4 : Int32) + (6 : Int32)) = (10 : Int32) from by decide +kernel]
      refine own_Fin.go (fun t k => XS.istore X35.here hx rfl (hb hby d12_13) rfl (l' := #[rv oa, iv 1, jv vf, sS, jv vl, sS, iv 10, uS, uS, uS]) rfl (XS.lconst X35.here hx rfl (hb hby d12_15) (XS.lstore X35.here hx rfl (hb hby d12_16) rfl (l' := #[rv oa, iv 1, jv vf, sS, jv vl, sS, iv 10, jv 0, sS, uS]) rfl (XS.aloadN X35.here hx rfl (hb hby d12_18) rfl rfl k)))) ?_
      refine own_Fin.go (fun t k => XS.iloadN X35.here hx rfl (hb hby d12_19) rfl (XS.lloadN X35.here hx rfl (hb hby d12_20) rfl k)) ?_
      refine own_pC X35 hx hZ hown (own_W hw 54 rfl) (own_W hw 55 rfl) (own_W hw 48 rfl) rfl (own_W hw 56 rfl) (own_W hw 57 rfl) (own_W hw 17 rfl) (by decide) (own_rm_ix3 l Z a0 hw [] oa vf oz kz (12 : Int32) (3458764517041766401 : Int64) (1 : Int64) yp wp ya wa yb wb yc wc ([(.long yq), (.long wq)]) h0 n0 Z0 E_oa F_oa_cells V_oz (by decide) (by decide) (by decide)) 0 (by decide) (by decide) e35 E_oa rfl (by rw [hml]; rfl) [(.int 1), (.long vf)] (lenOf own_pd4 rfl) rfl (Nat.le_of_eq rfl) (hb hby d12_21) rfl (by decide) (by decide) ?_
      rintro T36 Lc36 _ X36 ⟨rfl, N36q, e36⟩
      have N36 := Fr.app N35 N36q
      show own_Fin _ _ _ _ _ _ _ (T36.setTop (mkF m 24 #[rv oa, iv 1, jv vf, sS, jv vl, sS, iv 10, jv 0, sS, uS] [(.int (own_lb3 ya yb yc vf))]))
      rw [show (own_lb3 ya yb yc vf) = (4 : Int32) from by simp only [own_lb3, if_neg qyb, if_neg qya]]
      refine own_Fin.go (fun t k => XS.istore X36.here hx rfl (hb hby d12_24) rfl (l' := #[rv oa, iv 1, jv vf, sS, jv vl, sS, iv 10, jv 0, sS, iv 4]) rfl (XS.iload X36.here hx rfl (hb hby d12_26) rfl (XS.iload X36.here hx rfl (hb hby d12_28) rfl (XS.icmpNo X36.here hx rfl (hb hby d12_30) rfl (by decide) k)))) ?_
      refine own_Fin.go (fun t k => XS.aloadN X36.here hx rfl (hb hby d12_33) rfl rfl k) ?_
      refine own_gF X36 hx hZ hown (own_W hw 39 rfl) e36 F_oa_cells rfl rfl (hb hby d12_34) ?_
      intro T38 X38 e38
      show own_Fin _ _ _ _ _ _ _ (T38.setTop (mkF m 37 #[rv oa, iv 1, jv vf, sS, jv vl, sS, iv 10, jv 0, sS, iv 4] [(.ref oz)]))
      refine own_Fin.go (fun t k => XS.iload X38.here hx rfl (hb hby d12_37) rfl k) ?_
      refine own_lal X38 hx hZ e38 V_oz ⟨by decide, by decide⟩ (v := ya) rfl rfl rfl (hb hby d12_39) ?_
      refine own_Fin.go (fun t k => XS.lload X38.here hx rfl (hb hby d12_40) rfl (XS.lcmp X38.here hx rfl (hb hby d12_42) rfl k)) ?_
      by_cases hc43_40 : vl < ya
      · refine own_Fin.go (fun t k => XS.ifYes X38.here hx rfl (pc0 := 43) (pc' := 68) rfl (hb hby d12_43) rfl (Jvm.Free.XT.ll_gt_t hc43_40) (by decide) (by decide) k) ?_
        show own_Fin _ _ _ _ _ _ _ (T38.setTop (mkF m 68 #[rv oa, iv 1, jv vf, sS, jv vl, sS, iv 10, jv 0, sS, iv 4] []))
        refine own_Fin.go (fun t k => XS.lload X38.here hx rfl (hb hby d12_68) rfl k) ?_
        refine own_retJ X38 hx Bd.returns (hb hby d12_70) Bd.notSynchronized (by decide) (by decide) ?_
        rw [e38]
        exact ⟨by simp only [own_sumc, own_run, if_neg qyb, if_neg qya, if_pos hc43_40], N36, rfl⟩
      · refine own_Fin.go (fun t k => XS.ifNo X38.here hx rfl (hb hby d12_43) rfl (Jvm.Free.XT.ll_gt_f hc43_40) k) ?_
        show own_Fin _ _ _ _ _ _ _ (T38.setTop (mkF m 46 #[rv oa, iv 1, jv vf, sS, jv vl, sS, iv 10, jv 0, sS, iv 4] []))
        refine own_Fin.go (fun t k => XS.lload X38.here hx rfl (hb hby d12_46) rfl (XS.aloadN X38.here hx rfl (hb hby d12_48) rfl rfl k)) ?_
        refine own_gF X38 hx hZ hown (own_W hw 39 rfl) e38 F_oa_cells rfl rfl (hb hby d12_49) ?_
        intro T41 X41 e41
        refine own_Fin.go (fun t k => XS.iload X41.here hx rfl (hb hby d12_52) rfl (XS.iconst X41.here hx rfl (hb hby d12_54) (XS.iadd X41.here hx rfl (hb hby d12_55) rfl k))) ?_
        show own_Fin _ _ _ _ _ _ _ (T41.setTop (mkF m 56 #[rv oa, iv 1, jv vf, sS, jv vl, sS, iv 10, jv 0, sS, iv 4] [(.int ((4 : Int32) + (1 : Int32))), (.ref oz), (.long 0)]))
        rw [show ((4 : Int32) + (1 : Int32)) = (5 : Int32) from by decide +kernel]
        refine own_lal X41 hx hZ e41 V_oz ⟨by decide, by decide⟩ (v := wa) rfl rfl rfl (hb hby d12_56) ?_
        refine own_sC X41 hx hZ hown (own_W hw 103 rfl) (own_W hw 104 rfl) (own_W hw 17 rfl) (own_W hw 105 rfl) (by decide) (own_rm_sat l Z a0 hw [] (0 : Int64) wa  h0 n0 Z0 ) 0 (by decide) (by decide) e41 rfl (by rw [hml]; rfl) [(.long 0), (.long wa)] [] (lenOf own_pd8 rfl) rfl (Nat.le_of_eq rfl) (hb hby d12_57) rfl (by decide) (by decide) ?_
        rintro T43 Lc43 _ X43 ⟨rfl, N43q, e43⟩
        have N43 := Fr.app N36 N43q
        refine own_Fin.go (fun t k => XS.lstore X43.here hx rfl (hb hby d12_60) rfl (l' := #[rv oa, iv 1, jv vf, sS, jv vl, sS, iv 10, .val (.long (own_sat (0 : Int64) wa)), sS, iv 4]) rfl (XS.iinc X43.here hx rfl (hb hby d12_62) rfl (l' := #[rv oa, iv 1, jv vf, sS, jv vl, sS, iv 10, .val (.long (own_sat (0 : Int64) wa)), sS, .val (.int ((4 : Int32) + (2 : Int32)))]) rfl k)) ?_
        show own_Fin _ _ _ _ _ _ _ (T43.setTop (mkF m 65 #[rv oa, iv 1, jv vf, sS, jv vl, sS, iv 10, .val (.long (own_sat (0 : Int64) wa)), sS, .val (.int ((4 : Int32) + (2 : Int32)))] []))
        rw [show ((4 : Int32) + (2 : Int32)) = (6 : Int32) from by decide +kernel]
        refine own_Fin.go (fun t k => XS.goto X43.here hx rfl (pc0 := 65) (pc' := 26) rfl (hb hby d12_65) (by decide) (by decide) (XS.iload X43.here hx rfl (hb hby d12_26) rfl (XS.iload X43.here hx rfl (hb hby d12_28) rfl (XS.icmpNo X43.here hx rfl (hb hby d12_30) rfl (by decide) k)))) ?_
        refine own_Fin.go (fun t k => XS.aloadN X43.here hx rfl (hb hby d12_33) rfl rfl k) ?_
        refine own_gF X43 hx hZ hown (own_W hw 39 rfl) e43 F_oa_cells rfl rfl (hb hby d12_34) ?_
        intro T45 X45 e45
        show own_Fin _ _ _ _ _ _ _ (T45.setTop (mkF m 37 #[rv oa, iv 1, jv vf, sS, jv vl, sS, iv 10, .val (.long (own_sat (0 : Int64) wa)), sS, iv 6] [(.ref oz)]))
        refine own_Fin.go (fun t k => XS.iload X45.here hx rfl (hb hby d12_37) rfl k) ?_
        refine own_lal X45 hx hZ e45 V_oz ⟨by decide, by decide⟩ (v := yb) rfl rfl rfl (hb hby d12_39) ?_
        refine own_Fin.go (fun t k => XS.lload X45.here hx rfl (hb hby d12_40) rfl (XS.lcmp X45.here hx rfl (hb hby d12_42) rfl k)) ?_
        by_cases hc43_47 : vl < yb
        · refine own_Fin.go (fun t k => XS.ifYes X45.here hx rfl (pc0 := 43) (pc' := 68) rfl (hb hby d12_43) rfl (Jvm.Free.XT.ll_gt_t hc43_47) (by decide) (by decide) k) ?_
          show own_Fin _ _ _ _ _ _ _ (T45.setTop (mkF m 68 #[rv oa, iv 1, jv vf, sS, jv vl, sS, iv 10, .val (.long (own_sat (0 : Int64) wa)), sS, iv 6] []))
          refine own_Fin.go (fun t k => XS.lload X45.here hx rfl (hb hby d12_68) rfl k) ?_
          refine own_retJ X45 hx Bd.returns (hb hby d12_70) Bd.notSynchronized (by decide) (by decide) ?_
          rw [e45]
          exact ⟨by simp only [own_sumc, own_run, if_neg qyb, if_neg qya, if_neg hc43_40, if_pos hc43_47], N43, rfl⟩
        · refine own_Fin.go (fun t k => XS.ifNo X45.here hx rfl (hb hby d12_43) rfl (Jvm.Free.XT.ll_gt_f hc43_47) k) ?_
          show own_Fin _ _ _ _ _ _ _ (T45.setTop (mkF m 46 #[rv oa, iv 1, jv vf, sS, jv vl, sS, iv 10, .val (.long (own_sat (0 : Int64) wa)), sS, iv 6] []))
          refine own_Fin.go (fun t k => XS.lload X45.here hx rfl (hb hby d12_46) rfl (XS.aloadN X45.here hx rfl (hb hby d12_48) rfl rfl k)) ?_
          refine own_gF X45 hx hZ hown (own_W hw 39 rfl) e45 F_oa_cells rfl rfl (hb hby d12_49) ?_
          intro T48 X48 e48
          refine own_Fin.go (fun t k => XS.iload X48.here hx rfl (hb hby d12_52) rfl (XS.iconst X48.here hx rfl (hb hby d12_54) (XS.iadd X48.here hx rfl (hb hby d12_55) rfl k))) ?_
          show own_Fin _ _ _ _ _ _ _ (T48.setTop (mkF m 56 #[rv oa, iv 1, jv vf, sS, jv vl, sS, iv 10, .val (.long (own_sat (0 : Int64) wa)), sS, iv 6] [(.int ((6 : Int32) + (1 : Int32))), (.ref oz), (.long (own_sat (0 : Int64) wa))]))
          rw [show ((6 : Int32) + (1 : Int32)) = (7 : Int32) from by decide +kernel]
          refine own_lal X48 hx hZ e48 V_oz ⟨by decide, by decide⟩ (v := wb) rfl rfl rfl (hb hby d12_56) ?_
          refine own_sC X48 hx hZ hown (own_W hw 103 rfl) (own_W hw 104 rfl) (own_W hw 17 rfl) (own_W hw 105 rfl) (by decide) (own_rm_sat l Z a0 hw [] (own_sat (0 : Int64) wa) wb  h0 n0 Z0 ) 0 (by decide) (by decide) e48 rfl (by rw [hml]; rfl) [(.long (own_sat (0 : Int64) wa)), (.long wb)] [] (lenOf own_pd8 rfl) rfl (Nat.le_of_eq rfl) (hb hby d12_57) rfl (by decide) (by decide) ?_
          rintro T50 Lc50 _ X50 ⟨rfl, N50q, e50⟩
          have N50 := Fr.app N43 N50q
          refine own_Fin.go (fun t k => XS.lstore X50.here hx rfl (hb hby d12_60) rfl (l' := #[rv oa, iv 1, jv vf, sS, jv vl, sS, iv 10, .val (.long (own_sat (own_sat (0 : Int64) wa) wb)), sS, iv 6]) rfl (XS.iinc X50.here hx rfl (hb hby d12_62) rfl (l' := #[rv oa, iv 1, jv vf, sS, jv vl, sS, iv 10, .val (.long (own_sat (own_sat (0 : Int64) wa) wb)), sS, .val (.int ((6 : Int32) + (2 : Int32)))]) rfl k)) ?_
          show own_Fin _ _ _ _ _ _ _ (T50.setTop (mkF m 65 #[rv oa, iv 1, jv vf, sS, jv vl, sS, iv 10, .val (.long (own_sat (own_sat (0 : Int64) wa) wb)), sS, .val (.int ((6 : Int32) + (2 : Int32)))] []))
          rw [show ((6 : Int32) + (2 : Int32)) = (8 : Int32) from by decide +kernel]
          refine own_Fin.go (fun t k => XS.goto X50.here hx rfl (pc0 := 65) (pc' := 26) rfl (hb hby d12_65) (by decide) (by decide) (XS.iload X50.here hx rfl (hb hby d12_26) rfl (XS.iload X50.here hx rfl (hb hby d12_28) rfl (XS.icmpNo X50.here hx rfl (hb hby d12_30) rfl (by decide) k)))) ?_
          refine own_Fin.go (fun t k => XS.aloadN X50.here hx rfl (hb hby d12_33) rfl rfl k) ?_
          refine own_gF X50 hx hZ hown (own_W hw 39 rfl) e50 F_oa_cells rfl rfl (hb hby d12_34) ?_
          intro T52 X52 e52
          show own_Fin _ _ _ _ _ _ _ (T52.setTop (mkF m 37 #[rv oa, iv 1, jv vf, sS, jv vl, sS, iv 10, .val (.long (own_sat (own_sat (0 : Int64) wa) wb)), sS, iv 8] [(.ref oz)]))
          refine own_Fin.go (fun t k => XS.iload X52.here hx rfl (hb hby d12_37) rfl k) ?_
          refine own_lal X52 hx hZ e52 V_oz ⟨by decide, by decide⟩ (v := yc) rfl rfl rfl (hb hby d12_39) ?_
          refine own_Fin.go (fun t k => XS.lload X52.here hx rfl (hb hby d12_40) rfl (XS.lcmp X52.here hx rfl (hb hby d12_42) rfl k)) ?_
          by_cases hc43_54 : vl < yc
          · refine own_Fin.go (fun t k => XS.ifYes X52.here hx rfl (pc0 := 43) (pc' := 68) rfl (hb hby d12_43) rfl (Jvm.Free.XT.ll_gt_t hc43_54) (by decide) (by decide) k) ?_
            show own_Fin _ _ _ _ _ _ _ (T52.setTop (mkF m 68 #[rv oa, iv 1, jv vf, sS, jv vl, sS, iv 10, .val (.long (own_sat (own_sat (0 : Int64) wa) wb)), sS, iv 8] []))
            refine own_Fin.go (fun t k => XS.lload X52.here hx rfl (hb hby d12_68) rfl k) ?_
            refine own_retJ X52 hx Bd.returns (hb hby d12_70) Bd.notSynchronized (by decide) (by decide) ?_
            rw [e52]
            exact ⟨by simp only [own_sumc, own_run, if_neg qyb, if_neg qya, if_neg hc43_40, if_neg hc43_47, if_pos hc43_54], N50, rfl⟩
          · refine own_Fin.go (fun t k => XS.ifNo X52.here hx rfl (hb hby d12_43) rfl (Jvm.Free.XT.ll_gt_f hc43_54) k) ?_
            show own_Fin _ _ _ _ _ _ _ (T52.setTop (mkF m 46 #[rv oa, iv 1, jv vf, sS, jv vl, sS, iv 10, .val (.long (own_sat (own_sat (0 : Int64) wa) wb)), sS, iv 8] []))
            refine own_Fin.go (fun t k => XS.lload X52.here hx rfl (hb hby d12_46) rfl (XS.aloadN X52.here hx rfl (hb hby d12_48) rfl rfl k)) ?_
            refine own_gF X52 hx hZ hown (own_W hw 39 rfl) e52 F_oa_cells rfl rfl (hb hby d12_49) ?_
            intro T55 X55 e55
            refine own_Fin.go (fun t k => XS.iload X55.here hx rfl (hb hby d12_52) rfl (XS.iconst X55.here hx rfl (hb hby d12_54) (XS.iadd X55.here hx rfl (hb hby d12_55) rfl k))) ?_
            show own_Fin _ _ _ _ _ _ _ (T55.setTop (mkF m 56 #[rv oa, iv 1, jv vf, sS, jv vl, sS, iv 10, .val (.long (own_sat (own_sat (0 : Int64) wa) wb)), sS, iv 8] [(.int ((8 : Int32) + (1 : Int32))), (.ref oz), (.long (own_sat (own_sat (0 : Int64) wa) wb))]))
            rw [show ((8 : Int32) + (1 : Int32)) = (9 : Int32) from by decide +kernel]
            refine own_lal X55 hx hZ e55 V_oz ⟨by decide, by decide⟩ (v := wc) rfl rfl rfl (hb hby d12_56) ?_
            refine own_sC X55 hx hZ hown (own_W hw 103 rfl) (own_W hw 104 rfl) (own_W hw 17 rfl) (own_W hw 105 rfl) (by decide) (own_rm_sat l Z a0 hw [] (own_sat (own_sat (0 : Int64) wa) wb) wc  h0 n0 Z0 ) 0 (by decide) (by decide) e55 rfl (by rw [hml]; rfl) [(.long (own_sat (own_sat (0 : Int64) wa) wb)), (.long wc)] [] (lenOf own_pd8 rfl) rfl (Nat.le_of_eq rfl) (hb hby d12_57) rfl (by decide) (by decide) ?_
            rintro T57 Lc57 _ X57 ⟨rfl, N57q, e57⟩
            have N57 := Fr.app N50 N57q
            refine own_Fin.go (fun t k => XS.lstore X57.here hx rfl (hb hby d12_60) rfl (l' := #[rv oa, iv 1, jv vf, sS, jv vl, sS, iv 10, .val (.long (own_sat (own_sat (own_sat (0 : Int64) wa) wb) wc)), sS, iv 8]) rfl (XS.iinc X57.here hx rfl (hb hby d12_62) rfl (l' := #[rv oa, iv 1, jv vf, sS, jv vl, sS, iv 10, .val (.long (own_sat (own_sat (own_sat (0 : Int64) wa) wb) wc)), sS, .val (.int ((8 : Int32) + (2 : Int32)))]) rfl k)) ?_
            show own_Fin _ _ _ _ _ _ _ (T57.setTop (mkF m 65 #[rv oa, iv 1, jv vf, sS, jv vl, sS, iv 10, .val (.long (own_sat (own_sat (own_sat (0 : Int64) wa) wb) wc)), sS, .val (.int ((8 : Int32) + (2 : Int32)))] []))
            rw [show ((8 : Int32) + (2 : Int32)) = (10 : Int32) from by decide +kernel]
            refine own_Fin.go (fun t k => XS.goto X57.here hx rfl (pc0 := 65) (pc' := 26) rfl (hb hby d12_65) (by decide) (by decide) (XS.iload X57.here hx rfl (hb hby d12_26) rfl (XS.iload X57.here hx rfl (hb hby d12_28) rfl (XS.icmpYes X57.here hx rfl (pc0 := 30) (pc' := 68) rfl (hb hby d12_30) rfl (by decide) (by decide) (by decide) k)))) ?_
            refine own_Fin.go (fun t k => XS.lload X57.here hx rfl (hb hby d12_68) rfl k) ?_
            refine own_retJ X57 hx Bd.returns (hb hby d12_70) Bd.notSynchronized (by decide) (by decide) ?_
            rw [e57]
            exact ⟨by simp only [own_sumc, own_run, if_neg qyb, if_neg qya, if_neg hc43_40, if_neg hc43_47, if_neg hc43_54], N57, rfl⟩
theorem own_lit : (9223372036854775807 : Int64).toInt = 9223372036854775807 := rfl
theorem own_satI {a b : Int64} (ha : 0 ≤ a.toInt) (hb : 0 ≤ b.toInt) : (own_sat a b).toInt = min 9223372036854775807 (a.toInt + b.toInt) := by
  have q := c_ladd a b
  have r := rng64 (a + b)
  have ra := rng64 a
  have rb := rng64 b
  have e0 : (0 : Int64).toInt = 0 := rfl
  unfold own_sat
  by_cases h : (a + b) < 0
  · rw [if_pos h, own_lit]; rw [Int64.lt_iff_toInt_lt] at h; omega
  · rw [if_neg h]; rw [Int64.lt_iff_toInt_lt] at h; omega
theorem own_capI {a b : Int64} (ha : 0 ≤ a.toInt) (hb : 0 ≤ b.toInt) : (own_cap a b).toInt = min 9223372036854775807 (a.toInt + b.toInt) := by
  have q := c_ladd a b
  have r := rng64 (a + b)
  have q2 := c_lsub 9223372036854775807 b
  have r2 := rng64 (9223372036854775807 - b)
  have ra := rng64 a
  have rb := rng64 b
  rw [own_lit] at q2
  unfold own_cap
  by_cases h : ((9223372036854775807 : Int64) - b) < a
  · rw [if_pos h, own_lit]; rw [Int64.lt_iff_toInt_lt] at h; omega
  · rw [if_neg h]; rw [Int64.lt_iff_toInt_lt] at h; omega
theorem own_posI (x : Int64) : 0 < (own_pos x).toInt := by
  have h := c_maskL x 9223372036854775807 63 (by decide) (by decide)
  unfold own_pos
  by_cases q : (x &&& (9223372036854775807 : Int64)) = 0
  · rw [if_pos q]; decide
  · rw [if_neg q]
    rw [← Int64.toInt_inj] at q
    have e0 : (0 : Int64).toInt = 0 := rfl
    omega
def own_cn (f l y c : Int) : Int := if f ≤ y ∧ y ≤ l then c else 0
theorem own_cn_nn {f l y c : Int} (h : 0 ≤ c) : 0 ≤ own_cn f l y c := by unfold own_cn; split <;> omega
theorem own_wI {w f l b a : Int64} (hw : 0 ≤ w.toInt) (ha : 0 ≤ a.toInt) : (own_w w f l b a).toInt = min 9223372036854775807 (w.toInt + own_cn f.toInt l.toInt b.toInt a.toInt) := by
  have rw_ := rng64 w
  unfold own_w own_cn
  by_cases h1 : b < f
  · rw [if_pos h1]; rw [Int64.lt_iff_toInt_lt] at h1; rw [if_neg (by omega)]; omega
  · rw [if_neg h1]; rw [Int64.lt_iff_toInt_lt] at h1
    by_cases h2 : l < b
    · rw [if_pos h2]; rw [Int64.lt_iff_toInt_lt] at h2; rw [if_neg (by omega)]; omega
    · rw [if_neg h2]; rw [Int64.lt_iff_toInt_lt] at h2; rw [if_pos (by omega), own_capI hw ha]
theorem own_runI : ∀ (L : List (Int64 × Int64)) (s l : Int64), 0 ≤ s.toInt → (∀ q ∈ L, 0 ≤ q.2.toInt) → L.Pairwise (fun a b => a.1.toInt < b.1.toInt) → (own_run s l L).toInt = min 9223372036854775807 (s.toInt + (L.map fun q => if q.1.toInt ≤ l.toInt then q.2.toInt else 0).sum) ∧ 0 ≤ (L.map fun q => if q.1.toInt ≤ l.toInt then q.2.toInt else 0).sum
  | [], s, l, hs, _, _ => by have := rng64 s; simp [own_run]; omega
  | (y, c) :: r, s, l, hs, hc, hp => by
    have hc0 : 0 ≤ c.toInt := hc (y, c) (List.mem_cons_self ..)
    have hcr : ∀ q ∈ r, 0 ≤ q.2.toInt := fun q hq => hc q (List.mem_cons_of_mem _ hq)
    obtain ⟨hp1, hp2⟩ := List.pairwise_cons.mp hp
    have rs := rng64 s
    simp only [own_run, List.map_cons, List.sum_cons]
    by_cases h : l < y
    · rw [if_pos h]
      rw [Int64.lt_iff_toInt_lt] at h
      have z : (r.map fun q => if q.1.toInt ≤ l.toInt then q.2.toInt else 0).sum = 0 := by
        have : (r.map fun q => if q.1.toInt ≤ l.toInt then q.2.toInt else 0) = r.map (fun _ => (0 : Int)) := List.map_congr_left fun q hq => if_neg (by have := hp1 q hq; simp only at this; omega)
        rw [this]
        clear this hp1 hp2 hcr hc hp
        induction r with
        | nil => rfl
        | cons a t ih => simp only [List.map_cons, List.sum_cons, ih]; rfl
      rw [z, if_neg (by omega)]
      omega
    · rw [if_neg h]
      rw [Int64.lt_iff_toInt_lt] at h
      have sI := own_satI hs hc0
      obtain ⟨i1, i2⟩ := own_runI r (own_sat s c) l (by omega) hcr hp2
      rw [i1, sI, if_pos (by omega)]
      simp only at *
      omega
theorem own_sumaI {ya wa f l : Int64} (ha : 0 ≤ wa.toInt) : (own_suma ya wa f l).toInt = min 9223372036854775807 (own_cn f.toInt l.toInt ya.toInt wa.toInt) := by
  have e0 : (0 : Int64).toInt = 0 := rfl
  unfold own_suma
  by_cases h : ya < f
  · rw [if_pos h]; rw [Int64.lt_iff_toInt_lt] at h; simp only [own_run, own_cn]; rw [if_neg (by omega), e0]; omega
  · rw [if_neg h]; rw [Int64.lt_iff_toInt_lt] at h
    obtain ⟨i, -⟩ := own_runI [(ya, wa)] 0 l (by omega) (by simp; omega) (by simp)
    rw [i, e0]
    simp only [List.map_cons, List.map_nil, List.sum_cons, List.sum_nil, own_cn]
    by_cases q : ya.toInt ≤ l.toInt
    · rw [if_pos q, if_pos (by omega)]; omega
    · rw [if_neg q, if_neg (by omega)]; omega
theorem own_sumbI {ya wa yb wb f l : Int64} (ha : 0 ≤ wa.toInt) (hb : 0 ≤ wb.toInt) (h1 : ya < yb) : (own_sumb ya wa yb wb f l).toInt = min 9223372036854775807 (own_cn f.toInt l.toInt ya.toInt wa.toInt + own_cn f.toInt l.toInt yb.toInt wb.toInt) := by
  have e0 : (0 : Int64).toInt = 0 := rfl
  rw [Int64.lt_iff_toInt_lt] at h1
  unfold own_sumb
  by_cases g1 : yb < f
  · rw [if_pos g1]; rw [Int64.lt_iff_toInt_lt] at g1; simp only [own_run, own_cn]; rw [if_neg (by omega), if_neg (by omega), e0]; omega
  · rw [if_neg g1]; rw [Int64.lt_iff_toInt_lt] at g1
    by_cases g2 : ya < f
    · rw [if_pos g2]; rw [Int64.lt_iff_toInt_lt] at g2
      obtain ⟨i, -⟩ := own_runI [(yb, wb)] 0 l (by omega) (by simp; omega) (by simp)
      rw [i, e0]
      simp only [List.map_cons, List.map_nil, List.sum_cons, List.sum_nil, own_cn]
      by_cases q : yb.toInt ≤ l.toInt
      · rw [if_pos q, if_neg (by omega), if_pos (by omega)]; omega
      · rw [if_neg q, if_neg (by omega), if_neg (by omega)]; omega
    · rw [if_neg g2]; rw [Int64.lt_iff_toInt_lt] at g2
      obtain ⟨i, -⟩ := own_runI [(ya, wa), (yb, wb)] 0 l (by omega) (by simp; omega) (by simp; omega)
      rw [i, e0]
      simp only [List.map_cons, List.map_nil, List.sum_cons, List.sum_nil, own_cn]
      by_cases q : ya.toInt ≤ l.toInt
      · by_cases q2 : yb.toInt ≤ l.toInt
        · rw [if_pos q, if_pos q2, if_pos (by omega), if_pos (by omega)]; omega
        · rw [if_pos q, if_neg q2, if_pos (by omega), if_neg (by omega)]; omega
      · rw [if_neg q, if_neg (by omega), if_neg (by omega), if_neg (by omega)]; omega
theorem own_sumcI {ya wa yb wb yc wc f l : Int64} (ha : 0 ≤ wa.toInt) (hb : 0 ≤ wb.toInt) (hc : 0 ≤ wc.toInt) (h1 : ya < yb) (h2 : yb < yc) : (own_sumc ya wa yb wb yc wc f l).toInt = min 9223372036854775807 (own_cn f.toInt l.toInt ya.toInt wa.toInt + own_cn f.toInt l.toInt yb.toInt wb.toInt + own_cn f.toInt l.toInt yc.toInt wc.toInt) := by
  have e0 : (0 : Int64).toInt = 0 := rfl
  rw [Int64.lt_iff_toInt_lt] at h1 h2
  have K : ∀ (y w : Int64), f.toInt ≤ y.toInt → own_cn f.toInt l.toInt y.toInt w.toInt = if y.toInt ≤ l.toInt then w.toInt else 0 := fun y w q => by
    unfold own_cn
    by_cases z : y.toInt ≤ l.toInt
    · rw [if_pos z, if_pos ⟨q, z⟩]
    · rw [if_neg z, if_neg (by omega)]
  have K0 : ∀ (y w : Int64), y.toInt < f.toInt → own_cn f.toInt l.toInt y.toInt w.toInt = 0 := fun y w q => by unfold own_cn; rw [if_neg (by omega)]
  unfold own_sumc
  by_cases g1 : yb < f
  · rw [if_pos g1]; rw [Int64.lt_iff_toInt_lt] at g1
    by_cases g2 : yc < f
    · rw [if_pos g2]; rw [Int64.lt_iff_toInt_lt] at g2; rw [K0 ya wa (by omega), K0 yb wb (by omega), K0 yc wc (by omega)]; simp only [own_run]; rw [e0]; omega
    · rw [if_neg g2]; rw [Int64.lt_iff_toInt_lt] at g2
      obtain ⟨i, -⟩ := own_runI [(yc, wc)] 0 l (by omega) (by simp; omega) (by simp)
      rw [i, e0, K0 ya wa (by omega), K0 yb wb (by omega), K yc wc (by omega)]
      simp only [List.map_cons, List.map_nil, List.sum_cons, List.sum_nil]; omega
  · rw [if_neg g1]; rw [Int64.lt_iff_toInt_lt] at g1
    by_cases g2 : ya < f
    · rw [if_pos g2]; rw [Int64.lt_iff_toInt_lt] at g2
      obtain ⟨i, -⟩ := own_runI [(yb, wb), (yc, wc)] 0 l (by omega) (by simp; omega) (by simp; omega)
      rw [i, e0, K0 ya wa (by omega), K yb wb (by omega), K yc wc (by omega)]
      simp only [List.map_cons, List.map_nil, List.sum_cons, List.sum_nil]; omega
    · rw [if_neg g2]; rw [Int64.lt_iff_toInt_lt] at g2
      obtain ⟨i, -⟩ := own_runI [(ya, wa), (yb, wb), (yc, wc)] 0 l (by omega) (by simp; omega) (by simp; omega)
      rw [i, e0, K ya wa (by omega), K yb wb (by omega), K yc wc (by omega)]
      simp only [List.map_cons, List.map_nil, List.sum_cons, List.sum_nil]; omega
theorem own_wantI {f l b0 b1 b2 a0 a1 a2 : Int64} (h0 : 0 ≤ a0.toInt) (h1 : 0 ≤ a1.toInt) (h2 : 0 ≤ a2.toInt) : (own_w (own_w (own_w 0 f l b0 a0) f l b1 a1) f l b2 a2).toInt = min 9223372036854775807 (own_cn f.toInt l.toInt b0.toInt a0.toInt + own_cn f.toInt l.toInt b1.toInt a1.toInt + own_cn f.toInt l.toInt b2.toInt a2.toInt) := by
  have e0 : (0 : Int64).toInt = 0 := rfl
  have n0 := own_cn_nn (f := f.toInt) (l := l.toInt) (y := b0.toInt) h0
  have n1 := own_cn_nn (f := f.toInt) (l := l.toInt) (y := b1.toInt) h1
  have n2 := own_cn_nn (f := f.toInt) (l := l.toInt) (y := b2.toInt) h2
  have i0 := own_wI (w := 0) (f := f) (l := l) (b := b0) (a := a0) (by omega) h0
  have i1 := own_wI (w := own_w 0 f l b0 a0) (f := f) (l := l) (b := b1) (a := a1) (by omega) h1
  have i2 := own_wI (w := own_w (own_w 0 f l b0 a0) f l b1 a1) (f := f) (l := l) (b := b2) (a := a2) (by omega) h2
  rw [i2, i1, i0, e0]; omega
theorem own_sat0 {a : Int64} (h : 0 ≤ a.toInt) : (own_sat 0 a).toInt = a.toInt := by
  have e0 : (0 : Int64).toInt = 0 := rfl
  have r := rng64 a
  rw [own_satI (by omega) h, e0]; omega
theorem own_cnS {f l y : Int} {a b : Int} (ha : 0 ≤ a) (hb : 0 ≤ b) : own_cn f l y (min 9223372036854775807 (a + b)) = min 9223372036854775807 (own_cn f l y a + own_cn f l y b) := by
  unfold own_cn; by_cases q : f ≤ y ∧ y ≤ l
  · simp only [if_pos q]
  · simp only [if_neg q]; omega
theorem own_o_012 {f l b0 b1 b2 a0 a1 a2 : Int64} (h0 : 0 < a0.toInt) (h1 : 0 < a1.toInt) (h2 : 0 < a2.toInt) (e01 : b0 = b1) (e02 : b0 = b2) : own_suma b0 (own_sat (own_sat (own_sat (0 : Int64) a0) a1) a2) f l = own_w (own_w (own_w 0 f l b0 a0) f l b1 a1) f l b2 a2 := by
  subst e01
  subst e02
  have p0 : 0 ≤ a0.toInt := by omega
  have p1 : 0 ≤ a1.toInt := by omega
  have p2 : 0 ≤ a2.toInt := by omega
  apply Int64.toInt_inj.mp
  rw [own_wantI p0 p1 p2]
  have s0 := own_sat0 p0
  have s0_0 := own_satI (a := (own_sat 0 a0)) (b := a1) (by omega) p1
  have s0_1 := own_satI (a := (own_sat (own_sat 0 a0) a1)) (b := a2) (by omega) p2
  have n0 := own_cn_nn (f := f.toInt) (l := l.toInt) (y := b0.toInt) p0
  have n1 := own_cn_nn (f := f.toInt) (l := l.toInt) (y := b0.toInt) p1
  have n2 := own_cn_nn (f := f.toInt) (l := l.toInt) (y := b0.toInt) p2
  rw [own_sumaI (by omega) ]
  rw [s0_1, own_cnS (by omega) p2]
  rw [s0_0, own_cnS (by omega) p1]
  rw [s0]
  all_goals omega
theorem own_o_01_2 {f l b0 b1 b2 a0 a1 a2 : Int64} (h0 : 0 < a0.toInt) (h1 : 0 < a1.toInt) (h2 : 0 < a2.toInt) (e01 : b0 = b1) (l0 : b0 < b2) : own_sumb b0 (own_sat (own_sat (0 : Int64) a0) a1) b2 (own_sat (0 : Int64) a2) f l = own_w (own_w (own_w 0 f l b0 a0) f l b1 a1) f l b2 a2 := by
  subst e01
  have p0 : 0 ≤ a0.toInt := by omega
  have p1 : 0 ≤ a1.toInt := by omega
  have p2 : 0 ≤ a2.toInt := by omega
  apply Int64.toInt_inj.mp
  rw [own_wantI p0 p1 p2]
  have s0 := own_sat0 p0
  have s0_0 := own_satI (a := (own_sat 0 a0)) (b := a1) (by omega) p1
  have s1 := own_sat0 p2
  have n0 := own_cn_nn (f := f.toInt) (l := l.toInt) (y := b0.toInt) p0
  have n1 := own_cn_nn (f := f.toInt) (l := l.toInt) (y := b0.toInt) p1
  have n2 := own_cn_nn (f := f.toInt) (l := l.toInt) (y := b2.toInt) p2
  rw [own_sumbI (by omega) (by omega) l0]
  rw [s0_0, own_cnS (by omega) p1]
  rw [s0]
  rw [s1]
  all_goals omega
theorem own_o_2_01 {f l b0 b1 b2 a0 a1 a2 : Int64} (h0 : 0 < a0.toInt) (h1 : 0 < a1.toInt) (h2 : 0 < a2.toInt) (e01 : b0 = b1) (l0 : b2 < b0) : own_sumb b2 (own_sat (0 : Int64) a2) b0 (own_sat (own_sat (0 : Int64) a0) a1) f l = own_w (own_w (own_w 0 f l b0 a0) f l b1 a1) f l b2 a2 := by
  subst e01
  have p0 : 0 ≤ a0.toInt := by omega
  have p1 : 0 ≤ a1.toInt := by omega
  have p2 : 0 ≤ a2.toInt := by omega
  apply Int64.toInt_inj.mp
  rw [own_wantI p0 p1 p2]
  have s0 := own_sat0 p2
  have s1 := own_sat0 p0
  have s1_0 := own_satI (a := (own_sat 0 a0)) (b := a1) (by omega) p1
  have n0 := own_cn_nn (f := f.toInt) (l := l.toInt) (y := b0.toInt) p0
  have n1 := own_cn_nn (f := f.toInt) (l := l.toInt) (y := b0.toInt) p1
  have n2 := own_cn_nn (f := f.toInt) (l := l.toInt) (y := b2.toInt) p2
  rw [own_sumbI (by omega) (by omega) l0]
  rw [s0]
  rw [s1_0, own_cnS (by omega) p1]
  rw [s1]
  all_goals omega
theorem own_o_02_1 {f l b0 b1 b2 a0 a1 a2 : Int64} (h0 : 0 < a0.toInt) (h1 : 0 < a1.toInt) (h2 : 0 < a2.toInt) (e02 : b0 = b2) (l0 : b0 < b1) : own_sumb b0 (own_sat (own_sat (0 : Int64) a0) a2) b1 (own_sat (0 : Int64) a1) f l = own_w (own_w (own_w 0 f l b0 a0) f l b1 a1) f l b2 a2 := by
  subst e02
  have p0 : 0 ≤ a0.toInt := by omega
  have p1 : 0 ≤ a1.toInt := by omega
  have p2 : 0 ≤ a2.toInt := by omega
  apply Int64.toInt_inj.mp
  rw [own_wantI p0 p1 p2]
  have s0 := own_sat0 p0
  have s0_0 := own_satI (a := (own_sat 0 a0)) (b := a2) (by omega) p2
  have s1 := own_sat0 p1
  have n0 := own_cn_nn (f := f.toInt) (l := l.toInt) (y := b0.toInt) p0
  have n1 := own_cn_nn (f := f.toInt) (l := l.toInt) (y := b1.toInt) p1
  have n2 := own_cn_nn (f := f.toInt) (l := l.toInt) (y := b0.toInt) p2
  rw [own_sumbI (by omega) (by omega) l0]
  rw [s0_0, own_cnS (by omega) p2]
  rw [s0]
  rw [s1]
  all_goals omega
theorem own_o_1_02 {f l b0 b1 b2 a0 a1 a2 : Int64} (h0 : 0 < a0.toInt) (h1 : 0 < a1.toInt) (h2 : 0 < a2.toInt) (e02 : b0 = b2) (l0 : b1 < b0) : own_sumb b1 (own_sat (0 : Int64) a1) b0 (own_sat (own_sat (0 : Int64) a0) a2) f l = own_w (own_w (own_w 0 f l b0 a0) f l b1 a1) f l b2 a2 := by
  subst e02
  have p0 : 0 ≤ a0.toInt := by omega
  have p1 : 0 ≤ a1.toInt := by omega
  have p2 : 0 ≤ a2.toInt := by omega
  apply Int64.toInt_inj.mp
  rw [own_wantI p0 p1 p2]
  have s0 := own_sat0 p1
  have s1 := own_sat0 p0
  have s1_0 := own_satI (a := (own_sat 0 a0)) (b := a2) (by omega) p2
  have n0 := own_cn_nn (f := f.toInt) (l := l.toInt) (y := b0.toInt) p0
  have n1 := own_cn_nn (f := f.toInt) (l := l.toInt) (y := b1.toInt) p1
  have n2 := own_cn_nn (f := f.toInt) (l := l.toInt) (y := b0.toInt) p2
  rw [own_sumbI (by omega) (by omega) l0]
  rw [s0]
  rw [s1_0, own_cnS (by omega) p2]
  rw [s1]
  all_goals omega
theorem own_o_12_0 {f l b0 b1 b2 a0 a1 a2 : Int64} (h0 : 0 < a0.toInt) (h1 : 0 < a1.toInt) (h2 : 0 < a2.toInt) (e12 : b1 = b2) (l0 : b1 < b0) : own_sumb b1 (own_sat (own_sat (0 : Int64) a1) a2) b0 (own_sat (0 : Int64) a0) f l = own_w (own_w (own_w 0 f l b0 a0) f l b1 a1) f l b2 a2 := by
  subst e12
  have p0 : 0 ≤ a0.toInt := by omega
  have p1 : 0 ≤ a1.toInt := by omega
  have p2 : 0 ≤ a2.toInt := by omega
  apply Int64.toInt_inj.mp
  rw [own_wantI p0 p1 p2]
  have s0 := own_sat0 p1
  have s0_0 := own_satI (a := (own_sat 0 a1)) (b := a2) (by omega) p2
  have s1 := own_sat0 p0
  have n0 := own_cn_nn (f := f.toInt) (l := l.toInt) (y := b0.toInt) p0
  have n1 := own_cn_nn (f := f.toInt) (l := l.toInt) (y := b1.toInt) p1
  have n2 := own_cn_nn (f := f.toInt) (l := l.toInt) (y := b1.toInt) p2
  rw [own_sumbI (by omega) (by omega) l0]
  rw [s0_0, own_cnS (by omega) p2]
  rw [s0]
  rw [s1]
  all_goals omega
theorem own_o_0_12 {f l b0 b1 b2 a0 a1 a2 : Int64} (h0 : 0 < a0.toInt) (h1 : 0 < a1.toInt) (h2 : 0 < a2.toInt) (e12 : b1 = b2) (l0 : b0 < b1) : own_sumb b0 (own_sat (0 : Int64) a0) b1 (own_sat (own_sat (0 : Int64) a1) a2) f l = own_w (own_w (own_w 0 f l b0 a0) f l b1 a1) f l b2 a2 := by
  subst e12
  have p0 : 0 ≤ a0.toInt := by omega
  have p1 : 0 ≤ a1.toInt := by omega
  have p2 : 0 ≤ a2.toInt := by omega
  apply Int64.toInt_inj.mp
  rw [own_wantI p0 p1 p2]
  have s0 := own_sat0 p0
  have s1 := own_sat0 p1
  have s1_0 := own_satI (a := (own_sat 0 a1)) (b := a2) (by omega) p2
  have n0 := own_cn_nn (f := f.toInt) (l := l.toInt) (y := b0.toInt) p0
  have n1 := own_cn_nn (f := f.toInt) (l := l.toInt) (y := b1.toInt) p1
  have n2 := own_cn_nn (f := f.toInt) (l := l.toInt) (y := b1.toInt) p2
  rw [own_sumbI (by omega) (by omega) l0]
  rw [s0]
  rw [s1_0, own_cnS (by omega) p2]
  rw [s1]
  all_goals omega
theorem own_o_0_1_2 {f l b0 b1 b2 a0 a1 a2 : Int64} (h0 : 0 < a0.toInt) (h1 : 0 < a1.toInt) (h2 : 0 < a2.toInt) (l0 : b0 < b1) (l1 : b1 < b2) : own_sumc b0 (own_sat (0 : Int64) a0) b1 (own_sat (0 : Int64) a1) b2 (own_sat (0 : Int64) a2) f l = own_w (own_w (own_w 0 f l b0 a0) f l b1 a1) f l b2 a2 := by
  have p0 : 0 ≤ a0.toInt := by omega
  have p1 : 0 ≤ a1.toInt := by omega
  have p2 : 0 ≤ a2.toInt := by omega
  apply Int64.toInt_inj.mp
  rw [own_wantI p0 p1 p2]
  have s0 := own_sat0 p0
  have s1 := own_sat0 p1
  have s2 := own_sat0 p2
  have n0 := own_cn_nn (f := f.toInt) (l := l.toInt) (y := b0.toInt) p0
  have n1 := own_cn_nn (f := f.toInt) (l := l.toInt) (y := b1.toInt) p1
  have n2 := own_cn_nn (f := f.toInt) (l := l.toInt) (y := b2.toInt) p2
  rw [own_sumcI (by omega) (by omega) (by omega) l0 l1]
  rw [s0]
  rw [s1]
  rw [s2]
  all_goals omega
theorem own_o_0_2_1 {f l b0 b1 b2 a0 a1 a2 : Int64} (h0 : 0 < a0.toInt) (h1 : 0 < a1.toInt) (h2 : 0 < a2.toInt) (l0 : b0 < b2) (l1 : b2 < b1) : own_sumc b0 (own_sat (0 : Int64) a0) b2 (own_sat (0 : Int64) a2) b1 (own_sat (0 : Int64) a1) f l = own_w (own_w (own_w 0 f l b0 a0) f l b1 a1) f l b2 a2 := by
  have p0 : 0 ≤ a0.toInt := by omega
  have p1 : 0 ≤ a1.toInt := by omega
  have p2 : 0 ≤ a2.toInt := by omega
  apply Int64.toInt_inj.mp
  rw [own_wantI p0 p1 p2]
  have s0 := own_sat0 p0
  have s1 := own_sat0 p2
  have s2 := own_sat0 p1
  have n0 := own_cn_nn (f := f.toInt) (l := l.toInt) (y := b0.toInt) p0
  have n1 := own_cn_nn (f := f.toInt) (l := l.toInt) (y := b1.toInt) p1
  have n2 := own_cn_nn (f := f.toInt) (l := l.toInt) (y := b2.toInt) p2
  rw [own_sumcI (by omega) (by omega) (by omega) l0 l1]
  rw [s0]
  rw [s1]
  rw [s2]
  all_goals omega
theorem own_o_1_0_2 {f l b0 b1 b2 a0 a1 a2 : Int64} (h0 : 0 < a0.toInt) (h1 : 0 < a1.toInt) (h2 : 0 < a2.toInt) (l0 : b1 < b0) (l1 : b0 < b2) : own_sumc b1 (own_sat (0 : Int64) a1) b0 (own_sat (0 : Int64) a0) b2 (own_sat (0 : Int64) a2) f l = own_w (own_w (own_w 0 f l b0 a0) f l b1 a1) f l b2 a2 := by
  have p0 : 0 ≤ a0.toInt := by omega
  have p1 : 0 ≤ a1.toInt := by omega
  have p2 : 0 ≤ a2.toInt := by omega
  apply Int64.toInt_inj.mp
  rw [own_wantI p0 p1 p2]
  have s0 := own_sat0 p1
  have s1 := own_sat0 p0
  have s2 := own_sat0 p2
  have n0 := own_cn_nn (f := f.toInt) (l := l.toInt) (y := b0.toInt) p0
  have n1 := own_cn_nn (f := f.toInt) (l := l.toInt) (y := b1.toInt) p1
  have n2 := own_cn_nn (f := f.toInt) (l := l.toInt) (y := b2.toInt) p2
  rw [own_sumcI (by omega) (by omega) (by omega) l0 l1]
  rw [s0]
  rw [s1]
  rw [s2]
  all_goals omega
theorem own_o_1_2_0 {f l b0 b1 b2 a0 a1 a2 : Int64} (h0 : 0 < a0.toInt) (h1 : 0 < a1.toInt) (h2 : 0 < a2.toInt) (l0 : b1 < b2) (l1 : b2 < b0) : own_sumc b1 (own_sat (0 : Int64) a1) b2 (own_sat (0 : Int64) a2) b0 (own_sat (0 : Int64) a0) f l = own_w (own_w (own_w 0 f l b0 a0) f l b1 a1) f l b2 a2 := by
  have p0 : 0 ≤ a0.toInt := by omega
  have p1 : 0 ≤ a1.toInt := by omega
  have p2 : 0 ≤ a2.toInt := by omega
  apply Int64.toInt_inj.mp
  rw [own_wantI p0 p1 p2]
  have s0 := own_sat0 p1
  have s1 := own_sat0 p2
  have s2 := own_sat0 p0
  have n0 := own_cn_nn (f := f.toInt) (l := l.toInt) (y := b0.toInt) p0
  have n1 := own_cn_nn (f := f.toInt) (l := l.toInt) (y := b1.toInt) p1
  have n2 := own_cn_nn (f := f.toInt) (l := l.toInt) (y := b2.toInt) p2
  rw [own_sumcI (by omega) (by omega) (by omega) l0 l1]
  rw [s0]
  rw [s1]
  rw [s2]
  all_goals omega
theorem own_o_2_0_1 {f l b0 b1 b2 a0 a1 a2 : Int64} (h0 : 0 < a0.toInt) (h1 : 0 < a1.toInt) (h2 : 0 < a2.toInt) (l0 : b2 < b0) (l1 : b0 < b1) : own_sumc b2 (own_sat (0 : Int64) a2) b0 (own_sat (0 : Int64) a0) b1 (own_sat (0 : Int64) a1) f l = own_w (own_w (own_w 0 f l b0 a0) f l b1 a1) f l b2 a2 := by
  have p0 : 0 ≤ a0.toInt := by omega
  have p1 : 0 ≤ a1.toInt := by omega
  have p2 : 0 ≤ a2.toInt := by omega
  apply Int64.toInt_inj.mp
  rw [own_wantI p0 p1 p2]
  have s0 := own_sat0 p2
  have s1 := own_sat0 p0
  have s2 := own_sat0 p1
  have n0 := own_cn_nn (f := f.toInt) (l := l.toInt) (y := b0.toInt) p0
  have n1 := own_cn_nn (f := f.toInt) (l := l.toInt) (y := b1.toInt) p1
  have n2 := own_cn_nn (f := f.toInt) (l := l.toInt) (y := b2.toInt) p2
  rw [own_sumcI (by omega) (by omega) (by omega) l0 l1]
  rw [s0]
  rw [s1]
  rw [s2]
  all_goals omega
theorem own_o_2_1_0 {f l b0 b1 b2 a0 a1 a2 : Int64} (h0 : 0 < a0.toInt) (h1 : 0 < a1.toInt) (h2 : 0 < a2.toInt) (l0 : b2 < b1) (l1 : b1 < b0) : own_sumc b2 (own_sat (0 : Int64) a2) b1 (own_sat (0 : Int64) a1) b0 (own_sat (0 : Int64) a0) f l = own_w (own_w (own_w 0 f l b0 a0) f l b1 a1) f l b2 a2 := by
  have p0 : 0 ≤ a0.toInt := by omega
  have p1 : 0 ≤ a1.toInt := by omega
  have p2 : 0 ≤ a2.toInt := by omega
  apply Int64.toInt_inj.mp
  rw [own_wantI p0 p1 p2]
  have s0 := own_sat0 p2
  have s1 := own_sat0 p1
  have s2 := own_sat0 p0
  have n0 := own_cn_nn (f := f.toInt) (l := l.toInt) (y := b0.toInt) p0
  have n1 := own_cn_nn (f := f.toInt) (l := l.toInt) (y := b1.toInt) p1
  have n2 := own_cn_nn (f := f.toInt) (l := l.toInt) (y := b2.toInt) p2
  rw [own_sumcI (by omega) (by omega) (by omega) l0 l1]
  rw [s0]
  rw [s1]
  rw [s2]
  all_goals omega
theorem own_pd9 : parseMethodDescriptor "()V" = some ⟨[], none⟩ := by decide +kernel
theorem own_pd10 : parseMethodDescriptor "(Ljava/lang/String;Lcom/example/inrush/inrush/engine/CounterKind;I)V" = some ⟨[(.object "java/lang/String"), (.object "com/example/inrush/inrush/engine/CounterKind"), .int], none⟩ := by decide +kernel
theorem own_pd11 : parseMethodDescriptor "(IJJLcom/example/inrush/inrush/engine/Tally;)V" = some ⟨[.int, .long, .long, (.object "com/example/inrush/inrush/engine/Tally")], none⟩ := by decide +kernel
theorem own_pd12 : parseMethodDescriptor "(IJJ)J" = some ⟨[.int, .long, .long], some .long⟩ := by decide +kernel
theorem own_pd13 : parseMethodDescriptor "(J)J" = some ⟨[.long], some .long⟩ := by decide +kernel
theorem own_ef_law (m : MethodId) (va : Int64) (vb : Int64) (vc : Int64) (vd : Int64) (ve : Int64) (vf : Int64) : entryFrame m #[(.long va), (.long vb), (.long vc), (.long vd), (.long ve), (.long vf)] maxLocals = mkF m 0 #[jv va, sS, jv vb, sS, jv vc, sS, jv vd, sS, jv ve, sS, jv vf, sS, uS, uS, uS, uS, uS, uS, uS, uS, uS, uS, uS, uS] [] := by first | (simp [entryFrame, mkF, argsToLocals, Value.category, maxLocals]; done) | rfl
def own_Q_law (Z : State) (va : Int64) (vb : Int64) (vc : Int64) (vd : Int64) (ve : Int64) (vf : Int64) (oADD : Addr) (oUNIQUE : Addr) (h0 : Heap) (n0 : Nat) (v : Option Value) (h : Heap) (L : List Loc) : Prop := v = some (.int 1) ∧ Fr n0 L
set_option maxRecDepth 65536 in
set_option maxHeartbeats 40000000 in
theorem own_rm_law (l : Launch) (Z : State) (a0 : Array Value) (hw : ∀ d ∈ tables_1, d.before a0 Z = true) (ws : List Jvm.Cond) (va : Int64) (vb : Int64) (vc : Int64) (vd : Int64) (ve : Int64) (vf : Int64) (oADD : Addr) (oUNIQUE : Addr) (h0 : Heap) (n0 : Nat) (Z0 : n0 ≤ h0.size) (S_ADD : Sta Z h0 own_k3 "ADD" own_k4 (.ref oADD)) (S_UNIQUE : Sta Z h0 own_k3 "UNIQUE" own_k4 (.ref oUNIQUE)) (ne_oADD_oUNIQUE : oADD ≠ oUNIQUE) :
    MetFree l x (head1 (Jvm.Cond.code x code maxLocals ret :: ws) room_1) (fun a U => a = #[(.long va), (.long vb), (.long vc), (.long vd), (.long ve), (.long vf)] ∧ Z.Warmed39 U.vm ∧ U.heap = h0 ∧ U.vm = Z.vm ∧ n0 = h0.size ∧ Z.heap = h0) (fun _ _ _ _ _ => True) (fun _ U o U' => ∃ v L, o = .returned v ∧ own_Q_law Z va vb vc vd ve vf oADD oUNIQUE h0 n0 v U'.heap L ∧ FramedW U o U' L room_1.cells room_1.slots) := by
  refine MetFree.of_bodySF (plainFor_of_name own_pn1) hisR ?_
  intro p e s m args below meth c s₁ Bd hml0 hP hK
  obtain ⟨rfl, hZ, hh, hvm, hn0, hZh⟩ := hP
  have hx := Bd.exec
  have hby := Bd.bytes
  have hml : c.maxLocals = 24 := hml0
  have hown : s.vm.findClass own_k1 = some m.cls := findClass_of_methodNamed Bd.named
  have hnm := (name_of_methodNamed Bd.named Bd.method).1
  have X0 : Stand p l e room_1 s m #[(.long va), (.long vb), (.long vc), (.long vd), (.long ve), (.long vf)] below meth c s₁ [] 0 0 := Stand.of_body Bd
  have e0 : s₁.heap = h0 := by rw [← hh, Bd.state]; rfl
  have N0 := Fr.nil n0
  have hS : s.Since s.vm 0 := State.WarmedH.since (State.WarmedH.refl s) 0
  have hk0 : 0 ≤ h0.size := Nat.zero_le _
  have IB0 : IB Z s.vm [] := by rw [hvm]; exact IB.start
  have wS : ∀ a ∈ Bundle.stringAtoms, a.before a0 Z = true := by
    intro a ha
    simp only [Bundle.stringAtoms, Bundle.sN, List.mem_cons, List.not_mem_nil, or_false] at ha
    rcases ha with rfl | rfl | rfl | rfl | rfl | rfl | rfl
    · exact (own_W hw 19 rfl)
    · exact (own_W hw 20 rfl)
    · exact (own_W hw 21 rfl)
    · exact (own_W hw 22 rfl)
    · exact (own_W hw 23 rfl)
    · exact (own_W hw 24 rfl)
    · exact (own_W hw 25 rfl)
  show own_FinW p e below s (own_Q_law Z va vb vc vd ve vf oADD oUNIQUE h0 n0) room_1.cells room_1.slots (s₁.setTop (entryFrame m #[(.long va), (.long vb), (.long vc), (.long vd), (.long ve), (.long vf)] maxLocals))
  refine own_FinW.go (fun t k => castTop (own_ef_law m va vb vc vd ve vf) k) ?_
  have J28 : ∀ (TJ28 : State) (LJ28 : List Loc) (XJ28 : Stand p l e room_1 s m #[(.long va), (.long vb), (.long vc), (.long vd), (.long ve), (.long vf)] below meth c TJ28 LJ28 0 0) (NJ28 : Fr n0 LJ28) (eJ28 : TJ28.heap = h0) (aA : Int64) (aB : Int64) (aC : Int64) (hJ28 : 0 < aA.toInt ∧ 0 < aB.toInt ∧ 0 < aC.toInt), own_FinW p e below s (own_Q_law Z va vb vc vd ve vf oADD oUNIQUE h0 n0) room_1.cells room_1.slots (TJ28.setTop (mkF m 28 #[jv va, sS, jv vb, sS, jv vc, sS, jv vd, sS, jv ve, sS, jv vf, sS, jv aA, sS, jv aB, sS, jv aC, sS, uS, uS, uS, uS, uS, uS] [])) := by
    intro TJ28 LJ28 XJ28 NJ28 eJ28 aA aB aC hJ28
    obtain ⟨T1, h1, X1, e1, E1, A1, D1, -, st1⟩ := newO XJ28 hx hZ hown (own_W hw 6 rfl) (own_W hw 7 rfl) (own_W hw 8 rfl) eJ28 (g := (mkF m 28 #[jv va, sS, jv vb, sS, jv vc, sS, jv vd, sS, jv ve, sS, jv vf, sS, jv aA, sS, jv aB, sS, jv aC, sS, uS, uS, uS, uS, uS, uS] [])) rfl (hb hby at_28) (by decide) (by decide)
    obtain ⟨b1, g1⟩ : ∃ z, z = h0.size := ⟨_, rfl⟩
    rw [← g1] at A1 D1 st1
    refine own_FinW.go st1 ?_
    have g_b1 : n0 ≤ b1 := Nat.le_trans Z0 (Nat.le_of_eq g1.symm)
    have S_ADD_1 := Sta.ext E1 S_ADD
    have S_UNIQUE_1 := Sta.ext E1 S_UNIQUE
    have Z1 := Nat.le_trans Z0 E1.1
    have hk1 := Nat.le_trans hk0 E1.1
    have F_b1_buckets : Fld Z h1 b1 own_k2 "buckets" "J" (.long 0) := D1 (Or.inl (own_W hw 102 rfl)) (ty := .long) (by decide)
    show own_FinW _ _ _ _ _ _ _ (T1.setTop (mkF m 31 #[jv va, sS, jv vb, sS, jv vc, sS, jv vd, sS, jv ve, sS, jv vf, sS, jv aA, sS, jv aB, sS, jv aC, sS, uS, uS, uS, uS, uS, uS] [(.ref b1)]))
    refine own_FinW.go (fun t k => XS.dup X1.here hx rfl (hb hby at_31) rfl rfl k) ?_
    obtain ⟨_, _, ⟨T2, L2, k2, n2⟩, -, X2, ⟨Lc2, hQ2, l2, y2, z2⟩, st2⟩ := X1.specialBack hx (y := own_y13) rfl hown (mvT hZ (own_W hw 9 rfl)) (mvT hZ (own_W hw 10 rfl)) (mvT hZ (own_W hw 11 rfl)) (by decide) (backOf (W := 1) (own_rm_tal l Z a0 hw [] b1  h1 n0 Z1 ) hZ (own_W hw 11 rfl) (own_W hw 8 rfl) (by decide) (by decide)) (g := (mkF m 32 #[jv va, sS, jv vb, sS, jv vc, sS, jv vd, sS, jv ve, sS, jv vf, sS, jv aA, sS, jv aB, sS, jv aC, sS, uS, uS, uS, uS, uS, uS] [(.ref b1), (.ref b1)])) rfl (by rw [hml]; rfl) (Steps.refl _) (a := b1) (argsL := []) (rest := [(.ref b1)]) (lenOf own_pd9 rfl) rfl (Nat.le_of_eq rfl) (hb hby at_32) (fun _ _ => ⟨rfl, e1, (by decide : 1 + 0 ≤ _), (by decide : 2 + 0 ≤ _)⟩)
    dsimp only [Pt.U, Pt.locs, Pt.cells, Pt.slots] at X2 l2 y2 z2 st2 hQ2
    subst l2 y2 z2
    obtain ⟨rfl, N2q, e2⟩ := hQ2
    refine own_FinW.go (fun t k => st2.trans k) ?_
    have N2 := Fr.app NJ28 N2q
    refine own_FinW.go (fun t k => XS.astore X2.here hx rfl (hb hby at_35) rfl rfl (l' := #[jv va, sS, jv vb, sS, jv vc, sS, jv vd, sS, jv ve, sS, jv vf, sS, jv aA, sS, jv aB, sS, jv aC, sS, rv b1, uS, uS, uS, uS, uS]) rfl k) ?_
    obtain ⟨T3, h3, X3, e3, E3, A3, D3, -, st3⟩ := newO X2 hx hZ hown (own_W hw 15 rfl) (own_W hw 16 rfl) (own_W hw 17 rfl) e2 (g := (mkF m 37 #[jv va, sS, jv vb, sS, jv vc, sS, jv vd, sS, jv ve, sS, jv vf, sS, jv aA, sS, jv aB, sS, jv aC, sS, rv b1, uS, uS, uS, uS, uS] [])) rfl (hb hby at_37) (by decide) (by decide)
    obtain ⟨b3, g3⟩ : ∃ z, z = h1.size := ⟨_, rfl⟩
    rw [← g3] at A3 D3 st3
    refine own_FinW.go st3 ?_
    have g_b3 : n0 ≤ b3 := Nat.le_trans Z1 (Nat.le_of_eq g3.symm)
    have ne_b1_b3 : b1 ≠ b3 := Nat.ne_of_lt (Nat.lt_of_lt_of_le F_b1_buckets.lt (Nat.le_of_eq g3.symm))
    have S_ADD_3 := Sta.ext E3 S_ADD_1
    have S_UNIQUE_3 := Sta.ext E3 S_UNIQUE_1
    have E_b1_3 := Exa.ext E3 A1
    have F_b1_buckets_3 := Fld.ext E3 F_b1_buckets
    have Z3 := Nat.le_trans Z1 E3.1
    have hk3 := Nat.le_trans hk1 E3.1
    have F_b3_name : Fld Z h3 b3 own_k0 "name" "Ljava/lang/String;" .null := D3 (Or.inr (own_W hw 34 rfl)) (ty := (.object "java/lang/String")) (by decide)
    have F_b3_cells : Fld Z h3 b3 own_k0 "cells" "[J" .null := D3 (Or.inl (own_W hw 40 rfl)) (ty := (.array .long)) (by decide)
    have F_b3_sets : Fld Z h3 b3 own_k0 "sets" "[Ljava/lang/Object;" .null := D3 (Or.inl (own_W hw 44 rfl)) (ty := (.array (.object "java/lang/Object"))) (by decide)
    refine own_FinW.go (fun t k => XS.dup X3.here hx rfl (hb hby at_40) rfl rfl k) ?_
    obtain ⟨b4, T4, h4, kk4, X4, e4, E4, hS, hk4, hZ, hown, st4⟩ := ldcS (s := s) (vm0 := s.vm) X3 hx hZ hown (own_W hw 18 rfl) wS e3 hS hk3 (g := (mkF m 41 #[jv va, sS, jv vb, sS, jv vc, sS, jv vd, sS, jv ve, sS, jv vf, sS, jv aA, sS, jv aB, sS, jv aC, sS, rv b1, uS, uS, uS, uS, uS] [(.ref b3), (.ref b3)])) rfl (hb hby at_41) (n := 4) (by decide) (by decide) (by decide) (by decide)
    refine own_FinW.go st4 ?_
    have S_ADD_4 := Sta.ext E4 S_ADD_3
    have S_UNIQUE_4 := Sta.ext E4 S_UNIQUE_3
    have E_b1_4 := Exa.ext E4 E_b1_3
    have F_b1_buckets_4 := Fld.ext E4 F_b1_buckets_3
    have E_b3_4 := Exa.ext E4 A3
    have F_b3_name_4 := Fld.ext E4 F_b3_name
    have F_b3_cells_4 := Fld.ext E4 F_b3_cells
    have F_b3_sets_4 := Fld.ext E4 F_b3_sets
    have Z4 := Nat.le_trans Z3 E4.1
    show own_FinW _ _ _ _ _ _ _ (T4.setTop (mkF m 43 #[jv va, sS, jv vb, sS, jv vc, sS, jv vd, sS, jv ve, sS, jv vf, sS, jv aA, sS, jv aB, sS, jv aC, sS, rv b1, uS, uS, uS, uS, uS] [(.ref b4), (.ref b3), (.ref b3)]))
    obtain ⟨T5, X5, e5, st5⟩ := getS2 X4 hx hZ hown (host := "") (Or.inl (own_W hw 26 rfl)) Via.refl e4 S_ADD_4 (g := (mkF m 43 #[jv va, sS, jv vb, sS, jv vc, sS, jv vd, sS, jv ve, sS, jv vf, sS, jv aA, sS, jv aB, sS, jv aC, sS, rv b1, uS, uS, uS, uS, uS] [(.ref b4), (.ref b3), (.ref b3)])) rfl (hb hby at_43)
    refine own_FinW.go st5 ?_
    refine own_FinW.go (fun t k => XS.iconst X5.here hx rfl (hb hby at_46) k) ?_
    obtain ⟨_, _, ⟨T6, L6, k6, n6⟩, -, X6, ⟨Lc6, hQ6, l6, y6, z6⟩, st6⟩ := X5.specialBack hx (y := own_y15) rfl hown (mvT hZ (own_W hw 29 rfl)) (mvT hZ (own_W hw 30 rfl)) (mvT hZ (own_W hw 31 rfl)) (by decide) (backOf (W := 1) (own_rm_cou l Z a0 hw [] b3 b4 oADD oUNIQUE h4 n0 Z4 E_b3_4 F_b3_name_4 F_b3_cells_4 F_b3_sets_4 g_b3 S_UNIQUE_4 ne_oADD_oUNIQUE) hZ (own_W hw 31 rfl) (own_W hw 17 rfl) (by decide) (by decide)) (g := (mkF m 47 #[jv va, sS, jv vb, sS, jv vc, sS, jv vd, sS, jv ve, sS, jv vf, sS, jv aA, sS, jv aB, sS, jv aC, sS, rv b1, uS, uS, uS, uS, uS] [(.int 3), (.ref oADD), (.ref b4), (.ref b3), (.ref b3)])) rfl (by rw [hml]; rfl) (Steps.refl _) (a := b3) (argsL := [(.ref b4), (.ref oADD), (.int 3)]) (rest := [(.ref b3)]) (lenOf own_pd10 rfl) rfl (Nat.le_of_eq rfl) (hb hby at_47) (fun _ _ => ⟨rfl, e5, (by decide : 4 + 1 ≤ _), (by decide : 13 + 2 ≤ _)⟩)
    dsimp only [Pt.U, Pt.locs, Pt.cells, Pt.slots] at X6 l6 y6 z6 st6 hQ6
    subst l6 y6 z6
    obtain ⟨ob6, kb6, rfl, N6q, K6q, c6_1, c6_2, c6_3, c6_4, c6_5, c6_6⟩ := hQ6
    refine own_FinW.go (fun t k => st6.trans k) ?_
    have N6 := Fr.app N2 N6q
    have E_b1_6 := E_b1_4.keep K6q
    have F_b1_buckets_6 := F_b1_buckets_4.keep K6q (ninS ne_b1_b3 nin0)
    have Z6 := Nat.le_trans Z4 K6q.1
    have hk6 := Nat.le_trans hk4 K6q.1
    have ne_b1_ob6 : b1 ≠ ob6 := Nat.ne_of_lt (Nat.lt_of_lt_of_le F_b1_buckets_4.lt c6_5)
    have ne_b3_ob6 : b3 ≠ ob6 := Nat.ne_of_lt (Nat.lt_of_lt_of_le F_b3_sets_4.lt c6_5)
    have g_ob6 : n0 ≤ ob6 := Nat.le_trans Z4 c6_5
    refine own_FinW.go (fun t k => XS.astore X6.here hx rfl (hb hby at_50) rfl rfl (l' := #[jv va, sS, jv vb, sS, jv vc, sS, jv vd, sS, jv ve, sS, jv vf, sS, jv aA, sS, jv aB, sS, jv aC, sS, rv b1, rv b3, uS, uS, uS, uS]) rfl (XS.aload X6.here hx rfl (hb hby at_52) rfl rfl (XS.iconst X6.here hx rfl (hb hby at_54) (XS.lload X6.here hx rfl (hb hby at_55) rfl k)))) ?_
    refine own_FinW.go (fun t k => XS.lconst X6.here hx rfl (hb hby at_57) k) ?_
    show own_FinW _ _ _ _ _ _ _ (T6.setTop (mkF m 58 #[jv va, sS, jv vb, sS, jv vc, sS, jv vd, sS, jv ve, sS, jv vf, sS, jv aA, sS, jv aB, sS, jv aC, sS, rv b1, rv b3, uS, uS, uS, uS] [(.long 1), (.long vd), (.int 0), (.ref b3)]))
    refine own_FinW.go (fun t k => XS.aload X6.here hx rfl (hb hby at_58) rfl rfl k) ?_
    obtain ⟨cq7, kq7, q7a, q7b, q7c⟩ := isOf hZ rfl c6_1
    obtain ⟨_, _, ⟨T7, L7, k7, n7⟩, -, X7, ⟨Lc7, hQ7, l7, y7, z7⟩, st7⟩ := X6.virtualBack hx (y := own_y17) (z := own_y17) hown (mvT hZ (own_W hw 45 rfl)) (mvT hZ (own_W hw 46 rfl)) (notFace_of_selects (args := #[]) (mvT hZ (own_W hw 48 rfl))) (mvT hZ (own_W hw 48 rfl)) (mvT hZ (own_W hw 47 rfl)) (by decide) (backOf (W := 0) (own_rm_adA l Z a0 hw [] b3 vd (1 : Int64) b1 ob6 kb6 (0 : Int64) T6.heap n0 Z6 c6_1 c6_2 c6_3 c6_4 E_b1_6 F_b1_buckets_6 g_b3 g_ob6 g_b1 (Ne.symm ne_b1_b3) c6_6 ne_b1_ob6) hZ (own_W hw 49 rfl) (own_W hw 17 rfl) (by decide) (by decide)) q7a q7c (g := (mkF m 60 #[jv va, sS, jv vb, sS, jv vc, sS, jv vd, sS, jv ve, sS, jv vf, sS, jv aA, sS, jv aB, sS, jv aC, sS, rv b1, rv b3, uS, uS, uS, uS] [(.ref b1), (.long 1), (.long vd), (.int 0), (.ref b3)])) rfl (by rw [hml]; rfl) (Steps.refl _) (argsL := [(.int 0), (.long vd), (.long 1), (.ref b1)]) (rest := []) (lenOf own_pd11 rfl) rfl (Nat.le_of_eq rfl) (hb hby at_60) (fun _ _ => ⟨rfl, rfl, (by decide : 5 + 1 ≤ _), (by decide : 15 + 4 ≤ _)⟩)
    dsimp only [Pt.U, Pt.locs, Pt.cells, Pt.slots] at X7 l7 y7 z7 st7 hQ7
    subst l7 y7 z7
    obtain ⟨ob7, kb7, rfl, N7q, K7q, c7_1, c7_2, c7_3, c7_4, c7_5, c7_6, c7_7, c7_8, c7_9⟩ := hQ7
    refine own_FinW.go (fun t k => st7.trans k) ?_
    have N7 := Fr.app N6 N7q
    have Z7 := Nat.le_trans Z6 K7q.1
    have hk7 := Nat.le_trans hk6 K7q.1
    have ne_b1_ob7 : b1 ≠ ob7 := Nat.ne_of_lt (Nat.lt_of_lt_of_le F_b1_buckets_6.lt c7_7)
    have ne_b3_ob7 : b3 ≠ ob7 := Nat.ne_of_lt (Nat.lt_of_lt_of_le c6_3.lt c7_7)
    have ne_ob6_ob7 : ob6 ≠ ob7 := Nat.ne_of_lt (Nat.lt_of_lt_of_le c6_4.lt c7_7)
    have g_ob7 : n0 ≤ ob7 := Nat.le_trans Z6 c7_7
    refine own_FinW.go (fun t k => XS.aload X7.here hx rfl (hb hby at_63) rfl rfl (XS.iconst X7.here hx rfl (hb hby at_65) (XS.lloadN X7.here hx rfl (hb hby at_66) rfl (XS.lload X7.here hx rfl (hb hby at_67) rfl k)))) ?_
    refine own_FinW.go (fun t k => XS.aload X7.here hx rfl (hb hby at_69) rfl rfl k) ?_
    show own_FinW _ _ _ _ _ _ _ (T7.setTop (mkF m 71 #[jv va, sS, jv vb, sS, jv vc, sS, jv vd, sS, jv ve, sS, jv vf, sS, jv aA, sS, jv aB, sS, jv aC, sS, rv b1, rv b3, uS, uS, uS, uS] [(.ref b1), (.long aA), (.long va), (.int 1), (.ref b3)]))
    obtain ⟨cq8, kq8, q8a, q8b, q8c⟩ := isOf hZ rfl c7_1
    obtain ⟨_, _, ⟨T8, L8, k8, n8⟩, -, X8, ⟨Lc8, hQ8, l8, y8, z8⟩, st8⟩ := X7.virtualBack hx (y := own_y17) (z := own_y17) hown (mvT hZ (own_W hw 45 rfl)) (mvT hZ (own_W hw 46 rfl)) (notFace_of_selects (args := #[]) (mvT hZ (own_W hw 48 rfl))) (mvT hZ (own_W hw 48 rfl)) (mvT hZ (own_W hw 47 rfl)) (by decide) (backOf (W := 0) (own_rm_adB l Z a0 hw [] b3 va aA b1 ob7 kb7 vd (own_sat (0 : Int64) (1 : Int64)) ((0 : Int64) + (1 : Int64)) T7.heap n0 Z7 c7_1 c7_2 c7_3 c7_4 c7_5 c7_6 g_b3 g_ob7 g_b1 (Ne.symm ne_b1_b3) c7_8 c7_9) hZ (own_W hw 49 rfl) (own_W hw 17 rfl) (by decide) (by decide)) q8a q8c (g := (mkF m 71 #[jv va, sS, jv vb, sS, jv vc, sS, jv vd, sS, jv ve, sS, jv vf, sS, jv aA, sS, jv aB, sS, jv aC, sS, rv b1, rv b3, uS, uS, uS, uS] [(.ref b1), (.long aA), (.long va), (.int 1), (.ref b3)])) rfl (by rw [hml]; rfl) (Steps.refl _) (argsL := [(.int 1), (.long va), (.long aA), (.ref b1)]) (rest := []) (lenOf own_pd11 rfl) rfl (Nat.le_of_eq rfl) (hb hby at_71) (fun _ _ => ⟨rfl, rfl, (by decide : 6 + 1 ≤ _), (by decide : 19 + 6 ≤ _)⟩)
    dsimp only [Pt.U, Pt.locs, Pt.cells, Pt.slots] at X8 l8 y8 z8 st8 hQ8
    subst l8 y8 z8
    obtain ⟨ob8, kb8, rfl, N8q, K8q, c8_1, c8_2, c8_3, c8_4, c8_5, c8_6, c8_7, c8_8, c8_9⟩ := hQ8
    refine own_FinW.go (fun t k => st8.trans k) ?_
    have N8 := Fr.app N7 N8q
    have Z8 := Nat.le_trans Z7 K8q.1
    have hk8 := Nat.le_trans hk7 K8q.1
    have ne_b3_ob8 : b3 ≠ ob8 := Nat.ne_of_lt (Nat.lt_of_lt_of_le c7_3.lt c8_7)
    have ne_ob7_ob8 : ob7 ≠ ob8 := Nat.ne_of_lt (Nat.lt_of_lt_of_le c7_4.lt c8_7)
    have ne_b1_ob8 : b1 ≠ ob8 := Nat.ne_of_lt (Nat.lt_of_lt_of_le c7_6.lt c8_7)
    have g_ob8 : n0 ≤ ob8 := Nat.le_trans Z7 c8_7
    have tail1 : ∀ (TL : State) (LL : List Loc) (XL : Stand p l e room_1 (s.setVm T4.vm) m #[(.long va), (.long vb), (.long vc), (.long vd), (.long ve), (.long vf)] below meth c TL LL 20 300) (NL : Fr n0 LL) (ZL : n0 ≤ TL.heap.size) (hkL : kk4 ≤ TL.heap.size) (oL : Addr) (kL : ClassId) (ya wa ubL : Int64) (EcL : Exa Z TL.heap b3 own_k0) (FcL : Fld Z TL.heap b3 own_k0 "cells" "[J" (.ref oL)) (FsL : Fld Z TL.heap b3 own_k0 "sets" "[Ljava/lang/Object;" .null) (VL : Arv Z TL.heap oL kL .long (6 : Int32) [(.long 3458764514894282753), (.long 0), (.long vd), (.long (own_sat (0 : Int64) (1 : Int64))), (.long ya), (.long wa)] (.long 0)) (EtL : Exa Z TL.heap b1 own_k2) (FbL : Fld Z TL.heap b1 own_k2 "buckets" "J" (.long ubL)) (gL : n0 ≤ oL) (nA : b3 ≠ oL) (nB : b1 ≠ oL) (hsum : own_suma ya wa vd ve = own_w (own_w (own_w (0 : Int64) vd ve va aA) vd ve vb aB) vd ve vc aC), own_FinW p e below s (own_Q_law Z va vb vc vd ve vf oADD oUNIQUE h0 n0) room_1.cells room_1.slots (TL.setTop (mkF m 97 #[jv va, sS, jv vb, sS, jv vc, sS, jv vd, sS, jv ve, sS, jv vf, sS, jv aA, sS, jv aB, sS, jv aC, sS, rv b1, rv b3, uS, uS, uS, uS] [])) := by
      intro TL LL XL NL ZL hkL oL kL ya wa ubL EcL FcL FsL VL EtL FbL gL nA nB hsum
      refine own_FinW.go (fun t k => XS.aload XL.here hx rfl (hb hby at_97) rfl rfl (XS.iconst XL.here hx rfl (hb hby at_99) (XS.lload XL.here hx rfl (hb hby at_100) rfl (XS.lconst XL.here hx rfl (hb hby at_102) k)))) ?_
      refine own_FinW.go (fun t k => XS.aload XL.here hx rfl (hb hby at_103) rfl rfl k) ?_
      show own_FinW _ _ _ _ _ _ _ (TL.setTop (mkF m 105 #[jv va, sS, jv vb, sS, jv vc, sS, jv vd, sS, jv ve, sS, jv vf, sS, jv aA, sS, jv aB, sS, jv aC, sS, rv b1, rv b3, uS, uS, uS, uS] [(.ref b1), (.long 1), (.long ve), (.int 2), (.ref b3)]))
      obtain ⟨cq9, kq9, q9a, q9b, q9c⟩ := isOf hZ rfl EcL
      obtain ⟨_, _, ⟨T9, L9, k9, n9⟩, -, X9, ⟨Lc9, hQ9, l9, y9, z9⟩, st9⟩ := XL.virtualBack hx (y := own_y17) (z := own_y17) hown (mvT hZ (own_W hw 45 rfl)) (mvT hZ (own_W hw 46 rfl)) (notFace_of_selects (args := #[]) (mvT hZ (own_W hw 48 rfl))) (mvT hZ (own_W hw 48 rfl)) (mvT hZ (own_W hw 47 rfl)) (by decide) (backOf (W := 0) (own_rm_adE1 l Z a0 hw [] b3 ve (1 : Int64) b1 oL kL vd (own_sat (0 : Int64) (1 : Int64)) ya wa ubL TL.heap n0 ZL EcL FcL FsL VL EtL FbL g_b3 gL g_b1 (Ne.symm ne_b1_b3) nA nB) hZ (own_W hw 49 rfl) (own_W hw 17 rfl) (by decide) (by decide)) q9a q9c (g := (mkF m 105 #[jv va, sS, jv vb, sS, jv vc, sS, jv vd, sS, jv ve, sS, jv vf, sS, jv aA, sS, jv aB, sS, jv aC, sS, rv b1, rv b3, uS, uS, uS, uS] [(.ref b1), (.long 1), (.long ve), (.int 2), (.ref b3)])) rfl (by rw [hml]; rfl) (Steps.refl _) (argsL := [(.int 2), (.long ve), (.long 1), (.ref b1)]) (rest := []) (lenOf own_pd11 rfl) rfl (Nat.le_of_eq rfl) (hb hby at_105) (fun _ _ => ⟨rfl, rfl, (by decide : 20 + 1 ≤ _), (by decide : 300 + 8 ≤ _)⟩)
      dsimp only [Pt.U, Pt.locs, Pt.cells, Pt.slots] at X9 l9 y9 z9 st9 hQ9
      subst l9 y9 z9
      obtain ⟨ob9, kb9, rfl, N9q, K9q, c9_1, c9_2, c9_3, c9_4, c9_5, c9_6, c9_7, c9_8, c9_9⟩ := hQ9
      refine own_FinW.go (fun t k => st9.trans k) ?_
      have N9 := Fr.app NL N9q
      have Z9 := Nat.le_trans ZL K9q.1
      have hk9 := Nat.le_trans hkL K9q.1
      have ne_b3_ob9 : b3 ≠ ob9 := Nat.ne_of_lt (Nat.lt_of_lt_of_le FsL.lt c9_7)
      have ne_oL_ob9 : oL ≠ ob9 := Nat.ne_of_lt (Nat.lt_of_lt_of_le VL.lt c9_7)
      have ne_b1_ob9 : b1 ≠ ob9 := Nat.ne_of_lt (Nat.lt_of_lt_of_le FbL.lt c9_7)
      have g_ob9 : n0 ≤ ob9 := Nat.le_trans ZL c9_7
      refine own_FinW.go (fun t k => XS.aload X9.here hx rfl (hb hby at_108) rfl rfl (XS.iconst X9.here hx rfl (hb hby at_110) (XS.lload X9.here hx rfl (hb hby at_111) rfl (XS.lload X9.here hx rfl (hb hby at_113) rfl k)))) ?_
      obtain ⟨cq10, kq10, q10a, q10b, q10c⟩ := isOf hZ rfl c9_1
      obtain ⟨_, _, ⟨T10, L10, k10, n10⟩, -, X10, ⟨Lc10, hQ10, l10, y10, z10⟩, st10⟩ := X9.virtualBack hx (y := own_y18) (z := own_y18) hown (mvT hZ (own_W hw 106 rfl)) (mvT hZ (own_W hw 107 rfl)) (notFace_of_selects (args := #[]) (mvT hZ (own_W hw 109 rfl))) (mvT hZ (own_W hw 109 rfl)) (mvT hZ (own_W hw 108 rfl)) (by decide) (backOf (W := 0) (own_rm_su1 l Z a0 hw [] b3 vd ve ob9 kb9 vd (own_sat (0 : Int64) (1 : Int64)) ya wa ve (own_sat (0 : Int64) (1 : Int64)) T9.heap n0 Z9 c9_1 c9_2 c9_4) hZ (own_W hw 110 rfl) (own_W hw 17 rfl) (by decide) (by decide)) q10a q10c (g := (mkF m 115 #[jv va, sS, jv vb, sS, jv vc, sS, jv vd, sS, jv ve, sS, jv vf, sS, jv aA, sS, jv aB, sS, jv aC, sS, rv b1, rv b3, uS, uS, uS, uS] [(.long ve), (.long vd), (.int 1), (.ref b3)])) rfl (by rw [hml]; rfl) (Steps.refl _) (argsL := [(.int 1), (.long vd), (.long ve)]) (rest := []) (lenOf own_pd12 rfl) rfl (Nat.le_of_eq rfl) (hb hby at_115) (fun _ _ => ⟨rfl, rfl, (by decide : 21 + 0 ≤ _), (by decide : 308 + 0 ≤ _)⟩)
      dsimp only [Pt.U, Pt.locs, Pt.cells, Pt.slots] at X10 l10 y10 z10 st10 hQ10
      subst l10 y10 z10
      obtain ⟨rfl, N10q, e10⟩ := hQ10
      refine own_FinW.go (fun t k => st10.trans k) ?_
      have N10 := Fr.app N9 N10q
      show own_FinW _ _ _ _ _ _ _ (T10.setTop (mkF m 118 #[jv va, sS, jv vb, sS, jv vc, sS, jv vd, sS, jv ve, sS, jv vf, sS, jv aA, sS, jv aB, sS, jv aC, sS, rv b1, rv b3, uS, uS, uS, uS] [(.long (own_suma ya wa vd ve))]))
      refine own_FinW.go (fun t k => XS.lstore X10.here hx rfl (hb hby at_118) rfl (l' := #[jv va, sS, jv vb, sS, jv vc, sS, jv vd, sS, jv ve, sS, jv vf, sS, jv aA, sS, jv aB, sS, jv aC, sS, rv b1, rv b3, .val (.long (own_suma ya wa vd ve)), sS, uS, uS]) rfl (XS.lconst X10.here hx rfl (hb hby at_120) (XS.lstore X10.here hx rfl (hb hby at_121) rfl (l' := #[jv va, sS, jv vb, sS, jv vc, sS, jv vd, sS, jv ve, sS, jv vf, sS, jv aA, sS, jv aB, sS, jv aC, sS, rv b1, rv b3, .val (.long (own_suma ya wa vd ve)), sS, jv 0, sS]) rfl k))) ?_
      have J146 : ∀ (TJ146 : State) (LJ146 : List Loc) (XJ146 : Stand p l e room_1 (s.setVm T4.vm) m #[(.long va), (.long vb), (.long vc), (.long vd), (.long ve), (.long vf)] below meth c TJ146 LJ146 21 308) (NJ146 : Fr n0 LJ146) (eJ146 : TJ146.heap = T9.heap) (wA : Int64) (hJ146 : wA = own_w (0 : Int64) vd ve va aA), own_FinW p e below s (own_Q_law Z va vb vc vd ve vf oADD oUNIQUE h0 n0) room_1.cells room_1.slots (TJ146.setTop (mkF m 146 #[jv va, sS, jv vb, sS, jv vc, sS, jv vd, sS, jv ve, sS, jv vf, sS, jv aA, sS, jv aB, sS, jv aC, sS, rv b1, rv b3, .val (.long (own_suma ya wa vd ve)), sS, jv wA, sS] [])) := by
        intro TJ146 LJ146 XJ146 NJ146 eJ146 wA hJ146
        have J169 : ∀ (TJ169 : State) (LJ169 : List Loc) (XJ169 : Stand p l e room_1 (s.setVm T4.vm) m #[(.long va), (.long vb), (.long vc), (.long vd), (.long ve), (.long vf)] below meth c TJ169 LJ169 21 308) (NJ169 : Fr n0 LJ169) (eJ169 : TJ169.heap = T9.heap) (wB : Int64) (hJ169 : wB = own_w wA vd ve vb aB), own_FinW p e below s (own_Q_law Z va vb vc vd ve vf oADD oUNIQUE h0 n0) room_1.cells room_1.slots (TJ169.setTop (mkF m 169 #[jv va, sS, jv vb, sS, jv vc, sS, jv vd, sS, jv ve, sS, jv vf, sS, jv aA, sS, jv aB, sS, jv aC, sS, rv b1, rv b3, .val (.long (own_suma ya wa vd ve)), sS, jv wB, sS] [])) := by
          intro TJ169 LJ169 XJ169 NJ169 eJ169 wB hJ169
          have J194 : ∀ (TJ194 : State) (LJ194 : List Loc) (XJ194 : Stand p l e room_1 (s.setVm T4.vm) m #[(.long va), (.long vb), (.long vc), (.long vd), (.long ve), (.long vf)] below meth c TJ194 LJ194 21 308) (NJ194 : Fr n0 LJ194) (eJ194 : TJ194.heap = T9.heap) (wC : Int64) (hJ194 : wC = own_w wB vd ve vc aC), own_FinW p e below s (own_Q_law Z va vb vc vd ve vf oADD oUNIQUE h0 n0) room_1.cells room_1.slots (TJ194.setTop (mkF m 194 #[jv va, sS, jv vb, sS, jv vc, sS, jv vd, sS, jv ve, sS, jv vf, sS, jv aA, sS, jv aB, sS, jv aC, sS, rv b1, rv b3, .val (.long (own_suma ya wa vd ve)), sS, jv wC, sS] [])) := by
            intro TJ194 LJ194 XJ194 NJ194 eJ194 wC hJ194
            refine own_FinW.go (fun t k => XS.lload XJ194.here hx rfl (hb hby at_194) rfl (XS.lload XJ194.here hx rfl (hb hby at_196) rfl k)) ?_
            show own_FinW _ _ _ _ _ _ _ (TJ194.setTop (mkF m 198 #[jv va, sS, jv vb, sS, jv vc, sS, jv vd, sS, jv ve, sS, jv vf, sS, jv aA, sS, jv aB, sS, jv aC, sS, rv b1, rv b3, .val (.long (own_suma ya wa vd ve)), sS, jv wC, sS] [(.long wC), (.long (own_suma ya wa vd ve))]))
            refine own_FinW.go (fun t k => XS.lcmp XJ194.here hx rfl (hb hby at_198) rfl k) ?_
            have hc199 : (own_suma ya wa vd ve) = wC := by rw [hJ194, hJ169, hJ146]; exact hsum
            refine own_FinW.go (fun t k => XS.ifNo XJ194.here hx rfl (hb hby at_199) rfl (Jvm.Free.XT.ll_ne_f hc199) (XS.iconst XJ194.here hx rfl (hb hby at_202) (XS.goto XJ194.here hx rfl (pc0 := 203) (pc' := 207) rfl (hb hby at_203) (by decide) (by decide) k))) ?_
            refine own_retNW XJ194 hx hS (by rw [eJ194]; exact hk9) (t := .boolean) (w := (1 : Int32)) Bd.returns (by simp) (hb hby at_207) Bd.notSynchronized rfl (by decide) (by decide) ?_
            rw [eJ194]
            exact ⟨rfl, NJ194⟩
          refine own_FinW.go (fun t k => XS.lload XJ169.here hx rfl (hb hby at_169) rfl (XS.lload XJ169.here hx rfl (hb hby at_171) rfl k)) ?_
          show own_FinW _ _ _ _ _ _ _ (TJ169.setTop (mkF m 173 #[jv va, sS, jv vb, sS, jv vc, sS, jv vd, sS, jv ve, sS, jv vf, sS, jv aA, sS, jv aB, sS, jv aC, sS, rv b1, rv b3, .val (.long (own_suma ya wa vd ve)), sS, jv wB, sS] [(.long vc), (.long vd)]))
          refine own_FinW.go (fun t k => XS.lcmp XJ169.here hx rfl (hb hby at_173) rfl k) ?_
          by_cases hc174 : vc < vd
          · refine own_FinW.go (fun t k => XS.ifYes XJ169.here hx rfl (pc0 := 174) (pc' := 194) rfl (hb hby at_174) rfl (Jvm.Free.XT.ll_gt_t hc174) (by decide) (by decide) k) ?_
            show own_FinW _ _ _ _ _ _ _ (TJ169.setTop (mkF m 194 #[jv va, sS, jv vb, sS, jv vc, sS, jv vd, sS, jv ve, sS, jv vf, sS, jv aA, sS, jv aB, sS, jv aC, sS, rv b1, rv b3, .val (.long (own_suma ya wa vd ve)), sS, jv wB, sS] []))
            exact J194 TJ169 _ XJ169 NJ169 eJ169 wB (by simp only [own_w, if_pos hc174])
          · refine own_FinW.go (fun t k => XS.ifNo XJ169.here hx rfl (hb hby at_174) rfl (Jvm.Free.XT.ll_gt_f hc174) k) ?_
            show own_FinW _ _ _ _ _ _ _ (TJ169.setTop (mkF m 177 #[jv va, sS, jv vb, sS, jv vc, sS, jv vd, sS, jv ve, sS, jv vf, sS, jv aA, sS, jv aB, sS, jv aC, sS, rv b1, rv b3, .val (.long (own_suma ya wa vd ve)), sS, jv wB, sS] []))
            refine own_FinW.go (fun t k => XS.lload XJ169.here hx rfl (hb hby at_177) rfl (XS.lload XJ169.here hx rfl (hb hby at_179) rfl (XS.lcmp XJ169.here hx rfl (hb hby at_181) rfl k))) ?_
            by_cases hc182 : ve < vc
            · refine own_FinW.go (fun t k => XS.ifYes XJ169.here hx rfl (pc0 := 182) (pc' := 194) rfl (hb hby at_182) rfl (Jvm.Free.XT.ll_gt_t hc182) (by decide) (by decide) k) ?_
              show own_FinW _ _ _ _ _ _ _ (TJ169.setTop (mkF m 194 #[jv va, sS, jv vb, sS, jv vc, sS, jv vd, sS, jv ve, sS, jv vf, sS, jv aA, sS, jv aB, sS, jv aC, sS, rv b1, rv b3, .val (.long (own_suma ya wa vd ve)), sS, jv wB, sS] []))
              exact J194 TJ169 _ XJ169 NJ169 eJ169 wB (by simp only [own_w, if_neg hc174, if_pos hc182])
            · refine own_FinW.go (fun t k => XS.ifNo XJ169.here hx rfl (hb hby at_182) rfl (Jvm.Free.XT.ll_gt_f hc182) k) ?_
              show own_FinW _ _ _ _ _ _ _ (TJ169.setTop (mkF m 185 #[jv va, sS, jv vb, sS, jv vc, sS, jv vd, sS, jv ve, sS, jv vf, sS, jv aA, sS, jv aB, sS, jv aC, sS, rv b1, rv b3, .val (.long (own_suma ya wa vd ve)), sS, jv wB, sS] []))
              refine own_FinW.go (fun t k => XS.lload XJ169.here hx rfl (hb hby at_185) rfl (XS.lload XJ169.here hx rfl (hb hby at_187) rfl k)) ?_
              obtain ⟨_, _, ⟨T11, L11, k11, n11⟩, -, X11, ⟨Lc11, hQ11, l11, y11, z11⟩, st11⟩ := Jvm.LawKit.callS XJ169 hx (y := own_y10) hown (mvT hZ (own_W hw 111 rfl)) (mvT hZ (own_W hw 112 rfl)) (mvT hZ (own_W hw 2 rfl)) (mvT hZ (own_W hw 113 rfl)) (by decide) (backOf (W := 0) (own_rm_cap l Z a0 hw [] wB aC  T9.heap n0 Z9 ) hZ (own_W hw 113 rfl) (own_W hw 2 rfl) (by decide) (by decide)) (g := (mkF m 189 #[jv va, sS, jv vb, sS, jv vc, sS, jv vd, sS, jv ve, sS, jv vf, sS, jv aA, sS, jv aB, sS, jv aC, sS, rv b1, rv b3, .val (.long (own_suma ya wa vd ve)), sS, jv wB, sS] [(.long aC), (.long wB)])) rfl (by rw [hml]; rfl) (argsL := [(.long wB), (.long aC)]) (rest := []) (lenOf own_pd8 rfl) rfl (Nat.le_of_eq rfl) (hb hby at_189) (fun _ _ => ⟨rfl, eJ169, (by decide : 21 + 0 ≤ _), (by decide : 308 + 0 ≤ _)⟩)
              dsimp only [Pt.U, Pt.locs, Pt.cells, Pt.slots] at X11 l11 y11 z11 st11 hQ11
              subst l11 y11 z11
              obtain ⟨rfl, N11q, e11⟩ := hQ11
              refine own_FinW.go (fun t k => st11 t k) ?_
              have N11 := Fr.app NJ169 N11q
              refine own_FinW.go (fun t k => XS.lstore X11.here hx rfl (hb hby at_192) rfl (l' := #[jv va, sS, jv vb, sS, jv vc, sS, jv vd, sS, jv ve, sS, jv vf, sS, jv aA, sS, jv aB, sS, jv aC, sS, rv b1, rv b3, .val (.long (own_suma ya wa vd ve)), sS, .val (.long (own_cap wB aC)), sS]) rfl k) ?_
              exact J194 T11 _ X11 N11 e11 (own_cap wB aC) (by simp only [own_w, if_neg hc174, if_neg hc182])
        refine own_FinW.go (fun t k => XS.lload XJ146.here hx rfl (hb hby at_146) rfl (XS.lloadN XJ146.here hx rfl (hb hby at_148) rfl (XS.lcmp XJ146.here hx rfl (hb hby at_149) rfl k))) ?_
        by_cases hc150 : vb < vd
        · refine own_FinW.go (fun t k => XS.ifYes XJ146.here hx rfl (pc0 := 150) (pc' := 169) rfl (hb hby at_150) rfl (Jvm.Free.XT.ll_gt_t hc150) (by decide) (by decide) k) ?_
          show own_FinW _ _ _ _ _ _ _ (TJ146.setTop (mkF m 169 #[jv va, sS, jv vb, sS, jv vc, sS, jv vd, sS, jv ve, sS, jv vf, sS, jv aA, sS, jv aB, sS, jv aC, sS, rv b1, rv b3, .val (.long (own_suma ya wa vd ve)), sS, jv wA, sS] []))
          exact J169 TJ146 _ XJ146 NJ146 eJ146 wA (by simp only [own_w, if_pos hc150])
        · refine own_FinW.go (fun t k => XS.ifNo XJ146.here hx rfl (hb hby at_150) rfl (Jvm.Free.XT.ll_gt_f hc150) k) ?_
          show own_FinW _ _ _ _ _ _ _ (TJ146.setTop (mkF m 153 #[jv va, sS, jv vb, sS, jv vc, sS, jv vd, sS, jv ve, sS, jv vf, sS, jv aA, sS, jv aB, sS, jv aC, sS, rv b1, rv b3, .val (.long (own_suma ya wa vd ve)), sS, jv wA, sS] []))
          refine own_FinW.go (fun t k => XS.lloadN XJ146.here hx rfl (hb hby at_153) rfl (XS.lload XJ146.here hx rfl (hb hby at_154) rfl (XS.lcmp XJ146.here hx rfl (hb hby at_156) rfl k))) ?_
          by_cases hc157 : ve < vb
          · refine own_FinW.go (fun t k => XS.ifYes XJ146.here hx rfl (pc0 := 157) (pc' := 169) rfl (hb hby at_157) rfl (Jvm.Free.XT.ll_gt_t hc157) (by decide) (by decide) k) ?_
            show own_FinW _ _ _ _ _ _ _ (TJ146.setTop (mkF m 169 #[jv va, sS, jv vb, sS, jv vc, sS, jv vd, sS, jv ve, sS, jv vf, sS, jv aA, sS, jv aB, sS, jv aC, sS, rv b1, rv b3, .val (.long (own_suma ya wa vd ve)), sS, jv wA, sS] []))
            exact J169 TJ146 _ XJ146 NJ146 eJ146 wA (by simp only [own_w, if_neg hc150, if_pos hc157])
          · refine own_FinW.go (fun t k => XS.ifNo XJ146.here hx rfl (hb hby at_157) rfl (Jvm.Free.XT.ll_gt_f hc157) k) ?_
            show own_FinW _ _ _ _ _ _ _ (TJ146.setTop (mkF m 160 #[jv va, sS, jv vb, sS, jv vc, sS, jv vd, sS, jv ve, sS, jv vf, sS, jv aA, sS, jv aB, sS, jv aC, sS, rv b1, rv b3, .val (.long (own_suma ya wa vd ve)), sS, jv wA, sS] []))
            refine own_FinW.go (fun t k => XS.lload XJ146.here hx rfl (hb hby at_160) rfl (XS.lload XJ146.here hx rfl (hb hby at_162) rfl k)) ?_
            obtain ⟨_, _, ⟨T12, L12, k12, n12⟩, -, X12, ⟨Lc12, hQ12, l12, y12, z12⟩, st12⟩ := Jvm.LawKit.callS XJ146 hx (y := own_y10) hown (mvT hZ (own_W hw 111 rfl)) (mvT hZ (own_W hw 112 rfl)) (mvT hZ (own_W hw 2 rfl)) (mvT hZ (own_W hw 113 rfl)) (by decide) (backOf (W := 0) (own_rm_cap l Z a0 hw [] wA aB  T9.heap n0 Z9 ) hZ (own_W hw 113 rfl) (own_W hw 2 rfl) (by decide) (by decide)) (g := (mkF m 164 #[jv va, sS, jv vb, sS, jv vc, sS, jv vd, sS, jv ve, sS, jv vf, sS, jv aA, sS, jv aB, sS, jv aC, sS, rv b1, rv b3, .val (.long (own_suma ya wa vd ve)), sS, jv wA, sS] [(.long aB), (.long wA)])) rfl (by rw [hml]; rfl) (argsL := [(.long wA), (.long aB)]) (rest := []) (lenOf own_pd8 rfl) rfl (Nat.le_of_eq rfl) (hb hby at_164) (fun _ _ => ⟨rfl, eJ146, (by decide : 21 + 0 ≤ _), (by decide : 308 + 0 ≤ _)⟩)
            dsimp only [Pt.U, Pt.locs, Pt.cells, Pt.slots] at X12 l12 y12 z12 st12 hQ12
            subst l12 y12 z12
            obtain ⟨rfl, N12q, e12⟩ := hQ12
            refine own_FinW.go (fun t k => st12 t k) ?_
            have N12 := Fr.app NJ146 N12q
            refine own_FinW.go (fun t k => XS.lstore X12.here hx rfl (hb hby at_167) rfl (l' := #[jv va, sS, jv vb, sS, jv vc, sS, jv vd, sS, jv ve, sS, jv vf, sS, jv aA, sS, jv aB, sS, jv aC, sS, rv b1, rv b3, .val (.long (own_suma ya wa vd ve)), sS, .val (.long (own_cap wA aB)), sS]) rfl k) ?_
            exact J169 T12 _ X12 N12 e12 (own_cap wA aB) (by simp only [own_w, if_neg hc150, if_neg hc157])
      refine own_FinW.go (fun t k => XS.lload X10.here hx rfl (hb hby at_123) rfl (XS.lloadN X10.here hx rfl (hb hby at_125) rfl (XS.lcmp X10.here hx rfl (hb hby at_126) rfl k))) ?_
      by_cases hc127 : va < vd
      · refine own_FinW.go (fun t k => XS.ifYes X10.here hx rfl (pc0 := 127) (pc' := 146) rfl (hb hby at_127) rfl (Jvm.Free.XT.ll_gt_t hc127) (by decide) (by decide) k) ?_
        show own_FinW _ _ _ _ _ _ _ (T10.setTop (mkF m 146 #[jv va, sS, jv vb, sS, jv vc, sS, jv vd, sS, jv ve, sS, jv vf, sS, jv aA, sS, jv aB, sS, jv aC, sS, rv b1, rv b3, .val (.long (own_suma ya wa vd ve)), sS, jv 0, sS] []))
        exact J146 T10 _ X10 N10 e10 (0 : Int64) (by simp only [own_w, if_pos hc127])
      · refine own_FinW.go (fun t k => XS.ifNo X10.here hx rfl (hb hby at_127) rfl (Jvm.Free.XT.ll_gt_f hc127) k) ?_
        show own_FinW _ _ _ _ _ _ _ (T10.setTop (mkF m 130 #[jv va, sS, jv vb, sS, jv vc, sS, jv vd, sS, jv ve, sS, jv vf, sS, jv aA, sS, jv aB, sS, jv aC, sS, rv b1, rv b3, .val (.long (own_suma ya wa vd ve)), sS, jv 0, sS] []))
        refine own_FinW.go (fun t k => XS.lloadN X10.here hx rfl (hb hby at_130) rfl (XS.lload X10.here hx rfl (hb hby at_131) rfl (XS.lcmp X10.here hx rfl (hb hby at_133) rfl k))) ?_
        by_cases hc134 : ve < va
        · refine own_FinW.go (fun t k => XS.ifYes X10.here hx rfl (pc0 := 134) (pc' := 146) rfl (hb hby at_134) rfl (Jvm.Free.XT.ll_gt_t hc134) (by decide) (by decide) k) ?_
          show own_FinW _ _ _ _ _ _ _ (T10.setTop (mkF m 146 #[jv va, sS, jv vb, sS, jv vc, sS, jv vd, sS, jv ve, sS, jv vf, sS, jv aA, sS, jv aB, sS, jv aC, sS, rv b1, rv b3, .val (.long (own_suma ya wa vd ve)), sS, jv 0, sS] []))
          exact J146 T10 _ X10 N10 e10 (0 : Int64) (by simp only [own_w, if_neg hc127, if_pos hc134])
        · refine own_FinW.go (fun t k => XS.ifNo X10.here hx rfl (hb hby at_134) rfl (Jvm.Free.XT.ll_gt_f hc134) k) ?_
          show own_FinW _ _ _ _ _ _ _ (T10.setTop (mkF m 137 #[jv va, sS, jv vb, sS, jv vc, sS, jv vd, sS, jv ve, sS, jv vf, sS, jv aA, sS, jv aB, sS, jv aC, sS, rv b1, rv b3, .val (.long (own_suma ya wa vd ve)), sS, jv 0, sS] []))
          refine own_FinW.go (fun t k => XS.lload X10.here hx rfl (hb hby at_137) rfl (XS.lload X10.here hx rfl (hb hby at_139) rfl k)) ?_
          obtain ⟨_, _, ⟨T13, L13, k13, n13⟩, -, X13, ⟨Lc13, hQ13, l13, y13, z13⟩, st13⟩ := Jvm.LawKit.callS X10 hx (y := own_y10) hown (mvT hZ (own_W hw 111 rfl)) (mvT hZ (own_W hw 112 rfl)) (mvT hZ (own_W hw 2 rfl)) (mvT hZ (own_W hw 113 rfl)) (by decide) (backOf (W := 0) (own_rm_cap l Z a0 hw [] (0 : Int64) aA  T9.heap n0 Z9 ) hZ (own_W hw 113 rfl) (own_W hw 2 rfl) (by decide) (by decide)) (g := (mkF m 141 #[jv va, sS, jv vb, sS, jv vc, sS, jv vd, sS, jv ve, sS, jv vf, sS, jv aA, sS, jv aB, sS, jv aC, sS, rv b1, rv b3, .val (.long (own_suma ya wa vd ve)), sS, jv 0, sS] [(.long aA), (.long 0)])) rfl (by rw [hml]; rfl) (argsL := [(.long 0), (.long aA)]) (rest := []) (lenOf own_pd8 rfl) rfl (Nat.le_of_eq rfl) (hb hby at_141) (fun _ _ => ⟨rfl, e10, (by decide : 21 + 0 ≤ _), (by decide : 308 + 0 ≤ _)⟩)
          dsimp only [Pt.U, Pt.locs, Pt.cells, Pt.slots] at X13 l13 y13 z13 st13 hQ13
          subst l13 y13 z13
          obtain ⟨rfl, N13q, e13⟩ := hQ13
          refine own_FinW.go (fun t k => st13 t k) ?_
          have N13 := Fr.app N10 N13q
          refine own_FinW.go (fun t k => XS.lstore X13.here hx rfl (hb hby at_144) rfl (l' := #[jv va, sS, jv vb, sS, jv vc, sS, jv vd, sS, jv ve, sS, jv vf, sS, jv aA, sS, jv aB, sS, jv aC, sS, rv b1, rv b3, .val (.long (own_suma ya wa vd ve)), sS, .val (.long (own_cap (0 : Int64) aA)), sS]) rfl k) ?_
          exact J146 T13 _ X13 N13 e13 (own_cap (0 : Int64) aA) (by simp only [own_w, if_neg hc127, if_neg hc134])
    have tail2 : ∀ (TL : State) (LL : List Loc) (XL : Stand p l e room_1 (s.setVm T4.vm) m #[(.long va), (.long vb), (.long vc), (.long vd), (.long ve), (.long vf)] below meth c TL LL 20 300) (NL : Fr n0 LL) (ZL : n0 ≤ TL.heap.size) (hkL : kk4 ≤ TL.heap.size) (oL : Addr) (kL : ClassId) (ya wa yb wb ubL : Int64) (EcL : Exa Z TL.heap b3 own_k0) (FcL : Fld Z TL.heap b3 own_k0 "cells" "[J" (.ref oL)) (FsL : Fld Z TL.heap b3 own_k0 "sets" "[Ljava/lang/Object;" .null) (VL : Arv Z TL.heap oL kL .long (8 : Int32) [(.long 3458764515968024577), (.long 0), (.long vd), (.long (own_sat (0 : Int64) (1 : Int64))), (.long ya), (.long wa), (.long yb), (.long wb)] (.long 0)) (EtL : Exa Z TL.heap b1 own_k2) (FbL : Fld Z TL.heap b1 own_k2 "buckets" "J" (.long ubL)) (gL : n0 ≤ oL) (nA : b3 ≠ oL) (nB : b1 ≠ oL) (hsum : own_sumb ya wa yb wb vd ve = own_w (own_w (own_w (0 : Int64) vd ve va aA) vd ve vb aB) vd ve vc aC), own_FinW p e below s (own_Q_law Z va vb vc vd ve vf oADD oUNIQUE h0 n0) room_1.cells room_1.slots (TL.setTop (mkF m 97 #[jv va, sS, jv vb, sS, jv vc, sS, jv vd, sS, jv ve, sS, jv vf, sS, jv aA, sS, jv aB, sS, jv aC, sS, rv b1, rv b3, uS, uS, uS, uS] [])) := by
      intro TL LL XL NL ZL hkL oL kL ya wa yb wb ubL EcL FcL FsL VL EtL FbL gL nA nB hsum
      refine own_FinW.go (fun t k => XS.aload XL.here hx rfl (hb hby at_97) rfl rfl (XS.iconst XL.here hx rfl (hb hby at_99) (XS.lload XL.here hx rfl (hb hby at_100) rfl (XS.lconst XL.here hx rfl (hb hby at_102) k)))) ?_
      show own_FinW _ _ _ _ _ _ _ (TL.setTop (mkF m 103 #[jv va, sS, jv vb, sS, jv vc, sS, jv vd, sS, jv ve, sS, jv vf, sS, jv aA, sS, jv aB, sS, jv aC, sS, rv b1, rv b3, uS, uS, uS, uS] [(.long 1), (.long ve), (.int 2), (.ref b3)]))
      refine own_FinW.go (fun t k => XS.aload XL.here hx rfl (hb hby at_103) rfl rfl k) ?_
      obtain ⟨cq14, kq14, q14a, q14b, q14c⟩ := isOf hZ rfl EcL
      obtain ⟨_, _, ⟨T14, L14, k14, n14⟩, -, X14, ⟨Lc14, hQ14, l14, y14, z14⟩, st14⟩ := XL.virtualBack hx (y := own_y17) (z := own_y17) hown (mvT hZ (own_W hw 45 rfl)) (mvT hZ (own_W hw 46 rfl)) (notFace_of_selects (args := #[]) (mvT hZ (own_W hw 48 rfl))) (mvT hZ (own_W hw 48 rfl)) (mvT hZ (own_W hw 47 rfl)) (by decide) (backOf (W := 0) (own_rm_adE2 l Z a0 hw [] b3 ve (1 : Int64) b1 oL kL vd (own_sat (0 : Int64) (1 : Int64)) ya wa yb wb ubL TL.heap n0 ZL EcL FcL FsL VL EtL FbL g_b3 gL g_b1 (Ne.symm ne_b1_b3) nA nB) hZ (own_W hw 49 rfl) (own_W hw 17 rfl) (by decide) (by decide)) q14a q14c (g := (mkF m 105 #[jv va, sS, jv vb, sS, jv vc, sS, jv vd, sS, jv ve, sS, jv vf, sS, jv aA, sS, jv aB, sS, jv aC, sS, rv b1, rv b3, uS, uS, uS, uS] [(.ref b1), (.long 1), (.long ve), (.int 2), (.ref b3)])) rfl (by rw [hml]; rfl) (Steps.refl _) (argsL := [(.int 2), (.long ve), (.long 1), (.ref b1)]) (rest := []) (lenOf own_pd11 rfl) rfl (Nat.le_of_eq rfl) (hb hby at_105) (fun _ _ => ⟨rfl, rfl, (by decide : 20 + 1 ≤ _), (by decide : 300 + 10 ≤ _)⟩)
      dsimp only [Pt.U, Pt.locs, Pt.cells, Pt.slots] at X14 l14 y14 z14 st14 hQ14
      subst l14 y14 z14
      obtain ⟨ob14, kb14, rfl, N14q, K14q, c14_1, c14_2, c14_3, c14_4, c14_5, c14_6, c14_7, c14_8, c14_9⟩ := hQ14
      refine own_FinW.go (fun t k => st14.trans k) ?_
      have N14 := Fr.app NL N14q
      have Z14 := Nat.le_trans ZL K14q.1
      have hk14 := Nat.le_trans hkL K14q.1
      have ne_b3_ob14 : b3 ≠ ob14 := Nat.ne_of_lt (Nat.lt_of_lt_of_le FsL.lt c14_7)
      have ne_oL_ob14 : oL ≠ ob14 := Nat.ne_of_lt (Nat.lt_of_lt_of_le VL.lt c14_7)
      have ne_b1_ob14 : b1 ≠ ob14 := Nat.ne_of_lt (Nat.lt_of_lt_of_le FbL.lt c14_7)
      have g_ob14 : n0 ≤ ob14 := Nat.le_trans ZL c14_7
      refine own_FinW.go (fun t k => XS.aload X14.here hx rfl (hb hby at_108) rfl rfl (XS.iconst X14.here hx rfl (hb hby at_110) (XS.lload X14.here hx rfl (hb hby at_111) rfl (XS.lload X14.here hx rfl (hb hby at_113) rfl k)))) ?_
      obtain ⟨cq15, kq15, q15a, q15b, q15c⟩ := isOf hZ rfl c14_1
      obtain ⟨_, _, ⟨T15, L15, k15, n15⟩, -, X15, ⟨Lc15, hQ15, l15, y15, z15⟩, st15⟩ := X14.virtualBack hx (y := own_y18) (z := own_y18) hown (mvT hZ (own_W hw 106 rfl)) (mvT hZ (own_W hw 107 rfl)) (notFace_of_selects (args := #[]) (mvT hZ (own_W hw 109 rfl))) (mvT hZ (own_W hw 109 rfl)) (mvT hZ (own_W hw 108 rfl)) (by decide) (backOf (W := 0) (own_rm_su2 l Z a0 hw [] b3 vd ve ob14 kb14 vd (own_sat (0 : Int64) (1 : Int64)) ya wa yb wb ve (own_sat (0 : Int64) (1 : Int64)) T14.heap n0 Z14 c14_1 c14_2 c14_4) hZ (own_W hw 110 rfl) (own_W hw 17 rfl) (by decide) (by decide)) q15a q15c (g := (mkF m 115 #[jv va, sS, jv vb, sS, jv vc, sS, jv vd, sS, jv ve, sS, jv vf, sS, jv aA, sS, jv aB, sS, jv aC, sS, rv b1, rv b3, uS, uS, uS, uS] [(.long ve), (.long vd), (.int 1), (.ref b3)])) rfl (by rw [hml]; rfl) (Steps.refl _) (argsL := [(.int 1), (.long vd), (.long ve)]) (rest := []) (lenOf own_pd12 rfl) rfl (Nat.le_of_eq rfl) (hb hby at_115) (fun _ _ => ⟨rfl, rfl, (by decide : 21 + 0 ≤ _), (by decide : 310 + 0 ≤ _)⟩)
      dsimp only [Pt.U, Pt.locs, Pt.cells, Pt.slots] at X15 l15 y15 z15 st15 hQ15
      subst l15 y15 z15
      obtain ⟨rfl, N15q, e15⟩ := hQ15
      refine own_FinW.go (fun t k => st15.trans k) ?_
      have N15 := Fr.app N14 N15q
      show own_FinW _ _ _ _ _ _ _ (T15.setTop (mkF m 118 #[jv va, sS, jv vb, sS, jv vc, sS, jv vd, sS, jv ve, sS, jv vf, sS, jv aA, sS, jv aB, sS, jv aC, sS, rv b1, rv b3, uS, uS, uS, uS] [(.long (own_sumb ya wa yb wb vd ve))]))
      refine own_FinW.go (fun t k => XS.lstore X15.here hx rfl (hb hby at_118) rfl (l' := #[jv va, sS, jv vb, sS, jv vc, sS, jv vd, sS, jv ve, sS, jv vf, sS, jv aA, sS, jv aB, sS, jv aC, sS, rv b1, rv b3, .val (.long (own_sumb ya wa yb wb vd ve)), sS, uS, uS]) rfl (XS.lconst X15.here hx rfl (hb hby at_120) (XS.lstore X15.here hx rfl (hb hby at_121) rfl (l' := #[jv va, sS, jv vb, sS, jv vc, sS, jv vd, sS, jv ve, sS, jv vf, sS, jv aA, sS, jv aB, sS, jv aC, sS, rv b1, rv b3, .val (.long (own_sumb ya wa yb wb vd ve)), sS, jv 0, sS]) rfl k))) ?_
      have J146 : ∀ (TJ146 : State) (LJ146 : List Loc) (XJ146 : Stand p l e room_1 (s.setVm T4.vm) m #[(.long va), (.long vb), (.long vc), (.long vd), (.long ve), (.long vf)] below meth c TJ146 LJ146 21 310) (NJ146 : Fr n0 LJ146) (eJ146 : TJ146.heap = T14.heap) (wA : Int64) (hJ146 : wA = own_w (0 : Int64) vd ve va aA), own_FinW p e below s (own_Q_law Z va vb vc vd ve vf oADD oUNIQUE h0 n0) room_1.cells room_1.slots (TJ146.setTop (mkF m 146 #[jv va, sS, jv vb, sS, jv vc, sS, jv vd, sS, jv ve, sS, jv vf, sS, jv aA, sS, jv aB, sS, jv aC, sS, rv b1, rv b3, .val (.long (own_sumb ya wa yb wb vd ve)), sS, jv wA, sS] [])) := by
        intro TJ146 LJ146 XJ146 NJ146 eJ146 wA hJ146
        have J169 : ∀ (TJ169 : State) (LJ169 : List Loc) (XJ169 : Stand p l e room_1 (s.setVm T4.vm) m #[(.long va), (.long vb), (.long vc), (.long vd), (.long ve), (.long vf)] below meth c TJ169 LJ169 21 310) (NJ169 : Fr n0 LJ169) (eJ169 : TJ169.heap = T14.heap) (wB : Int64) (hJ169 : wB = own_w wA vd ve vb aB), own_FinW p e below s (own_Q_law Z va vb vc vd ve vf oADD oUNIQUE h0 n0) room_1.cells room_1.slots (TJ169.setTop (mkF m 169 #[jv va, sS, jv vb, sS, jv vc, sS, jv vd, sS, jv ve, sS, jv vf, sS, jv aA, sS, jv aB, sS, jv aC, sS, rv b1, rv b3, .val (.long (own_sumb ya wa yb wb vd ve)), sS, jv wB, sS] [])) := by
          intro TJ169 LJ169 XJ169 NJ169 eJ169 wB hJ169
          have J194 : ∀ (TJ194 : State) (LJ194 : List Loc) (XJ194 : Stand p l e room_1 (s.setVm T4.vm) m #[(.long va), (.long vb), (.long vc), (.long vd), (.long ve), (.long vf)] below meth c TJ194 LJ194 21 310) (NJ194 : Fr n0 LJ194) (eJ194 : TJ194.heap = T14.heap) (wC : Int64) (hJ194 : wC = own_w wB vd ve vc aC), own_FinW p e below s (own_Q_law Z va vb vc vd ve vf oADD oUNIQUE h0 n0) room_1.cells room_1.slots (TJ194.setTop (mkF m 194 #[jv va, sS, jv vb, sS, jv vc, sS, jv vd, sS, jv ve, sS, jv vf, sS, jv aA, sS, jv aB, sS, jv aC, sS, rv b1, rv b3, .val (.long (own_sumb ya wa yb wb vd ve)), sS, jv wC, sS] [])) := by
            intro TJ194 LJ194 XJ194 NJ194 eJ194 wC hJ194
            refine own_FinW.go (fun t k => XS.lload XJ194.here hx rfl (hb hby at_194) rfl (XS.lload XJ194.here hx rfl (hb hby at_196) rfl k)) ?_
            show own_FinW _ _ _ _ _ _ _ (TJ194.setTop (mkF m 198 #[jv va, sS, jv vb, sS, jv vc, sS, jv vd, sS, jv ve, sS, jv vf, sS, jv aA, sS, jv aB, sS, jv aC, sS, rv b1, rv b3, .val (.long (own_sumb ya wa yb wb vd ve)), sS, jv wC, sS] [(.long wC), (.long (own_sumb ya wa yb wb vd ve))]))
            refine own_FinW.go (fun t k => XS.lcmp XJ194.here hx rfl (hb hby at_198) rfl k) ?_
            have hc199 : (own_sumb ya wa yb wb vd ve) = wC := by rw [hJ194, hJ169, hJ146]; exact hsum
            refine own_FinW.go (fun t k => XS.ifNo XJ194.here hx rfl (hb hby at_199) rfl (Jvm.Free.XT.ll_ne_f hc199) (XS.iconst XJ194.here hx rfl (hb hby at_202) (XS.goto XJ194.here hx rfl (pc0 := 203) (pc' := 207) rfl (hb hby at_203) (by decide) (by decide) k))) ?_
            refine own_retNW XJ194 hx hS (by rw [eJ194]; exact hk14) (t := .boolean) (w := (1 : Int32)) Bd.returns (by simp) (hb hby at_207) Bd.notSynchronized rfl (by decide) (by decide) ?_
            rw [eJ194]
            exact ⟨rfl, NJ194⟩
          refine own_FinW.go (fun t k => XS.lload XJ169.here hx rfl (hb hby at_169) rfl (XS.lload XJ169.here hx rfl (hb hby at_171) rfl k)) ?_
          show own_FinW _ _ _ _ _ _ _ (TJ169.setTop (mkF m 173 #[jv va, sS, jv vb, sS, jv vc, sS, jv vd, sS, jv ve, sS, jv vf, sS, jv aA, sS, jv aB, sS, jv aC, sS, rv b1, rv b3, .val (.long (own_sumb ya wa yb wb vd ve)), sS, jv wB, sS] [(.long vc), (.long vd)]))
          refine own_FinW.go (fun t k => XS.lcmp XJ169.here hx rfl (hb hby at_173) rfl k) ?_
          by_cases hc174 : vc < vd
          · refine own_FinW.go (fun t k => XS.ifYes XJ169.here hx rfl (pc0 := 174) (pc' := 194) rfl (hb hby at_174) rfl (Jvm.Free.XT.ll_gt_t hc174) (by decide) (by decide) k) ?_
            show own_FinW _ _ _ _ _ _ _ (TJ169.setTop (mkF m 194 #[jv va, sS, jv vb, sS, jv vc, sS, jv vd, sS, jv ve, sS, jv vf, sS, jv aA, sS, jv aB, sS, jv aC, sS, rv b1, rv b3, .val (.long (own_sumb ya wa yb wb vd ve)), sS, jv wB, sS] []))
            exact J194 TJ169 _ XJ169 NJ169 eJ169 wB (by simp only [own_w, if_pos hc174])
          · refine own_FinW.go (fun t k => XS.ifNo XJ169.here hx rfl (hb hby at_174) rfl (Jvm.Free.XT.ll_gt_f hc174) k) ?_
            show own_FinW _ _ _ _ _ _ _ (TJ169.setTop (mkF m 177 #[jv va, sS, jv vb, sS, jv vc, sS, jv vd, sS, jv ve, sS, jv vf, sS, jv aA, sS, jv aB, sS, jv aC, sS, rv b1, rv b3, .val (.long (own_sumb ya wa yb wb vd ve)), sS, jv wB, sS] []))
            refine own_FinW.go (fun t k => XS.lload XJ169.here hx rfl (hb hby at_177) rfl (XS.lload XJ169.here hx rfl (hb hby at_179) rfl (XS.lcmp XJ169.here hx rfl (hb hby at_181) rfl k))) ?_
            by_cases hc182 : ve < vc
            · refine own_FinW.go (fun t k => XS.ifYes XJ169.here hx rfl (pc0 := 182) (pc' := 194) rfl (hb hby at_182) rfl (Jvm.Free.XT.ll_gt_t hc182) (by decide) (by decide) k) ?_
              show own_FinW _ _ _ _ _ _ _ (TJ169.setTop (mkF m 194 #[jv va, sS, jv vb, sS, jv vc, sS, jv vd, sS, jv ve, sS, jv vf, sS, jv aA, sS, jv aB, sS, jv aC, sS, rv b1, rv b3, .val (.long (own_sumb ya wa yb wb vd ve)), sS, jv wB, sS] []))
              exact J194 TJ169 _ XJ169 NJ169 eJ169 wB (by simp only [own_w, if_neg hc174, if_pos hc182])
            · refine own_FinW.go (fun t k => XS.ifNo XJ169.here hx rfl (hb hby at_182) rfl (Jvm.Free.XT.ll_gt_f hc182) k) ?_
              show own_FinW _ _ _ _ _ _ _ (TJ169.setTop (mkF m 185 #[jv va, sS, jv vb, sS, jv vc, sS, jv vd, sS, jv ve, sS, jv vf, sS, jv aA, sS, jv aB, sS, jv aC, sS, rv b1, rv b3, .val (.long (own_sumb ya wa yb wb vd ve)), sS, jv wB, sS] []))
              refine own_FinW.go (fun t k => XS.lload XJ169.here hx rfl (hb hby at_185) rfl (XS.lload XJ169.here hx rfl (hb hby at_187) rfl k)) ?_
              obtain ⟨_, _, ⟨T16, L16, k16, n16⟩, -, X16, ⟨Lc16, hQ16, l16, y16, z16⟩, st16⟩ := Jvm.LawKit.callS XJ169 hx (y := own_y10) hown (mvT hZ (own_W hw 111 rfl)) (mvT hZ (own_W hw 112 rfl)) (mvT hZ (own_W hw 2 rfl)) (mvT hZ (own_W hw 113 rfl)) (by decide) (backOf (W := 0) (own_rm_cap l Z a0 hw [] wB aC  T14.heap n0 Z14 ) hZ (own_W hw 113 rfl) (own_W hw 2 rfl) (by decide) (by decide)) (g := (mkF m 189 #[jv va, sS, jv vb, sS, jv vc, sS, jv vd, sS, jv ve, sS, jv vf, sS, jv aA, sS, jv aB, sS, jv aC, sS, rv b1, rv b3, .val (.long (own_sumb ya wa yb wb vd ve)), sS, jv wB, sS] [(.long aC), (.long wB)])) rfl (by rw [hml]; rfl) (argsL := [(.long wB), (.long aC)]) (rest := []) (lenOf own_pd8 rfl) rfl (Nat.le_of_eq rfl) (hb hby at_189) (fun _ _ => ⟨rfl, eJ169, (by decide : 21 + 0 ≤ _), (by decide : 310 + 0 ≤ _)⟩)
              dsimp only [Pt.U, Pt.locs, Pt.cells, Pt.slots] at X16 l16 y16 z16 st16 hQ16
              subst l16 y16 z16
              obtain ⟨rfl, N16q, e16⟩ := hQ16
              refine own_FinW.go (fun t k => st16 t k) ?_
              have N16 := Fr.app NJ169 N16q
              refine own_FinW.go (fun t k => XS.lstore X16.here hx rfl (hb hby at_192) rfl (l' := #[jv va, sS, jv vb, sS, jv vc, sS, jv vd, sS, jv ve, sS, jv vf, sS, jv aA, sS, jv aB, sS, jv aC, sS, rv b1, rv b3, .val (.long (own_sumb ya wa yb wb vd ve)), sS, .val (.long (own_cap wB aC)), sS]) rfl k) ?_
              exact J194 T16 _ X16 N16 e16 (own_cap wB aC) (by simp only [own_w, if_neg hc174, if_neg hc182])
        refine own_FinW.go (fun t k => XS.lload XJ146.here hx rfl (hb hby at_146) rfl (XS.lloadN XJ146.here hx rfl (hb hby at_148) rfl (XS.lcmp XJ146.here hx rfl (hb hby at_149) rfl k))) ?_
        by_cases hc150 : vb < vd
        · refine own_FinW.go (fun t k => XS.ifYes XJ146.here hx rfl (pc0 := 150) (pc' := 169) rfl (hb hby at_150) rfl (Jvm.Free.XT.ll_gt_t hc150) (by decide) (by decide) k) ?_
          show own_FinW _ _ _ _ _ _ _ (TJ146.setTop (mkF m 169 #[jv va, sS, jv vb, sS, jv vc, sS, jv vd, sS, jv ve, sS, jv vf, sS, jv aA, sS, jv aB, sS, jv aC, sS, rv b1, rv b3, .val (.long (own_sumb ya wa yb wb vd ve)), sS, jv wA, sS] []))
          exact J169 TJ146 _ XJ146 NJ146 eJ146 wA (by simp only [own_w, if_pos hc150])
        · refine own_FinW.go (fun t k => XS.ifNo XJ146.here hx rfl (hb hby at_150) rfl (Jvm.Free.XT.ll_gt_f hc150) k) ?_
          show own_FinW _ _ _ _ _ _ _ (TJ146.setTop (mkF m 153 #[jv va, sS, jv vb, sS, jv vc, sS, jv vd, sS, jv ve, sS, jv vf, sS, jv aA, sS, jv aB, sS, jv aC, sS, rv b1, rv b3, .val (.long (own_sumb ya wa yb wb vd ve)), sS, jv wA, sS] []))
          refine own_FinW.go (fun t k => XS.lloadN XJ146.here hx rfl (hb hby at_153) rfl (XS.lload XJ146.here hx rfl (hb hby at_154) rfl (XS.lcmp XJ146.here hx rfl (hb hby at_156) rfl k))) ?_
          by_cases hc157 : ve < vb
          · refine own_FinW.go (fun t k => XS.ifYes XJ146.here hx rfl (pc0 := 157) (pc' := 169) rfl (hb hby at_157) rfl (Jvm.Free.XT.ll_gt_t hc157) (by decide) (by decide) k) ?_
            show own_FinW _ _ _ _ _ _ _ (TJ146.setTop (mkF m 169 #[jv va, sS, jv vb, sS, jv vc, sS, jv vd, sS, jv ve, sS, jv vf, sS, jv aA, sS, jv aB, sS, jv aC, sS, rv b1, rv b3, .val (.long (own_sumb ya wa yb wb vd ve)), sS, jv wA, sS] []))
            exact J169 TJ146 _ XJ146 NJ146 eJ146 wA (by simp only [own_w, if_neg hc150, if_pos hc157])
          · refine own_FinW.go (fun t k => XS.ifNo XJ146.here hx rfl (hb hby at_157) rfl (Jvm.Free.XT.ll_gt_f hc157) k) ?_
            show own_FinW _ _ _ _ _ _ _ (TJ146.setTop (mkF m 160 #[jv va, sS, jv vb, sS, jv vc, sS, jv vd, sS, jv ve, sS, jv vf, sS, jv aA, sS, jv aB, sS, jv aC, sS, rv b1, rv b3, .val (.long (own_sumb ya wa yb wb vd ve)), sS, jv wA, sS] []))
            refine own_FinW.go (fun t k => XS.lload XJ146.here hx rfl (hb hby at_160) rfl (XS.lload XJ146.here hx rfl (hb hby at_162) rfl k)) ?_
            obtain ⟨_, _, ⟨T17, L17, k17, n17⟩, -, X17, ⟨Lc17, hQ17, l17, y17, z17⟩, st17⟩ := Jvm.LawKit.callS XJ146 hx (y := own_y10) hown (mvT hZ (own_W hw 111 rfl)) (mvT hZ (own_W hw 112 rfl)) (mvT hZ (own_W hw 2 rfl)) (mvT hZ (own_W hw 113 rfl)) (by decide) (backOf (W := 0) (own_rm_cap l Z a0 hw [] wA aB  T14.heap n0 Z14 ) hZ (own_W hw 113 rfl) (own_W hw 2 rfl) (by decide) (by decide)) (g := (mkF m 164 #[jv va, sS, jv vb, sS, jv vc, sS, jv vd, sS, jv ve, sS, jv vf, sS, jv aA, sS, jv aB, sS, jv aC, sS, rv b1, rv b3, .val (.long (own_sumb ya wa yb wb vd ve)), sS, jv wA, sS] [(.long aB), (.long wA)])) rfl (by rw [hml]; rfl) (argsL := [(.long wA), (.long aB)]) (rest := []) (lenOf own_pd8 rfl) rfl (Nat.le_of_eq rfl) (hb hby at_164) (fun _ _ => ⟨rfl, eJ146, (by decide : 21 + 0 ≤ _), (by decide : 310 + 0 ≤ _)⟩)
            dsimp only [Pt.U, Pt.locs, Pt.cells, Pt.slots] at X17 l17 y17 z17 st17 hQ17
            subst l17 y17 z17
            obtain ⟨rfl, N17q, e17⟩ := hQ17
            refine own_FinW.go (fun t k => st17 t k) ?_
            have N17 := Fr.app NJ146 N17q
            refine own_FinW.go (fun t k => XS.lstore X17.here hx rfl (hb hby at_167) rfl (l' := #[jv va, sS, jv vb, sS, jv vc, sS, jv vd, sS, jv ve, sS, jv vf, sS, jv aA, sS, jv aB, sS, jv aC, sS, rv b1, rv b3, .val (.long (own_sumb ya wa yb wb vd ve)), sS, .val (.long (own_cap wA aB)), sS]) rfl k) ?_
            exact J169 T17 _ X17 N17 e17 (own_cap wA aB) (by simp only [own_w, if_neg hc150, if_neg hc157])
      refine own_FinW.go (fun t k => XS.lload X15.here hx rfl (hb hby at_123) rfl (XS.lloadN X15.here hx rfl (hb hby at_125) rfl (XS.lcmp X15.here hx rfl (hb hby at_126) rfl k))) ?_
      by_cases hc127 : va < vd
      · refine own_FinW.go (fun t k => XS.ifYes X15.here hx rfl (pc0 := 127) (pc' := 146) rfl (hb hby at_127) rfl (Jvm.Free.XT.ll_gt_t hc127) (by decide) (by decide) k) ?_
        show own_FinW _ _ _ _ _ _ _ (T15.setTop (mkF m 146 #[jv va, sS, jv vb, sS, jv vc, sS, jv vd, sS, jv ve, sS, jv vf, sS, jv aA, sS, jv aB, sS, jv aC, sS, rv b1, rv b3, .val (.long (own_sumb ya wa yb wb vd ve)), sS, jv 0, sS] []))
        exact J146 T15 _ X15 N15 e15 (0 : Int64) (by simp only [own_w, if_pos hc127])
      · refine own_FinW.go (fun t k => XS.ifNo X15.here hx rfl (hb hby at_127) rfl (Jvm.Free.XT.ll_gt_f hc127) k) ?_
        show own_FinW _ _ _ _ _ _ _ (T15.setTop (mkF m 130 #[jv va, sS, jv vb, sS, jv vc, sS, jv vd, sS, jv ve, sS, jv vf, sS, jv aA, sS, jv aB, sS, jv aC, sS, rv b1, rv b3, .val (.long (own_sumb ya wa yb wb vd ve)), sS, jv 0, sS] []))
        refine own_FinW.go (fun t k => XS.lloadN X15.here hx rfl (hb hby at_130) rfl (XS.lload X15.here hx rfl (hb hby at_131) rfl (XS.lcmp X15.here hx rfl (hb hby at_133) rfl k))) ?_
        by_cases hc134 : ve < va
        · refine own_FinW.go (fun t k => XS.ifYes X15.here hx rfl (pc0 := 134) (pc' := 146) rfl (hb hby at_134) rfl (Jvm.Free.XT.ll_gt_t hc134) (by decide) (by decide) k) ?_
          show own_FinW _ _ _ _ _ _ _ (T15.setTop (mkF m 146 #[jv va, sS, jv vb, sS, jv vc, sS, jv vd, sS, jv ve, sS, jv vf, sS, jv aA, sS, jv aB, sS, jv aC, sS, rv b1, rv b3, .val (.long (own_sumb ya wa yb wb vd ve)), sS, jv 0, sS] []))
          exact J146 T15 _ X15 N15 e15 (0 : Int64) (by simp only [own_w, if_neg hc127, if_pos hc134])
        · refine own_FinW.go (fun t k => XS.ifNo X15.here hx rfl (hb hby at_134) rfl (Jvm.Free.XT.ll_gt_f hc134) k) ?_
          show own_FinW _ _ _ _ _ _ _ (T15.setTop (mkF m 137 #[jv va, sS, jv vb, sS, jv vc, sS, jv vd, sS, jv ve, sS, jv vf, sS, jv aA, sS, jv aB, sS, jv aC, sS, rv b1, rv b3, .val (.long (own_sumb ya wa yb wb vd ve)), sS, jv 0, sS] []))
          refine own_FinW.go (fun t k => XS.lload X15.here hx rfl (hb hby at_137) rfl (XS.lload X15.here hx rfl (hb hby at_139) rfl k)) ?_
          obtain ⟨_, _, ⟨T18, L18, k18, n18⟩, -, X18, ⟨Lc18, hQ18, l18, y18, z18⟩, st18⟩ := Jvm.LawKit.callS X15 hx (y := own_y10) hown (mvT hZ (own_W hw 111 rfl)) (mvT hZ (own_W hw 112 rfl)) (mvT hZ (own_W hw 2 rfl)) (mvT hZ (own_W hw 113 rfl)) (by decide) (backOf (W := 0) (own_rm_cap l Z a0 hw [] (0 : Int64) aA  T14.heap n0 Z14 ) hZ (own_W hw 113 rfl) (own_W hw 2 rfl) (by decide) (by decide)) (g := (mkF m 141 #[jv va, sS, jv vb, sS, jv vc, sS, jv vd, sS, jv ve, sS, jv vf, sS, jv aA, sS, jv aB, sS, jv aC, sS, rv b1, rv b3, .val (.long (own_sumb ya wa yb wb vd ve)), sS, jv 0, sS] [(.long aA), (.long 0)])) rfl (by rw [hml]; rfl) (argsL := [(.long 0), (.long aA)]) (rest := []) (lenOf own_pd8 rfl) rfl (Nat.le_of_eq rfl) (hb hby at_141) (fun _ _ => ⟨rfl, e15, (by decide : 21 + 0 ≤ _), (by decide : 310 + 0 ≤ _)⟩)
          dsimp only [Pt.U, Pt.locs, Pt.cells, Pt.slots] at X18 l18 y18 z18 st18 hQ18
          subst l18 y18 z18
          obtain ⟨rfl, N18q, e18⟩ := hQ18
          refine own_FinW.go (fun t k => st18 t k) ?_
          have N18 := Fr.app N15 N18q
          refine own_FinW.go (fun t k => XS.lstore X18.here hx rfl (hb hby at_144) rfl (l' := #[jv va, sS, jv vb, sS, jv vc, sS, jv vd, sS, jv ve, sS, jv vf, sS, jv aA, sS, jv aB, sS, jv aC, sS, rv b1, rv b3, .val (.long (own_sumb ya wa yb wb vd ve)), sS, .val (.long (own_cap (0 : Int64) aA)), sS]) rfl k) ?_
          exact J146 T18 _ X18 N18 e18 (own_cap (0 : Int64) aA) (by simp only [own_w, if_neg hc127, if_neg hc134])
    have tail3 : ∀ (TL : State) (LL : List Loc) (XL : Stand p l e room_1 (s.setVm T4.vm) m #[(.long va), (.long vb), (.long vc), (.long vd), (.long ve), (.long vf)] below meth c TL LL 20 300) (NL : Fr n0 LL) (ZL : n0 ≤ TL.heap.size) (hkL : kk4 ≤ TL.heap.size) (oL : Addr) (kL : ClassId) (ya wa yb wb yc wc ubL : Int64) (EcL : Exa Z TL.heap b3 own_k0) (FcL : Fld Z TL.heap b3 own_k0 "cells" "[J" (.ref oL)) (FsL : Fld Z TL.heap b3 own_k0 "sets" "[Ljava/lang/Object;" .null) (VL : Arv Z TL.heap oL kL .long (10 : Int32) [(.long 3458764517041766401), (.long 0), (.long vd), (.long (own_sat (0 : Int64) (1 : Int64))), (.long ya), (.long wa), (.long yb), (.long wb), (.long yc), (.long wc)] (.long 0)) (EtL : Exa Z TL.heap b1 own_k2) (FbL : Fld Z TL.heap b1 own_k2 "buckets" "J" (.long ubL)) (gL : n0 ≤ oL) (nA : b3 ≠ oL) (nB : b1 ≠ oL) (hsum : own_sumc ya wa yb wb yc wc vd ve = own_w (own_w (own_w (0 : Int64) vd ve va aA) vd ve vb aB) vd ve vc aC), own_FinW p e below s (own_Q_law Z va vb vc vd ve vf oADD oUNIQUE h0 n0) room_1.cells room_1.slots (TL.setTop (mkF m 97 #[jv va, sS, jv vb, sS, jv vc, sS, jv vd, sS, jv ve, sS, jv vf, sS, jv aA, sS, jv aB, sS, jv aC, sS, rv b1, rv b3, uS, uS, uS, uS] [])) := by
      intro TL LL XL NL ZL hkL oL kL ya wa yb wb yc wc ubL EcL FcL FsL VL EtL FbL gL nA nB hsum
      refine own_FinW.go (fun t k => XS.aload XL.here hx rfl (hb hby at_97) rfl rfl (XS.iconst XL.here hx rfl (hb hby at_99) (XS.lload XL.here hx rfl (hb hby at_100) rfl (XS.lconst XL.here hx rfl (hb hby at_102) k)))) ?_
      show own_FinW _ _ _ _ _ _ _ (TL.setTop (mkF m 103 #[jv va, sS, jv vb, sS, jv vc, sS, jv vd, sS, jv ve, sS, jv vf, sS, jv aA, sS, jv aB, sS, jv aC, sS, rv b1, rv b3, uS, uS, uS, uS] [(.long 1), (.long ve), (.int 2), (.ref b3)]))
      refine own_FinW.go (fun t k => XS.aload XL.here hx rfl (hb hby at_103) rfl rfl k) ?_
      obtain ⟨cq19, kq19, q19a, q19b, q19c⟩ := isOf hZ rfl EcL
      obtain ⟨_, _, ⟨T19, L19, k19, n19⟩, -, X19, ⟨Lc19, hQ19, l19, y19, z19⟩, st19⟩ := XL.virtualBack hx (y := own_y17) (z := own_y17) hown (mvT hZ (own_W hw 45 rfl)) (mvT hZ (own_W hw 46 rfl)) (notFace_of_selects (args := #[]) (mvT hZ (own_W hw 48 rfl))) (mvT hZ (own_W hw 48 rfl)) (mvT hZ (own_W hw 47 rfl)) (by decide) (backOf (W := 0) (own_rm_adE3 l Z a0 hw [] b3 ve (1 : Int64) b1 oL kL vd (own_sat (0 : Int64) (1 : Int64)) ya wa yb wb yc wc ubL TL.heap n0 ZL EcL FcL FsL VL EtL FbL g_b3 gL g_b1 (Ne.symm ne_b1_b3) nA nB) hZ (own_W hw 49 rfl) (own_W hw 17 rfl) (by decide) (by decide)) q19a q19c (g := (mkF m 105 #[jv va, sS, jv vb, sS, jv vc, sS, jv vd, sS, jv ve, sS, jv vf, sS, jv aA, sS, jv aB, sS, jv aC, sS, rv b1, rv b3, uS, uS, uS, uS] [(.ref b1), (.long 1), (.long ve), (.int 2), (.ref b3)])) rfl (by rw [hml]; rfl) (Steps.refl _) (argsL := [(.int 2), (.long ve), (.long 1), (.ref b1)]) (rest := []) (lenOf own_pd11 rfl) rfl (Nat.le_of_eq rfl) (hb hby at_105) (fun _ _ => ⟨rfl, rfl, (by decide : 20 + 1 ≤ _), (by decide : 300 + 12 ≤ _)⟩)
      dsimp only [Pt.U, Pt.locs, Pt.cells, Pt.slots] at X19 l19 y19 z19 st19 hQ19
      subst l19 y19 z19
      obtain ⟨ob19, kb19, rfl, N19q, K19q, c19_1, c19_2, c19_3, c19_4, c19_5, c19_6, c19_7, c19_8, c19_9⟩ := hQ19
      refine own_FinW.go (fun t k => st19.trans k) ?_
      have N19 := Fr.app NL N19q
      have Z19 := Nat.le_trans ZL K19q.1
      have hk19 := Nat.le_trans hkL K19q.1
      have ne_b3_ob19 : b3 ≠ ob19 := Nat.ne_of_lt (Nat.lt_of_lt_of_le FsL.lt c19_7)
      have ne_oL_ob19 : oL ≠ ob19 := Nat.ne_of_lt (Nat.lt_of_lt_of_le VL.lt c19_7)
      have ne_b1_ob19 : b1 ≠ ob19 := Nat.ne_of_lt (Nat.lt_of_lt_of_le FbL.lt c19_7)
      have g_ob19 : n0 ≤ ob19 := Nat.le_trans ZL c19_7
      refine own_FinW.go (fun t k => XS.aload X19.here hx rfl (hb hby at_108) rfl rfl (XS.iconst X19.here hx rfl (hb hby at_110) (XS.lload X19.here hx rfl (hb hby at_111) rfl (XS.lload X19.here hx rfl (hb hby at_113) rfl k)))) ?_
      obtain ⟨cq20, kq20, q20a, q20b, q20c⟩ := isOf hZ rfl c19_1
      obtain ⟨_, _, ⟨T20, L20, k20, n20⟩, -, X20, ⟨Lc20, hQ20, l20, y20, z20⟩, st20⟩ := X19.virtualBack hx (y := own_y18) (z := own_y18) hown (mvT hZ (own_W hw 106 rfl)) (mvT hZ (own_W hw 107 rfl)) (notFace_of_selects (args := #[]) (mvT hZ (own_W hw 109 rfl))) (mvT hZ (own_W hw 109 rfl)) (mvT hZ (own_W hw 108 rfl)) (by decide) (backOf (W := 0) (own_rm_su3 l Z a0 hw [] b3 vd ve ob19 kb19 vd (own_sat (0 : Int64) (1 : Int64)) ya wa yb wb yc wc ve (own_sat (0 : Int64) (1 : Int64)) T19.heap n0 Z19 c19_1 c19_2 c19_4) hZ (own_W hw 110 rfl) (own_W hw 17 rfl) (by decide) (by decide)) q20a q20c (g := (mkF m 115 #[jv va, sS, jv vb, sS, jv vc, sS, jv vd, sS, jv ve, sS, jv vf, sS, jv aA, sS, jv aB, sS, jv aC, sS, rv b1, rv b3, uS, uS, uS, uS] [(.long ve), (.long vd), (.int 1), (.ref b3)])) rfl (by rw [hml]; rfl) (Steps.refl _) (argsL := [(.int 1), (.long vd), (.long ve)]) (rest := []) (lenOf own_pd12 rfl) rfl (Nat.le_of_eq rfl) (hb hby at_115) (fun _ _ => ⟨rfl, rfl, (by decide : 21 + 0 ≤ _), (by decide : 312 + 0 ≤ _)⟩)
      dsimp only [Pt.U, Pt.locs, Pt.cells, Pt.slots] at X20 l20 y20 z20 st20 hQ20
      subst l20 y20 z20
      obtain ⟨rfl, N20q, e20⟩ := hQ20
      refine own_FinW.go (fun t k => st20.trans k) ?_
      have N20 := Fr.app N19 N20q
      show own_FinW _ _ _ _ _ _ _ (T20.setTop (mkF m 118 #[jv va, sS, jv vb, sS, jv vc, sS, jv vd, sS, jv ve, sS, jv vf, sS, jv aA, sS, jv aB, sS, jv aC, sS, rv b1, rv b3, uS, uS, uS, uS] [(.long (own_sumc ya wa yb wb yc wc vd ve))]))
      refine own_FinW.go (fun t k => XS.lstore X20.here hx rfl (hb hby at_118) rfl (l' := #[jv va, sS, jv vb, sS, jv vc, sS, jv vd, sS, jv ve, sS, jv vf, sS, jv aA, sS, jv aB, sS, jv aC, sS, rv b1, rv b3, .val (.long (own_sumc ya wa yb wb yc wc vd ve)), sS, uS, uS]) rfl (XS.lconst X20.here hx rfl (hb hby at_120) (XS.lstore X20.here hx rfl (hb hby at_121) rfl (l' := #[jv va, sS, jv vb, sS, jv vc, sS, jv vd, sS, jv ve, sS, jv vf, sS, jv aA, sS, jv aB, sS, jv aC, sS, rv b1, rv b3, .val (.long (own_sumc ya wa yb wb yc wc vd ve)), sS, jv 0, sS]) rfl k))) ?_
      have J146 : ∀ (TJ146 : State) (LJ146 : List Loc) (XJ146 : Stand p l e room_1 (s.setVm T4.vm) m #[(.long va), (.long vb), (.long vc), (.long vd), (.long ve), (.long vf)] below meth c TJ146 LJ146 21 312) (NJ146 : Fr n0 LJ146) (eJ146 : TJ146.heap = T19.heap) (wA : Int64) (hJ146 : wA = own_w (0 : Int64) vd ve va aA), own_FinW p e below s (own_Q_law Z va vb vc vd ve vf oADD oUNIQUE h0 n0) room_1.cells room_1.slots (TJ146.setTop (mkF m 146 #[jv va, sS, jv vb, sS, jv vc, sS, jv vd, sS, jv ve, sS, jv vf, sS, jv aA, sS, jv aB, sS, jv aC, sS, rv b1, rv b3, .val (.long (own_sumc ya wa yb wb yc wc vd ve)), sS, jv wA, sS] [])) := by
        intro TJ146 LJ146 XJ146 NJ146 eJ146 wA hJ146
        have J169 : ∀ (TJ169 : State) (LJ169 : List Loc) (XJ169 : Stand p l e room_1 (s.setVm T4.vm) m #[(.long va), (.long vb), (.long vc), (.long vd), (.long ve), (.long vf)] below meth c TJ169 LJ169 21 312) (NJ169 : Fr n0 LJ169) (eJ169 : TJ169.heap = T19.heap) (wB : Int64) (hJ169 : wB = own_w wA vd ve vb aB), own_FinW p e below s (own_Q_law Z va vb vc vd ve vf oADD oUNIQUE h0 n0) room_1.cells room_1.slots (TJ169.setTop (mkF m 169 #[jv va, sS, jv vb, sS, jv vc, sS, jv vd, sS, jv ve, sS, jv vf, sS, jv aA, sS, jv aB, sS, jv aC, sS, rv b1, rv b3, .val (.long (own_sumc ya wa yb wb yc wc vd ve)), sS, jv wB, sS] [])) := by
          intro TJ169 LJ169 XJ169 NJ169 eJ169 wB hJ169
          have J194 : ∀ (TJ194 : State) (LJ194 : List Loc) (XJ194 : Stand p l e room_1 (s.setVm T4.vm) m #[(.long va), (.long vb), (.long vc), (.long vd), (.long ve), (.long vf)] below meth c TJ194 LJ194 21 312) (NJ194 : Fr n0 LJ194) (eJ194 : TJ194.heap = T19.heap) (wC : Int64) (hJ194 : wC = own_w wB vd ve vc aC), own_FinW p e below s (own_Q_law Z va vb vc vd ve vf oADD oUNIQUE h0 n0) room_1.cells room_1.slots (TJ194.setTop (mkF m 194 #[jv va, sS, jv vb, sS, jv vc, sS, jv vd, sS, jv ve, sS, jv vf, sS, jv aA, sS, jv aB, sS, jv aC, sS, rv b1, rv b3, .val (.long (own_sumc ya wa yb wb yc wc vd ve)), sS, jv wC, sS] [])) := by
            intro TJ194 LJ194 XJ194 NJ194 eJ194 wC hJ194
            refine own_FinW.go (fun t k => XS.lload XJ194.here hx rfl (hb hby at_194) rfl (XS.lload XJ194.here hx rfl (hb hby at_196) rfl k)) ?_
            show own_FinW _ _ _ _ _ _ _ (TJ194.setTop (mkF m 198 #[jv va, sS, jv vb, sS, jv vc, sS, jv vd, sS, jv ve, sS, jv vf, sS, jv aA, sS, jv aB, sS, jv aC, sS, rv b1, rv b3, .val (.long (own_sumc ya wa yb wb yc wc vd ve)), sS, jv wC, sS] [(.long wC), (.long (own_sumc ya wa yb wb yc wc vd ve))]))
            refine own_FinW.go (fun t k => XS.lcmp XJ194.here hx rfl (hb hby at_198) rfl k) ?_
            have hc199 : (own_sumc ya wa yb wb yc wc vd ve) = wC := by rw [hJ194, hJ169, hJ146]; exact hsum
            refine own_FinW.go (fun t k => XS.ifNo XJ194.here hx rfl (hb hby at_199) rfl (Jvm.Free.XT.ll_ne_f hc199) (XS.iconst XJ194.here hx rfl (hb hby at_202) (XS.goto XJ194.here hx rfl (pc0 := 203) (pc' := 207) rfl (hb hby at_203) (by decide) (by decide) k))) ?_
            refine own_retNW XJ194 hx hS (by rw [eJ194]; exact hk19) (t := .boolean) (w := (1 : Int32)) Bd.returns (by simp) (hb hby at_207) Bd.notSynchronized rfl (by decide) (by decide) ?_
            rw [eJ194]
            exact ⟨rfl, NJ194⟩
          refine own_FinW.go (fun t k => XS.lload XJ169.here hx rfl (hb hby at_169) rfl (XS.lload XJ169.here hx rfl (hb hby at_171) rfl k)) ?_
          show own_FinW _ _ _ _ _ _ _ (TJ169.setTop (mkF m 173 #[jv va, sS, jv vb, sS, jv vc, sS, jv vd, sS, jv ve, sS, jv vf, sS, jv aA, sS, jv aB, sS, jv aC, sS, rv b1, rv b3, .val (.long (own_sumc ya wa yb wb yc wc vd ve)), sS, jv wB, sS] [(.long vc), (.long vd)]))
          refine own_FinW.go (fun t k => XS.lcmp XJ169.here hx rfl (hb hby at_173) rfl k) ?_
          by_cases hc174 : vc < vd
          · refine own_FinW.go (fun t k => XS.ifYes XJ169.here hx rfl (pc0 := 174) (pc' := 194) rfl (hb hby at_174) rfl (Jvm.Free.XT.ll_gt_t hc174) (by decide) (by decide) k) ?_
            show own_FinW _ _ _ _ _ _ _ (TJ169.setTop (mkF m 194 #[jv va, sS, jv vb, sS, jv vc, sS, jv vd, sS, jv ve, sS, jv vf, sS, jv aA, sS, jv aB, sS, jv aC, sS, rv b1, rv b3, .val (.long (own_sumc ya wa yb wb yc wc vd ve)), sS, jv wB, sS] []))
            exact J194 TJ169 _ XJ169 NJ169 eJ169 wB (by simp only [own_w, if_pos hc174])
          · refine own_FinW.go (fun t k => XS.ifNo XJ169.here hx rfl (hb hby at_174) rfl (Jvm.Free.XT.ll_gt_f hc174) k) ?_
            show own_FinW _ _ _ _ _ _ _ (TJ169.setTop (mkF m 177 #[jv va, sS, jv vb, sS, jv vc, sS, jv vd, sS, jv ve, sS, jv vf, sS, jv aA, sS, jv aB, sS, jv aC, sS, rv b1, rv b3, .val (.long (own_sumc ya wa yb wb yc wc vd ve)), sS, jv wB, sS] []))
            refine own_FinW.go (fun t k => XS.lload XJ169.here hx rfl (hb hby at_177) rfl (XS.lload XJ169.here hx rfl (hb hby at_179) rfl (XS.lcmp XJ169.here hx rfl (hb hby at_181) rfl k))) ?_
            by_cases hc182 : ve < vc
            · refine own_FinW.go (fun t k => XS.ifYes XJ169.here hx rfl (pc0 := 182) (pc' := 194) rfl (hb hby at_182) rfl (Jvm.Free.XT.ll_gt_t hc182) (by decide) (by decide) k) ?_
              show own_FinW _ _ _ _ _ _ _ (TJ169.setTop (mkF m 194 #[jv va, sS, jv vb, sS, jv vc, sS, jv vd, sS, jv ve, sS, jv vf, sS, jv aA, sS, jv aB, sS, jv aC, sS, rv b1, rv b3, .val (.long (own_sumc ya wa yb wb yc wc vd ve)), sS, jv wB, sS] []))
              exact J194 TJ169 _ XJ169 NJ169 eJ169 wB (by simp only [own_w, if_neg hc174, if_pos hc182])
            · refine own_FinW.go (fun t k => XS.ifNo XJ169.here hx rfl (hb hby at_182) rfl (Jvm.Free.XT.ll_gt_f hc182) k) ?_
              show own_FinW _ _ _ _ _ _ _ (TJ169.setTop (mkF m 185 #[jv va, sS, jv vb, sS, jv vc, sS, jv vd, sS, jv ve, sS, jv vf, sS, jv aA, sS, jv aB, sS, jv aC, sS, rv b1, rv b3, .val (.long (own_sumc ya wa yb wb yc wc vd ve)), sS, jv wB, sS] []))
              refine own_FinW.go (fun t k => XS.lload XJ169.here hx rfl (hb hby at_185) rfl (XS.lload XJ169.here hx rfl (hb hby at_187) rfl k)) ?_
              obtain ⟨_, _, ⟨T21, L21, k21, n21⟩, -, X21, ⟨Lc21, hQ21, l21, y21, z21⟩, st21⟩ := Jvm.LawKit.callS XJ169 hx (y := own_y10) hown (mvT hZ (own_W hw 111 rfl)) (mvT hZ (own_W hw 112 rfl)) (mvT hZ (own_W hw 2 rfl)) (mvT hZ (own_W hw 113 rfl)) (by decide) (backOf (W := 0) (own_rm_cap l Z a0 hw [] wB aC  T19.heap n0 Z19 ) hZ (own_W hw 113 rfl) (own_W hw 2 rfl) (by decide) (by decide)) (g := (mkF m 189 #[jv va, sS, jv vb, sS, jv vc, sS, jv vd, sS, jv ve, sS, jv vf, sS, jv aA, sS, jv aB, sS, jv aC, sS, rv b1, rv b3, .val (.long (own_sumc ya wa yb wb yc wc vd ve)), sS, jv wB, sS] [(.long aC), (.long wB)])) rfl (by rw [hml]; rfl) (argsL := [(.long wB), (.long aC)]) (rest := []) (lenOf own_pd8 rfl) rfl (Nat.le_of_eq rfl) (hb hby at_189) (fun _ _ => ⟨rfl, eJ169, (by decide : 21 + 0 ≤ _), (by decide : 312 + 0 ≤ _)⟩)
              dsimp only [Pt.U, Pt.locs, Pt.cells, Pt.slots] at X21 l21 y21 z21 st21 hQ21
              subst l21 y21 z21
              obtain ⟨rfl, N21q, e21⟩ := hQ21
              refine own_FinW.go (fun t k => st21 t k) ?_
              have N21 := Fr.app NJ169 N21q
              refine own_FinW.go (fun t k => XS.lstore X21.here hx rfl (hb hby at_192) rfl (l' := #[jv va, sS, jv vb, sS, jv vc, sS, jv vd, sS, jv ve, sS, jv vf, sS, jv aA, sS, jv aB, sS, jv aC, sS, rv b1, rv b3, .val (.long (own_sumc ya wa yb wb yc wc vd ve)), sS, .val (.long (own_cap wB aC)), sS]) rfl k) ?_
              exact J194 T21 _ X21 N21 e21 (own_cap wB aC) (by simp only [own_w, if_neg hc174, if_neg hc182])
        refine own_FinW.go (fun t k => XS.lload XJ146.here hx rfl (hb hby at_146) rfl (XS.lloadN XJ146.here hx rfl (hb hby at_148) rfl (XS.lcmp XJ146.here hx rfl (hb hby at_149) rfl k))) ?_
        by_cases hc150 : vb < vd
        · refine own_FinW.go (fun t k => XS.ifYes XJ146.here hx rfl (pc0 := 150) (pc' := 169) rfl (hb hby at_150) rfl (Jvm.Free.XT.ll_gt_t hc150) (by decide) (by decide) k) ?_
          show own_FinW _ _ _ _ _ _ _ (TJ146.setTop (mkF m 169 #[jv va, sS, jv vb, sS, jv vc, sS, jv vd, sS, jv ve, sS, jv vf, sS, jv aA, sS, jv aB, sS, jv aC, sS, rv b1, rv b3, .val (.long (own_sumc ya wa yb wb yc wc vd ve)), sS, jv wA, sS] []))
          exact J169 TJ146 _ XJ146 NJ146 eJ146 wA (by simp only [own_w, if_pos hc150])
        · refine own_FinW.go (fun t k => XS.ifNo XJ146.here hx rfl (hb hby at_150) rfl (Jvm.Free.XT.ll_gt_f hc150) k) ?_
          show own_FinW _ _ _ _ _ _ _ (TJ146.setTop (mkF m 153 #[jv va, sS, jv vb, sS, jv vc, sS, jv vd, sS, jv ve, sS, jv vf, sS, jv aA, sS, jv aB, sS, jv aC, sS, rv b1, rv b3, .val (.long (own_sumc ya wa yb wb yc wc vd ve)), sS, jv wA, sS] []))
          refine own_FinW.go (fun t k => XS.lloadN XJ146.here hx rfl (hb hby at_153) rfl (XS.lload XJ146.here hx rfl (hb hby at_154) rfl (XS.lcmp XJ146.here hx rfl (hb hby at_156) rfl k))) ?_
          by_cases hc157 : ve < vb
          · refine own_FinW.go (fun t k => XS.ifYes XJ146.here hx rfl (pc0 := 157) (pc' := 169) rfl (hb hby at_157) rfl (Jvm.Free.XT.ll_gt_t hc157) (by decide) (by decide) k) ?_
            show own_FinW _ _ _ _ _ _ _ (TJ146.setTop (mkF m 169 #[jv va, sS, jv vb, sS, jv vc, sS, jv vd, sS, jv ve, sS, jv vf, sS, jv aA, sS, jv aB, sS, jv aC, sS, rv b1, rv b3, .val (.long (own_sumc ya wa yb wb yc wc vd ve)), sS, jv wA, sS] []))
            exact J169 TJ146 _ XJ146 NJ146 eJ146 wA (by simp only [own_w, if_neg hc150, if_pos hc157])
          · refine own_FinW.go (fun t k => XS.ifNo XJ146.here hx rfl (hb hby at_157) rfl (Jvm.Free.XT.ll_gt_f hc157) k) ?_
            show own_FinW _ _ _ _ _ _ _ (TJ146.setTop (mkF m 160 #[jv va, sS, jv vb, sS, jv vc, sS, jv vd, sS, jv ve, sS, jv vf, sS, jv aA, sS, jv aB, sS, jv aC, sS, rv b1, rv b3, .val (.long (own_sumc ya wa yb wb yc wc vd ve)), sS, jv wA, sS] []))
            refine own_FinW.go (fun t k => XS.lload XJ146.here hx rfl (hb hby at_160) rfl (XS.lload XJ146.here hx rfl (hb hby at_162) rfl k)) ?_
            obtain ⟨_, _, ⟨T22, L22, k22, n22⟩, -, X22, ⟨Lc22, hQ22, l22, y22, z22⟩, st22⟩ := Jvm.LawKit.callS XJ146 hx (y := own_y10) hown (mvT hZ (own_W hw 111 rfl)) (mvT hZ (own_W hw 112 rfl)) (mvT hZ (own_W hw 2 rfl)) (mvT hZ (own_W hw 113 rfl)) (by decide) (backOf (W := 0) (own_rm_cap l Z a0 hw [] wA aB  T19.heap n0 Z19 ) hZ (own_W hw 113 rfl) (own_W hw 2 rfl) (by decide) (by decide)) (g := (mkF m 164 #[jv va, sS, jv vb, sS, jv vc, sS, jv vd, sS, jv ve, sS, jv vf, sS, jv aA, sS, jv aB, sS, jv aC, sS, rv b1, rv b3, .val (.long (own_sumc ya wa yb wb yc wc vd ve)), sS, jv wA, sS] [(.long aB), (.long wA)])) rfl (by rw [hml]; rfl) (argsL := [(.long wA), (.long aB)]) (rest := []) (lenOf own_pd8 rfl) rfl (Nat.le_of_eq rfl) (hb hby at_164) (fun _ _ => ⟨rfl, eJ146, (by decide : 21 + 0 ≤ _), (by decide : 312 + 0 ≤ _)⟩)
            dsimp only [Pt.U, Pt.locs, Pt.cells, Pt.slots] at X22 l22 y22 z22 st22 hQ22
            subst l22 y22 z22
            obtain ⟨rfl, N22q, e22⟩ := hQ22
            refine own_FinW.go (fun t k => st22 t k) ?_
            have N22 := Fr.app NJ146 N22q
            refine own_FinW.go (fun t k => XS.lstore X22.here hx rfl (hb hby at_167) rfl (l' := #[jv va, sS, jv vb, sS, jv vc, sS, jv vd, sS, jv ve, sS, jv vf, sS, jv aA, sS, jv aB, sS, jv aC, sS, rv b1, rv b3, .val (.long (own_sumc ya wa yb wb yc wc vd ve)), sS, .val (.long (own_cap wA aB)), sS]) rfl k) ?_
            exact J169 T22 _ X22 N22 e22 (own_cap wA aB) (by simp only [own_w, if_neg hc150, if_neg hc157])
      refine own_FinW.go (fun t k => XS.lload X20.here hx rfl (hb hby at_123) rfl (XS.lloadN X20.here hx rfl (hb hby at_125) rfl (XS.lcmp X20.here hx rfl (hb hby at_126) rfl k))) ?_
      by_cases hc127 : va < vd
      · refine own_FinW.go (fun t k => XS.ifYes X20.here hx rfl (pc0 := 127) (pc' := 146) rfl (hb hby at_127) rfl (Jvm.Free.XT.ll_gt_t hc127) (by decide) (by decide) k) ?_
        show own_FinW _ _ _ _ _ _ _ (T20.setTop (mkF m 146 #[jv va, sS, jv vb, sS, jv vc, sS, jv vd, sS, jv ve, sS, jv vf, sS, jv aA, sS, jv aB, sS, jv aC, sS, rv b1, rv b3, .val (.long (own_sumc ya wa yb wb yc wc vd ve)), sS, jv 0, sS] []))
        exact J146 T20 _ X20 N20 e20 (0 : Int64) (by simp only [own_w, if_pos hc127])
      · refine own_FinW.go (fun t k => XS.ifNo X20.here hx rfl (hb hby at_127) rfl (Jvm.Free.XT.ll_gt_f hc127) k) ?_
        show own_FinW _ _ _ _ _ _ _ (T20.setTop (mkF m 130 #[jv va, sS, jv vb, sS, jv vc, sS, jv vd, sS, jv ve, sS, jv vf, sS, jv aA, sS, jv aB, sS, jv aC, sS, rv b1, rv b3, .val (.long (own_sumc ya wa yb wb yc wc vd ve)), sS, jv 0, sS] []))
        refine own_FinW.go (fun t k => XS.lloadN X20.here hx rfl (hb hby at_130) rfl (XS.lload X20.here hx rfl (hb hby at_131) rfl (XS.lcmp X20.here hx rfl (hb hby at_133) rfl k))) ?_
        by_cases hc134 : ve < va
        · refine own_FinW.go (fun t k => XS.ifYes X20.here hx rfl (pc0 := 134) (pc' := 146) rfl (hb hby at_134) rfl (Jvm.Free.XT.ll_gt_t hc134) (by decide) (by decide) k) ?_
          show own_FinW _ _ _ _ _ _ _ (T20.setTop (mkF m 146 #[jv va, sS, jv vb, sS, jv vc, sS, jv vd, sS, jv ve, sS, jv vf, sS, jv aA, sS, jv aB, sS, jv aC, sS, rv b1, rv b3, .val (.long (own_sumc ya wa yb wb yc wc vd ve)), sS, jv 0, sS] []))
          exact J146 T20 _ X20 N20 e20 (0 : Int64) (by simp only [own_w, if_neg hc127, if_pos hc134])
        · refine own_FinW.go (fun t k => XS.ifNo X20.here hx rfl (hb hby at_134) rfl (Jvm.Free.XT.ll_gt_f hc134) k) ?_
          show own_FinW _ _ _ _ _ _ _ (T20.setTop (mkF m 137 #[jv va, sS, jv vb, sS, jv vc, sS, jv vd, sS, jv ve, sS, jv vf, sS, jv aA, sS, jv aB, sS, jv aC, sS, rv b1, rv b3, .val (.long (own_sumc ya wa yb wb yc wc vd ve)), sS, jv 0, sS] []))
          refine own_FinW.go (fun t k => XS.lload X20.here hx rfl (hb hby at_137) rfl (XS.lload X20.here hx rfl (hb hby at_139) rfl k)) ?_
          obtain ⟨_, _, ⟨T23, L23, k23, n23⟩, -, X23, ⟨Lc23, hQ23, l23, y23, z23⟩, st23⟩ := Jvm.LawKit.callS X20 hx (y := own_y10) hown (mvT hZ (own_W hw 111 rfl)) (mvT hZ (own_W hw 112 rfl)) (mvT hZ (own_W hw 2 rfl)) (mvT hZ (own_W hw 113 rfl)) (by decide) (backOf (W := 0) (own_rm_cap l Z a0 hw [] (0 : Int64) aA  T19.heap n0 Z19 ) hZ (own_W hw 113 rfl) (own_W hw 2 rfl) (by decide) (by decide)) (g := (mkF m 141 #[jv va, sS, jv vb, sS, jv vc, sS, jv vd, sS, jv ve, sS, jv vf, sS, jv aA, sS, jv aB, sS, jv aC, sS, rv b1, rv b3, .val (.long (own_sumc ya wa yb wb yc wc vd ve)), sS, jv 0, sS] [(.long aA), (.long 0)])) rfl (by rw [hml]; rfl) (argsL := [(.long 0), (.long aA)]) (rest := []) (lenOf own_pd8 rfl) rfl (Nat.le_of_eq rfl) (hb hby at_141) (fun _ _ => ⟨rfl, e20, (by decide : 21 + 0 ≤ _), (by decide : 312 + 0 ≤ _)⟩)
          dsimp only [Pt.U, Pt.locs, Pt.cells, Pt.slots] at X23 l23 y23 z23 st23 hQ23
          subst l23 y23 z23
          obtain ⟨rfl, N23q, e23⟩ := hQ23
          refine own_FinW.go (fun t k => st23 t k) ?_
          have N23 := Fr.app N20 N23q
          refine own_FinW.go (fun t k => XS.lstore X23.here hx rfl (hb hby at_144) rfl (l' := #[jv va, sS, jv vb, sS, jv vc, sS, jv vd, sS, jv ve, sS, jv vf, sS, jv aA, sS, jv aB, sS, jv aC, sS, rv b1, rv b3, .val (.long (own_sumc ya wa yb wb yc wc vd ve)), sS, .val (.long (own_cap (0 : Int64) aA)), sS]) rfl k) ?_
          exact J146 T23 _ X23 N23 e23 (own_cap (0 : Int64) aA) (by simp only [own_w, if_neg hc127, if_neg hc134])
    by_cases hA : va = vb
    · show own_FinW _ _ _ _ _ _ _ (T8.setTop (mkF m 74 #[jv va, sS, jv vb, sS, jv vc, sS, jv vd, sS, jv ve, sS, jv vf, sS, jv aA, sS, jv aB, sS, jv aC, sS, rv b1, rv b3, uS, uS, uS, uS] []))
      refine own_FinW.go (fun t k => XS.aload X8.here hx rfl (hb hby at_74) rfl rfl (XS.iconst X8.here hx rfl (hb hby at_76) (XS.lloadN X8.here hx rfl (hb hby at_77) rfl (XS.lload X8.here hx rfl (hb hby at_78) rfl k)))) ?_
      refine own_FinW.go (fun t k => XS.aload X8.here hx rfl (hb hby at_80) rfl rfl k) ?_
      obtain ⟨cq24, kq24, q24a, q24b, q24c⟩ := isOf hZ rfl c8_1
      obtain ⟨_, _, ⟨T24, L24, k24, n24⟩, -, X24, ⟨Lc24, hQ24, l24, y24, z24⟩, st24⟩ := X8.virtualBack hx (y := own_y17) (z := own_y17) hown (mvT hZ (own_W hw 45 rfl)) (mvT hZ (own_W hw 46 rfl)) (notFace_of_selects (args := #[]) (mvT hZ (own_W hw 48 rfl))) (mvT hZ (own_W hw 48 rfl)) (mvT hZ (own_W hw 47 rfl)) (by decide) (backOf (W := 0) (own_rm_adC0e l Z a0 hw [] b3 vb aB b1 ob8 kb8 vd (own_sat (0 : Int64) (1 : Int64)) va (own_sat (0 : Int64) aA) (((0 : Int64) + (1 : Int64)) + (1 : Int64)) T8.heap n0 Z8 c8_1 c8_2 c8_3 c8_4 c8_5 c8_6 g_b3 g_ob8 g_b1 (Ne.symm ne_b1_b3) c8_8 c8_9 (by have z0 := congrArg Int64.toInt hA; rw [Int64.lt_iff_toInt_lt]; omega) (by have z0 := congrArg Int64.toInt hA; apply Int64.toInt_inj.mp; omega)) hZ (own_W hw 49 rfl) (own_W hw 17 rfl) (by decide) (by decide)) q24a q24c (g := (mkF m 82 #[jv va, sS, jv vb, sS, jv vc, sS, jv vd, sS, jv ve, sS, jv vf, sS, jv aA, sS, jv aB, sS, jv aC, sS, rv b1, rv b3, uS, uS, uS, uS] [(.ref b1), (.long aB), (.long vb), (.int 1), (.ref b3)])) rfl (by rw [hml]; rfl) (Steps.refl _) (argsL := [(.int 1), (.long vb), (.long aB), (.ref b1)]) (rest := []) (lenOf own_pd11 rfl) rfl (Nat.le_of_eq rfl) (hb hby at_82) (fun _ _ => ⟨rfl, rfl, (by decide : 7 + 0 ≤ _), (by decide : 25 + 0 ≤ _)⟩)
      dsimp only [Pt.U, Pt.locs, Pt.cells, Pt.slots] at X24 l24 y24 z24 st24 hQ24
      subst l24 y24 z24
      obtain ⟨rfl, N24q, K24q, c24_1, c24_2, c24_3, c24_4, c24_5, c24_6⟩ := hQ24
      refine own_FinW.go (fun t k => st24.trans k) ?_
      have N24 := Fr.app N8 N24q
      have Z24 := Nat.le_trans Z8 K24q.1
      have hk24 := Nat.le_trans hk8 K24q.1
      show own_FinW _ _ _ _ _ _ _ (T24.setTop (mkF m 85 #[jv va, sS, jv vb, sS, jv vc, sS, jv vd, sS, jv ve, sS, jv vf, sS, jv aA, sS, jv aB, sS, jv aC, sS, rv b1, rv b3, uS, uS, uS, uS] []))
      by_cases hC : va = vc
      · show own_FinW _ _ _ _ _ _ _ (T24.setTop (mkF m 85 #[jv va, sS, jv vb, sS, jv vc, sS, jv vd, sS, jv ve, sS, jv vf, sS, jv aA, sS, jv aB, sS, jv aC, sS, rv b1, rv b3, uS, uS, uS, uS] []))
        refine own_FinW.go (fun t k => XS.aload X24.here hx rfl (hb hby at_85) rfl rfl (XS.iconst X24.here hx rfl (hb hby at_87) (XS.lload X24.here hx rfl (hb hby at_88) rfl (XS.lload X24.here hx rfl (hb hby at_90) rfl k)))) ?_
        refine own_FinW.go (fun t k => XS.aload X24.here hx rfl (hb hby at_92) rfl rfl k) ?_
        show own_FinW _ _ _ _ _ _ _ (T24.setTop (mkF m 94 #[jv va, sS, jv vb, sS, jv vc, sS, jv vd, sS, jv ve, sS, jv vf, sS, jv aA, sS, jv aB, sS, jv aC, sS, rv b1, rv b3, uS, uS, uS, uS] [(.ref b1), (.long aC), (.long vc), (.int 1), (.ref b3)]))
        obtain ⟨cq25, kq25, q25a, q25b, q25c⟩ := isOf hZ rfl c24_1
        obtain ⟨_, _, ⟨T25, L25, k25, n25⟩, -, X25, ⟨Lc25, hQ25, l25, y25, z25⟩, st25⟩ := X24.virtualBack hx (y := own_y17) (z := own_y17) hown (mvT hZ (own_W hw 45 rfl)) (mvT hZ (own_W hw 46 rfl)) (notFace_of_selects (args := #[]) (mvT hZ (own_W hw 48 rfl))) (mvT hZ (own_W hw 48 rfl)) (mvT hZ (own_W hw 47 rfl)) (by decide) (backOf (W := 0) (own_rm_adC0e l Z a0 hw [] b3 vc aC b1 ob8 kb8 vd (own_sat (0 : Int64) (1 : Int64)) va (own_sat (own_sat (0 : Int64) aA) aB) (((0 : Int64) + (1 : Int64)) + (1 : Int64)) T24.heap n0 Z24 c24_1 c24_2 c24_3 c24_4 c24_5 c24_6 g_b3 g_ob8 g_b1 (Ne.symm ne_b1_b3) c8_8 c8_9 (by have z0 := congrArg Int64.toInt hA; have z1 := congrArg Int64.toInt hC; rw [Int64.lt_iff_toInt_lt]; omega) (by have z0 := congrArg Int64.toInt hA; have z1 := congrArg Int64.toInt hC; apply Int64.toInt_inj.mp; omega)) hZ (own_W hw 49 rfl) (own_W hw 17 rfl) (by decide) (by decide)) q25a q25c (g := (mkF m 94 #[jv va, sS, jv vb, sS, jv vc, sS, jv vd, sS, jv ve, sS, jv vf, sS, jv aA, sS, jv aB, sS, jv aC, sS, rv b1, rv b3, uS, uS, uS, uS] [(.ref b1), (.long aC), (.long vc), (.int 1), (.ref b3)])) rfl (by rw [hml]; rfl) (Steps.refl _) (argsL := [(.int 1), (.long vc), (.long aC), (.ref b1)]) (rest := []) (lenOf own_pd11 rfl) rfl (Nat.le_of_eq rfl) (hb hby at_94) (fun _ _ => ⟨rfl, rfl, (by decide : 7 + 0 ≤ _), (by decide : 25 + 0 ≤ _)⟩)
        dsimp only [Pt.U, Pt.locs, Pt.cells, Pt.slots] at X25 l25 y25 z25 st25 hQ25
        subst l25 y25 z25
        obtain ⟨rfl, N25q, K25q, c25_1, c25_2, c25_3, c25_4, c25_5, c25_6⟩ := hQ25
        refine own_FinW.go (fun t k => st25.trans k) ?_
        have N25 := Fr.app N24 N25q
        have Z25 := Nat.le_trans Z24 K25q.1
        have hk25 := Nat.le_trans hk24 K25q.1
        exact tail1 T25 _ (X25.mono (by decide) (by decide)) N25 Z25 hk25 ob8 kb8 va (own_sat (own_sat (own_sat (0 : Int64) aA) aB) aC) (((0 : Int64) + (1 : Int64)) + (1 : Int64)) c25_1 c25_2 c25_3 c25_4 c25_5 c25_6 g_ob8 c8_8 c8_9 (own_o_012 hJ28.1 hJ28.2.1 hJ28.2.2 (by have z0 := congrArg Int64.toInt hA; have z1 := congrArg Int64.toInt hC; apply Int64.toInt_inj.mp; omega) (by have z0 := congrArg Int64.toInt hA; have z1 := congrArg Int64.toInt hC; apply Int64.toInt_inj.mp; omega))
      · by_cases hD : vc < va
        · show own_FinW _ _ _ _ _ _ _ (T24.setTop (mkF m 85 #[jv va, sS, jv vb, sS, jv vc, sS, jv vd, sS, jv ve, sS, jv vf, sS, jv aA, sS, jv aB, sS, jv aC, sS, rv b1, rv b3, uS, uS, uS, uS] []))
          refine own_FinW.go (fun t k => XS.aload X24.here hx rfl (hb hby at_85) rfl rfl (XS.iconst X24.here hx rfl (hb hby at_87) (XS.lload X24.here hx rfl (hb hby at_88) rfl (XS.lload X24.here hx rfl (hb hby at_90) rfl k)))) ?_
          refine own_FinW.go (fun t k => XS.aload X24.here hx rfl (hb hby at_92) rfl rfl k) ?_
          show own_FinW _ _ _ _ _ _ _ (T24.setTop (mkF m 94 #[jv va, sS, jv vb, sS, jv vc, sS, jv vd, sS, jv ve, sS, jv vf, sS, jv aA, sS, jv aB, sS, jv aC, sS, rv b1, rv b3, uS, uS, uS, uS] [(.ref b1), (.long aC), (.long vc), (.int 1), (.ref b3)]))
          obtain ⟨cq26, kq26, q26a, q26b, q26c⟩ := isOf hZ rfl c24_1
          obtain ⟨_, _, ⟨T26, L26, k26, n26⟩, -, X26, ⟨Lc26, hQ26, l26, y26, z26⟩, st26⟩ := X24.virtualBack hx (y := own_y17) (z := own_y17) hown (mvT hZ (own_W hw 45 rfl)) (mvT hZ (own_W hw 46 rfl)) (notFace_of_selects (args := #[]) (mvT hZ (own_W hw 48 rfl))) (mvT hZ (own_W hw 48 rfl)) (mvT hZ (own_W hw 47 rfl)) (by decide) (backOf (W := 0) (own_rm_adC0n l Z a0 hw [] b3 vc aC b1 ob8 kb8 vd (own_sat (0 : Int64) (1 : Int64)) va (own_sat (own_sat (0 : Int64) aA) aB) (((0 : Int64) + (1 : Int64)) + (1 : Int64)) T24.heap n0 Z24 c24_1 c24_2 c24_3 c24_4 c24_5 c24_6 g_b3 g_ob8 g_b1 (Ne.symm ne_b1_b3) c8_8 c8_9 (by have z0 := congrArg Int64.toInt hA; have z1 := mt Int64.toInt_inj.mp hC; have z2 := Int64.lt_iff_toInt_lt.mp hD; rw [Int64.lt_iff_toInt_lt]; omega) (by have z0 := congrArg Int64.toInt hA; have z1 := mt Int64.toInt_inj.mp hC; have z2 := Int64.lt_iff_toInt_lt.mp hD; rw [← Int64.toInt_inj]; omega)) hZ (own_W hw 49 rfl) (own_W hw 17 rfl) (by decide) (by decide)) q26a q26c (g := (mkF m 94 #[jv va, sS, jv vb, sS, jv vc, sS, jv vd, sS, jv ve, sS, jv vf, sS, jv aA, sS, jv aB, sS, jv aC, sS, rv b1, rv b3, uS, uS, uS, uS] [(.ref b1), (.long aC), (.long vc), (.int 1), (.ref b3)])) rfl (by rw [hml]; rfl) (Steps.refl _) (argsL := [(.int 1), (.long vc), (.long aC), (.ref b1)]) (rest := []) (lenOf own_pd11 rfl) rfl (Nat.le_of_eq rfl) (hb hby at_94) (fun _ _ => ⟨rfl, rfl, (by decide : 7 + 1 ≤ _), (by decide : 25 + 8 ≤ _)⟩)
          dsimp only [Pt.U, Pt.locs, Pt.cells, Pt.slots] at X26 l26 y26 z26 st26 hQ26
          subst l26 y26 z26
          obtain ⟨ob26, kb26, rfl, N26q, K26q, c26_1, c26_2, c26_3, c26_4, c26_5, c26_6, c26_7, c26_8, c26_9⟩ := hQ26
          refine own_FinW.go (fun t k => st26.trans k) ?_
          have N26 := Fr.app N24 N26q
          have Z26 := Nat.le_trans Z24 K26q.1
          have hk26 := Nat.le_trans hk24 K26q.1
          have ne_b3_ob26 : b3 ≠ ob26 := Nat.ne_of_lt (Nat.lt_of_lt_of_le c24_3.lt c26_7)
          have ne_ob8_ob26 : ob8 ≠ ob26 := Nat.ne_of_lt (Nat.lt_of_lt_of_le c24_4.lt c26_7)
          have ne_b1_ob26 : b1 ≠ ob26 := Nat.ne_of_lt (Nat.lt_of_lt_of_le c24_6.lt c26_7)
          have g_ob26 : n0 ≤ ob26 := Nat.le_trans Z24 c26_7
          exact tail2 T26 _ (X26.mono (by decide) (by decide)) N26 Z26 hk26 ob26 kb26 vc (own_sat (0 : Int64) aC) va (own_sat (own_sat (0 : Int64) aA) aB) ((((0 : Int64) + (1 : Int64)) + (1 : Int64)) + (1 : Int64)) c26_1 c26_2 c26_3 c26_4 c26_5 c26_6 g_ob26 c26_8 c26_9 (own_o_2_01 hJ28.1 hJ28.2.1 hJ28.2.2 (by have z0 := congrArg Int64.toInt hA; have z1 := mt Int64.toInt_inj.mp hC; have z2 := Int64.lt_iff_toInt_lt.mp hD; apply Int64.toInt_inj.mp; omega) (by have z0 := congrArg Int64.toInt hA; have z1 := mt Int64.toInt_inj.mp hC; have z2 := Int64.lt_iff_toInt_lt.mp hD; rw [Int64.lt_iff_toInt_lt]; omega))
        · show own_FinW _ _ _ _ _ _ _ (T24.setTop (mkF m 85 #[jv va, sS, jv vb, sS, jv vc, sS, jv vd, sS, jv ve, sS, jv vf, sS, jv aA, sS, jv aB, sS, jv aC, sS, rv b1, rv b3, uS, uS, uS, uS] []))
          refine own_FinW.go (fun t k => XS.aload X24.here hx rfl (hb hby at_85) rfl rfl (XS.iconst X24.here hx rfl (hb hby at_87) (XS.lload X24.here hx rfl (hb hby at_88) rfl (XS.lload X24.here hx rfl (hb hby at_90) rfl k)))) ?_
          refine own_FinW.go (fun t k => XS.aload X24.here hx rfl (hb hby at_92) rfl rfl k) ?_
          show own_FinW _ _ _ _ _ _ _ (T24.setTop (mkF m 94 #[jv va, sS, jv vb, sS, jv vc, sS, jv vd, sS, jv ve, sS, jv vf, sS, jv aA, sS, jv aB, sS, jv aC, sS, rv b1, rv b3, uS, uS, uS, uS] [(.ref b1), (.long aC), (.long vc), (.int 1), (.ref b3)]))
          obtain ⟨cq27, kq27, q27a, q27b, q27c⟩ := isOf hZ rfl c24_1
          obtain ⟨_, _, ⟨T27, L27, k27, n27⟩, -, X27, ⟨Lc27, hQ27, l27, y27, z27⟩, st27⟩ := X24.virtualBack hx (y := own_y17) (z := own_y17) hown (mvT hZ (own_W hw 45 rfl)) (mvT hZ (own_W hw 46 rfl)) (notFace_of_selects (args := #[]) (mvT hZ (own_W hw 48 rfl))) (mvT hZ (own_W hw 48 rfl)) (mvT hZ (own_W hw 47 rfl)) (by decide) (backOf (W := 0) (own_rm_adC1n l Z a0 hw [] b3 vc aC b1 ob8 kb8 vd (own_sat (0 : Int64) (1 : Int64)) va (own_sat (own_sat (0 : Int64) aA) aB) (((0 : Int64) + (1 : Int64)) + (1 : Int64)) T24.heap n0 Z24 c24_1 c24_2 c24_3 c24_4 c24_5 c24_6 g_b3 g_ob8 g_b1 (Ne.symm ne_b1_b3) c8_8 c8_9 (by have z0 := congrArg Int64.toInt hA; have z1 := mt Int64.toInt_inj.mp hC; have z2 := (not_congr Int64.lt_iff_toInt_lt).mp hD; rw [Int64.lt_iff_toInt_lt]; omega)) hZ (own_W hw 49 rfl) (own_W hw 17 rfl) (by decide) (by decide)) q27a q27c (g := (mkF m 94 #[jv va, sS, jv vb, sS, jv vc, sS, jv vd, sS, jv ve, sS, jv vf, sS, jv aA, sS, jv aB, sS, jv aC, sS, rv b1, rv b3, uS, uS, uS, uS] [(.ref b1), (.long aC), (.long vc), (.int 1), (.ref b3)])) rfl (by rw [hml]; rfl) (Steps.refl _) (argsL := [(.int 1), (.long vc), (.long aC), (.ref b1)]) (rest := []) (lenOf own_pd11 rfl) rfl (Nat.le_of_eq rfl) (hb hby at_94) (fun _ _ => ⟨rfl, rfl, (by decide : 7 + 1 ≤ _), (by decide : 25 + 8 ≤ _)⟩)
          dsimp only [Pt.U, Pt.locs, Pt.cells, Pt.slots] at X27 l27 y27 z27 st27 hQ27
          subst l27 y27 z27
          obtain ⟨ob27, kb27, rfl, N27q, K27q, c27_1, c27_2, c27_3, c27_4, c27_5, c27_6, c27_7, c27_8, c27_9⟩ := hQ27
          refine own_FinW.go (fun t k => st27.trans k) ?_
          have N27 := Fr.app N24 N27q
          have Z27 := Nat.le_trans Z24 K27q.1
          have hk27 := Nat.le_trans hk24 K27q.1
          have ne_b3_ob27 : b3 ≠ ob27 := Nat.ne_of_lt (Nat.lt_of_lt_of_le c24_3.lt c27_7)
          have ne_ob8_ob27 : ob8 ≠ ob27 := Nat.ne_of_lt (Nat.lt_of_lt_of_le c24_4.lt c27_7)
          have ne_b1_ob27 : b1 ≠ ob27 := Nat.ne_of_lt (Nat.lt_of_lt_of_le c24_6.lt c27_7)
          have g_ob27 : n0 ≤ ob27 := Nat.le_trans Z24 c27_7
          exact tail2 T27 _ (X27.mono (by decide) (by decide)) N27 Z27 hk27 ob27 kb27 va (own_sat (own_sat (0 : Int64) aA) aB) vc (own_sat (0 : Int64) aC) ((((0 : Int64) + (1 : Int64)) + (1 : Int64)) + (1 : Int64)) c27_1 c27_2 c27_3 c27_4 c27_5 c27_6 g_ob27 c27_8 c27_9 (own_o_01_2 hJ28.1 hJ28.2.1 hJ28.2.2 (by have z0 := congrArg Int64.toInt hA; have z1 := mt Int64.toInt_inj.mp hC; have z2 := (not_congr Int64.lt_iff_toInt_lt).mp hD; apply Int64.toInt_inj.mp; omega) (by have z0 := congrArg Int64.toInt hA; have z1 := mt Int64.toInt_inj.mp hC; have z2 := (not_congr Int64.lt_iff_toInt_lt).mp hD; rw [Int64.lt_iff_toInt_lt]; omega))
    · by_cases hB : vb < va
      · show own_FinW _ _ _ _ _ _ _ (T8.setTop (mkF m 74 #[jv va, sS, jv vb, sS, jv vc, sS, jv vd, sS, jv ve, sS, jv vf, sS, jv aA, sS, jv aB, sS, jv aC, sS, rv b1, rv b3, uS, uS, uS, uS] []))
        refine own_FinW.go (fun t k => XS.aload X8.here hx rfl (hb hby at_74) rfl rfl (XS.iconst X8.here hx rfl (hb hby at_76) (XS.lloadN X8.here hx rfl (hb hby at_77) rfl (XS.lload X8.here hx rfl (hb hby at_78) rfl k)))) ?_
        refine own_FinW.go (fun t k => XS.aload X8.here hx rfl (hb hby at_80) rfl rfl k) ?_
        show own_FinW _ _ _ _ _ _ _ (T8.setTop (mkF m 82 #[jv va, sS, jv vb, sS, jv vc, sS, jv vd, sS, jv ve, sS, jv vf, sS, jv aA, sS, jv aB, sS, jv aC, sS, rv b1, rv b3, uS, uS, uS, uS] [(.ref b1), (.long aB), (.long vb), (.int 1), (.ref b3)]))
        obtain ⟨cq28, kq28, q28a, q28b, q28c⟩ := isOf hZ rfl c8_1
        obtain ⟨_, _, ⟨T28, L28, k28, n28⟩, -, X28, ⟨Lc28, hQ28, l28, y28, z28⟩, st28⟩ := X8.virtualBack hx (y := own_y17) (z := own_y17) hown (mvT hZ (own_W hw 45 rfl)) (mvT hZ (own_W hw 46 rfl)) (notFace_of_selects (args := #[]) (mvT hZ (own_W hw 48 rfl))) (mvT hZ (own_W hw 48 rfl)) (mvT hZ (own_W hw 47 rfl)) (by decide) (backOf (W := 0) (own_rm_adC0n l Z a0 hw [] b3 vb aB b1 ob8 kb8 vd (own_sat (0 : Int64) (1 : Int64)) va (own_sat (0 : Int64) aA) (((0 : Int64) + (1 : Int64)) + (1 : Int64)) T8.heap n0 Z8 c8_1 c8_2 c8_3 c8_4 c8_5 c8_6 g_b3 g_ob8 g_b1 (Ne.symm ne_b1_b3) c8_8 c8_9 (by have z0 := mt Int64.toInt_inj.mp hA; have z1 := Int64.lt_iff_toInt_lt.mp hB; rw [Int64.lt_iff_toInt_lt]; omega) (by have z0 := mt Int64.toInt_inj.mp hA; have z1 := Int64.lt_iff_toInt_lt.mp hB; rw [← Int64.toInt_inj]; omega)) hZ (own_W hw 49 rfl) (own_W hw 17 rfl) (by decide) (by decide)) q28a q28c (g := (mkF m 82 #[jv va, sS, jv vb, sS, jv vc, sS, jv vd, sS, jv ve, sS, jv vf, sS, jv aA, sS, jv aB, sS, jv aC, sS, rv b1, rv b3, uS, uS, uS, uS] [(.ref b1), (.long aB), (.long vb), (.int 1), (.ref b3)])) rfl (by rw [hml]; rfl) (Steps.refl _) (argsL := [(.int 1), (.long vb), (.long aB), (.ref b1)]) (rest := []) (lenOf own_pd11 rfl) rfl (Nat.le_of_eq rfl) (hb hby at_82) (fun _ _ => ⟨rfl, rfl, (by decide : 7 + 1 ≤ _), (by decide : 25 + 8 ≤ _)⟩)
        dsimp only [Pt.U, Pt.locs, Pt.cells, Pt.slots] at X28 l28 y28 z28 st28 hQ28
        subst l28 y28 z28
        obtain ⟨ob28, kb28, rfl, N28q, K28q, c28_1, c28_2, c28_3, c28_4, c28_5, c28_6, c28_7, c28_8, c28_9⟩ := hQ28
        refine own_FinW.go (fun t k => st28.trans k) ?_
        have N28 := Fr.app N8 N28q
        have Z28 := Nat.le_trans Z8 K28q.1
        have hk28 := Nat.le_trans hk8 K28q.1
        have ne_b3_ob28 : b3 ≠ ob28 := Nat.ne_of_lt (Nat.lt_of_lt_of_le c8_3.lt c28_7)
        have ne_ob8_ob28 : ob8 ≠ ob28 := Nat.ne_of_lt (Nat.lt_of_lt_of_le c8_4.lt c28_7)
        have ne_b1_ob28 : b1 ≠ ob28 := Nat.ne_of_lt (Nat.lt_of_lt_of_le c8_6.lt c28_7)
        have g_ob28 : n0 ≤ ob28 := Nat.le_trans Z8 c28_7
        show own_FinW _ _ _ _ _ _ _ (T28.setTop (mkF m 85 #[jv va, sS, jv vb, sS, jv vc, sS, jv vd, sS, jv ve, sS, jv vf, sS, jv aA, sS, jv aB, sS, jv aC, sS, rv b1, rv b3, uS, uS, uS, uS] []))
        by_cases hC : vb = vc
        · show own_FinW _ _ _ _ _ _ _ (T28.setTop (mkF m 85 #[jv va, sS, jv vb, sS, jv vc, sS, jv vd, sS, jv ve, sS, jv vf, sS, jv aA, sS, jv aB, sS, jv aC, sS, rv b1, rv b3, uS, uS, uS, uS] []))
          refine own_FinW.go (fun t k => XS.aload X28.here hx rfl (hb hby at_85) rfl rfl (XS.iconst X28.here hx rfl (hb hby at_87) (XS.lload X28.here hx rfl (hb hby at_88) rfl (XS.lload X28.here hx rfl (hb hby at_90) rfl k)))) ?_
          refine own_FinW.go (fun t k => XS.aload X28.here hx rfl (hb hby at_92) rfl rfl k) ?_
          show own_FinW _ _ _ _ _ _ _ (T28.setTop (mkF m 94 #[jv va, sS, jv vb, sS, jv vc, sS, jv vd, sS, jv ve, sS, jv vf, sS, jv aA, sS, jv aB, sS, jv aC, sS, rv b1, rv b3, uS, uS, uS, uS] [(.ref b1), (.long aC), (.long vc), (.int 1), (.ref b3)]))
          obtain ⟨cq29, kq29, q29a, q29b, q29c⟩ := isOf hZ rfl c28_1
          obtain ⟨_, _, ⟨T29, L29, k29, n29⟩, -, X29, ⟨Lc29, hQ29, l29, y29, z29⟩, st29⟩ := X28.virtualBack hx (y := own_y17) (z := own_y17) hown (mvT hZ (own_W hw 45 rfl)) (mvT hZ (own_W hw 46 rfl)) (notFace_of_selects (args := #[]) (mvT hZ (own_W hw 48 rfl))) (mvT hZ (own_W hw 48 rfl)) (mvT hZ (own_W hw 47 rfl)) (by decide) (backOf (W := 0) (own_rm_adD0e l Z a0 hw [] b3 vc aC b1 ob28 kb28 vd (own_sat (0 : Int64) (1 : Int64)) vb (own_sat (0 : Int64) aB) va (own_sat (0 : Int64) aA) ((((0 : Int64) + (1 : Int64)) + (1 : Int64)) + (1 : Int64)) T28.heap n0 Z28 c28_1 c28_2 c28_3 c28_4 c28_5 c28_6 g_b3 g_ob28 g_b1 (Ne.symm ne_b1_b3) c28_8 c28_9 (by have z0 := mt Int64.toInt_inj.mp hA; have z1 := Int64.lt_iff_toInt_lt.mp hB; have z2 := congrArg Int64.toInt hC; rw [Int64.lt_iff_toInt_lt]; omega) (by have z0 := mt Int64.toInt_inj.mp hA; have z1 := Int64.lt_iff_toInt_lt.mp hB; have z2 := congrArg Int64.toInt hC; rw [Int64.lt_iff_toInt_lt]; omega) (by have z0 := mt Int64.toInt_inj.mp hA; have z1 := Int64.lt_iff_toInt_lt.mp hB; have z2 := congrArg Int64.toInt hC; apply Int64.toInt_inj.mp; omega)) hZ (own_W hw 49 rfl) (own_W hw 17 rfl) (by decide) (by decide)) q29a q29c (g := (mkF m 94 #[jv va, sS, jv vb, sS, jv vc, sS, jv vd, sS, jv ve, sS, jv vf, sS, jv aA, sS, jv aB, sS, jv aC, sS, rv b1, rv b3, uS, uS, uS, uS] [(.ref b1), (.long aC), (.long vc), (.int 1), (.ref b3)])) rfl (by rw [hml]; rfl) (Steps.refl _) (argsL := [(.int 1), (.long vc), (.long aC), (.ref b1)]) (rest := []) (lenOf own_pd11 rfl) rfl (Nat.le_of_eq rfl) (hb hby at_94) (fun _ _ => ⟨rfl, rfl, (by decide : 8 + 0 ≤ _), (by decide : 33 + 0 ≤ _)⟩)
          dsimp only [Pt.U, Pt.locs, Pt.cells, Pt.slots] at X29 l29 y29 z29 st29 hQ29
          subst l29 y29 z29
          obtain ⟨rfl, N29q, K29q, c29_1, c29_2, c29_3, c29_4, c29_5, c29_6⟩ := hQ29
          refine own_FinW.go (fun t k => st29.trans k) ?_
          have N29 := Fr.app N28 N29q
          have Z29 := Nat.le_trans Z28 K29q.1
          have hk29 := Nat.le_trans hk28 K29q.1
          exact tail2 T29 _ (X29.mono (by decide) (by decide)) N29 Z29 hk29 ob28 kb28 vb (own_sat (own_sat (0 : Int64) aB) aC) va (own_sat (0 : Int64) aA) ((((0 : Int64) + (1 : Int64)) + (1 : Int64)) + (1 : Int64)) c29_1 c29_2 c29_3 c29_4 c29_5 c29_6 g_ob28 c28_8 c28_9 (own_o_12_0 hJ28.1 hJ28.2.1 hJ28.2.2 (by have z0 := mt Int64.toInt_inj.mp hA; have z1 := Int64.lt_iff_toInt_lt.mp hB; have z2 := congrArg Int64.toInt hC; apply Int64.toInt_inj.mp; omega) (by have z0 := mt Int64.toInt_inj.mp hA; have z1 := Int64.lt_iff_toInt_lt.mp hB; have z2 := congrArg Int64.toInt hC; rw [Int64.lt_iff_toInt_lt]; omega))
        · by_cases hD : va = vc
          · show own_FinW _ _ _ _ _ _ _ (T28.setTop (mkF m 85 #[jv va, sS, jv vb, sS, jv vc, sS, jv vd, sS, jv ve, sS, jv vf, sS, jv aA, sS, jv aB, sS, jv aC, sS, rv b1, rv b3, uS, uS, uS, uS] []))
            refine own_FinW.go (fun t k => XS.aload X28.here hx rfl (hb hby at_85) rfl rfl (XS.iconst X28.here hx rfl (hb hby at_87) (XS.lload X28.here hx rfl (hb hby at_88) rfl (XS.lload X28.here hx rfl (hb hby at_90) rfl k)))) ?_
            refine own_FinW.go (fun t k => XS.aload X28.here hx rfl (hb hby at_92) rfl rfl k) ?_
            show own_FinW _ _ _ _ _ _ _ (T28.setTop (mkF m 94 #[jv va, sS, jv vb, sS, jv vc, sS, jv vd, sS, jv ve, sS, jv vf, sS, jv aA, sS, jv aB, sS, jv aC, sS, rv b1, rv b3, uS, uS, uS, uS] [(.ref b1), (.long aC), (.long vc), (.int 1), (.ref b3)]))
            obtain ⟨cq30, kq30, q30a, q30b, q30c⟩ := isOf hZ rfl c28_1
            obtain ⟨_, _, ⟨T30, L30, k30, n30⟩, -, X30, ⟨Lc30, hQ30, l30, y30, z30⟩, st30⟩ := X28.virtualBack hx (y := own_y17) (z := own_y17) hown (mvT hZ (own_W hw 45 rfl)) (mvT hZ (own_W hw 46 rfl)) (notFace_of_selects (args := #[]) (mvT hZ (own_W hw 48 rfl))) (mvT hZ (own_W hw 48 rfl)) (mvT hZ (own_W hw 47 rfl)) (by decide) (backOf (W := 0) (own_rm_adD1e l Z a0 hw [] b3 vc aC b1 ob28 kb28 vd (own_sat (0 : Int64) (1 : Int64)) vb (own_sat (0 : Int64) aB) va (own_sat (0 : Int64) aA) ((((0 : Int64) + (1 : Int64)) + (1 : Int64)) + (1 : Int64)) T28.heap n0 Z28 c28_1 c28_2 c28_3 c28_4 c28_5 c28_6 g_b3 g_ob28 g_b1 (Ne.symm ne_b1_b3) c28_8 c28_9 (by have z0 := mt Int64.toInt_inj.mp hA; have z1 := Int64.lt_iff_toInt_lt.mp hB; have z2 := mt Int64.toInt_inj.mp hC; have z3 := congrArg Int64.toInt hD; rw [Int64.lt_iff_toInt_lt]; omega) (by have z0 := mt Int64.toInt_inj.mp hA; have z1 := Int64.lt_iff_toInt_lt.mp hB; have z2 := mt Int64.toInt_inj.mp hC; have z3 := congrArg Int64.toInt hD; rw [Int64.lt_iff_toInt_lt]; omega) (by have z0 := mt Int64.toInt_inj.mp hA; have z1 := Int64.lt_iff_toInt_lt.mp hB; have z2 := mt Int64.toInt_inj.mp hC; have z3 := congrArg Int64.toInt hD; apply Int64.toInt_inj.mp; omega)) hZ (own_W hw 49 rfl) (own_W hw 17 rfl) (by decide) (by decide)) q30a q30c (g := (mkF m 94 #[jv va, sS, jv vb, sS, jv vc, sS, jv vd, sS, jv ve, sS, jv vf, sS, jv aA, sS, jv aB, sS, jv aC, sS, rv b1, rv b3, uS, uS, uS, uS] [(.ref b1), (.long aC), (.long vc), (.int 1), (.ref b3)])) rfl (by rw [hml]; rfl) (Steps.refl _) (argsL := [(.int 1), (.long vc), (.long aC), (.ref b1)]) (rest := []) (lenOf own_pd11 rfl) rfl (Nat.le_of_eq rfl) (hb hby at_94) (fun _ _ => ⟨rfl, rfl, (by decide : 8 + 0 ≤ _), (by decide : 33 + 0 ≤ _)⟩)
            dsimp only [Pt.U, Pt.locs, Pt.cells, Pt.slots] at X30 l30 y30 z30 st30 hQ30
            subst l30 y30 z30
            obtain ⟨rfl, N30q, K30q, c30_1, c30_2, c30_3, c30_4, c30_5, c30_6⟩ := hQ30
            refine own_FinW.go (fun t k => st30.trans k) ?_
            have N30 := Fr.app N28 N30q
            have Z30 := Nat.le_trans Z28 K30q.1
            have hk30 := Nat.le_trans hk28 K30q.1
            exact tail2 T30 _ (X30.mono (by decide) (by decide)) N30 Z30 hk30 ob28 kb28 vb (own_sat (0 : Int64) aB) va (own_sat (own_sat (0 : Int64) aA) aC) ((((0 : Int64) + (1 : Int64)) + (1 : Int64)) + (1 : Int64)) c30_1 c30_2 c30_3 c30_4 c30_5 c30_6 g_ob28 c28_8 c28_9 (own_o_1_02 hJ28.1 hJ28.2.1 hJ28.2.2 (by have z0 := mt Int64.toInt_inj.mp hA; have z1 := Int64.lt_iff_toInt_lt.mp hB; have z2 := mt Int64.toInt_inj.mp hC; have z3 := congrArg Int64.toInt hD; apply Int64.toInt_inj.mp; omega) (by have z0 := mt Int64.toInt_inj.mp hA; have z1 := Int64.lt_iff_toInt_lt.mp hB; have z2 := mt Int64.toInt_inj.mp hC; have z3 := congrArg Int64.toInt hD; rw [Int64.lt_iff_toInt_lt]; omega))
          · by_cases hE : vc < vb
            · show own_FinW _ _ _ _ _ _ _ (T28.setTop (mkF m 85 #[jv va, sS, jv vb, sS, jv vc, sS, jv vd, sS, jv ve, sS, jv vf, sS, jv aA, sS, jv aB, sS, jv aC, sS, rv b1, rv b3, uS, uS, uS, uS] []))
              refine own_FinW.go (fun t k => XS.aload X28.here hx rfl (hb hby at_85) rfl rfl (XS.iconst X28.here hx rfl (hb hby at_87) (XS.lload X28.here hx rfl (hb hby at_88) rfl (XS.lload X28.here hx rfl (hb hby at_90) rfl k)))) ?_
              refine own_FinW.go (fun t k => XS.aload X28.here hx rfl (hb hby at_92) rfl rfl k) ?_
              show own_FinW _ _ _ _ _ _ _ (T28.setTop (mkF m 94 #[jv va, sS, jv vb, sS, jv vc, sS, jv vd, sS, jv ve, sS, jv vf, sS, jv aA, sS, jv aB, sS, jv aC, sS, rv b1, rv b3, uS, uS, uS, uS] [(.ref b1), (.long aC), (.long vc), (.int 1), (.ref b3)]))
              obtain ⟨cq31, kq31, q31a, q31b, q31c⟩ := isOf hZ rfl c28_1
              obtain ⟨_, _, ⟨T31, L31, k31, n31⟩, -, X31, ⟨Lc31, hQ31, l31, y31, z31⟩, st31⟩ := X28.virtualBack hx (y := own_y17) (z := own_y17) hown (mvT hZ (own_W hw 45 rfl)) (mvT hZ (own_W hw 46 rfl)) (notFace_of_selects (args := #[]) (mvT hZ (own_W hw 48 rfl))) (mvT hZ (own_W hw 48 rfl)) (mvT hZ (own_W hw 47 rfl)) (by decide) (backOf (W := 0) (own_rm_adD0n l Z a0 hw [] b3 vc aC b1 ob28 kb28 vd (own_sat (0 : Int64) (1 : Int64)) vb (own_sat (0 : Int64) aB) va (own_sat (0 : Int64) aA) ((((0 : Int64) + (1 : Int64)) + (1 : Int64)) + (1 : Int64)) T28.heap n0 Z28 c28_1 c28_2 c28_3 c28_4 c28_5 c28_6 g_b3 g_ob28 g_b1 (Ne.symm ne_b1_b3) c28_8 c28_9 (by have z0 := mt Int64.toInt_inj.mp hA; have z1 := Int64.lt_iff_toInt_lt.mp hB; have z2 := mt Int64.toInt_inj.mp hC; have z3 := mt Int64.toInt_inj.mp hD; have z4 := Int64.lt_iff_toInt_lt.mp hE; rw [Int64.lt_iff_toInt_lt]; omega) (by have z0 := mt Int64.toInt_inj.mp hA; have z1 := Int64.lt_iff_toInt_lt.mp hB; have z2 := mt Int64.toInt_inj.mp hC; have z3 := mt Int64.toInt_inj.mp hD; have z4 := Int64.lt_iff_toInt_lt.mp hE; rw [Int64.lt_iff_toInt_lt]; omega) (by have z0 := mt Int64.toInt_inj.mp hA; have z1 := Int64.lt_iff_toInt_lt.mp hB; have z2 := mt Int64.toInt_inj.mp hC; have z3 := mt Int64.toInt_inj.mp hD; have z4 := Int64.lt_iff_toInt_lt.mp hE; rw [← Int64.toInt_inj]; omega)) hZ (own_W hw 49 rfl) (own_W hw 17 rfl) (by decide) (by decide)) q31a q31c (g := (mkF m 94 #[jv va, sS, jv vb, sS, jv vc, sS, jv vd, sS, jv ve, sS, jv vf, sS, jv aA, sS, jv aB, sS, jv aC, sS, rv b1, rv b3, uS, uS, uS, uS] [(.ref b1), (.long aC), (.long vc), (.int 1), (.ref b3)])) rfl (by rw [hml]; rfl) (Steps.refl _) (argsL := [(.int 1), (.long vc), (.long aC), (.ref b1)]) (rest := []) (lenOf own_pd11 rfl) rfl (Nat.le_of_eq rfl) (hb hby at_94) (fun _ _ => ⟨rfl, rfl, (by decide : 8 + 1 ≤ _), (by decide : 33 + 10 ≤ _)⟩)
              dsimp only [Pt.U, Pt.locs, Pt.cells, Pt.slots] at X31 l31 y31 z31 st31 hQ31
              subst l31 y31 z31
              obtain ⟨ob31, kb31, rfl, N31q, K31q, c31_1, c31_2, c31_3, c31_4, c31_5, c31_6, c31_7, c31_8, c31_9⟩ := hQ31
              refine own_FinW.go (fun t k => st31.trans k) ?_
              have N31 := Fr.app N28 N31q
              have Z31 := Nat.le_trans Z28 K31q.1
              have hk31 := Nat.le_trans hk28 K31q.1
              have ne_b3_ob31 : b3 ≠ ob31 := Nat.ne_of_lt (Nat.lt_of_lt_of_le c28_3.lt c31_7)
              have ne_ob28_ob31 : ob28 ≠ ob31 := Nat.ne_of_lt (Nat.lt_of_lt_of_le c28_4.lt c31_7)
              have ne_b1_ob31 : b1 ≠ ob31 := Nat.ne_of_lt (Nat.lt_of_lt_of_le c28_6.lt c31_7)
              have g_ob31 : n0 ≤ ob31 := Nat.le_trans Z28 c31_7
              exact tail3 T31 _ (X31.mono (by decide) (by decide)) N31 Z31 hk31 ob31 kb31 vc (own_sat (0 : Int64) aC) vb (own_sat (0 : Int64) aB) va (own_sat (0 : Int64) aA) (((((0 : Int64) + (1 : Int64)) + (1 : Int64)) + (1 : Int64)) + (1 : Int64)) c31_1 c31_2 c31_3 c31_4 c31_5 c31_6 g_ob31 c31_8 c31_9 (own_o_2_1_0 hJ28.1 hJ28.2.1 hJ28.2.2 (by have z0 := mt Int64.toInt_inj.mp hA; have z1 := Int64.lt_iff_toInt_lt.mp hB; have z2 := mt Int64.toInt_inj.mp hC; have z3 := mt Int64.toInt_inj.mp hD; have z4 := Int64.lt_iff_toInt_lt.mp hE; rw [Int64.lt_iff_toInt_lt]; omega) (by have z0 := mt Int64.toInt_inj.mp hA; have z1 := Int64.lt_iff_toInt_lt.mp hB; have z2 := mt Int64.toInt_inj.mp hC; have z3 := mt Int64.toInt_inj.mp hD; have z4 := Int64.lt_iff_toInt_lt.mp hE; rw [Int64.lt_iff_toInt_lt]; omega))
            · by_cases hF : vc < va
              · show own_FinW _ _ _ _ _ _ _ (T28.setTop (mkF m 85 #[jv va, sS, jv vb, sS, jv vc, sS, jv vd, sS, jv ve, sS, jv vf, sS, jv aA, sS, jv aB, sS, jv aC, sS, rv b1, rv b3, uS, uS, uS, uS] []))
                refine own_FinW.go (fun t k => XS.aload X28.here hx rfl (hb hby at_85) rfl rfl (XS.iconst X28.here hx rfl (hb hby at_87) (XS.lload X28.here hx rfl (hb hby at_88) rfl (XS.lload X28.here hx rfl (hb hby at_90) rfl k)))) ?_
                refine own_FinW.go (fun t k => XS.aload X28.here hx rfl (hb hby at_92) rfl rfl k) ?_
                show own_FinW _ _ _ _ _ _ _ (T28.setTop (mkF m 94 #[jv va, sS, jv vb, sS, jv vc, sS, jv vd, sS, jv ve, sS, jv vf, sS, jv aA, sS, jv aB, sS, jv aC, sS, rv b1, rv b3, uS, uS, uS, uS] [(.ref b1), (.long aC), (.long vc), (.int 1), (.ref b3)]))
                obtain ⟨cq32, kq32, q32a, q32b, q32c⟩ := isOf hZ rfl c28_1
                obtain ⟨_, _, ⟨T32, L32, k32, n32⟩, -, X32, ⟨Lc32, hQ32, l32, y32, z32⟩, st32⟩ := X28.virtualBack hx (y := own_y17) (z := own_y17) hown (mvT hZ (own_W hw 45 rfl)) (mvT hZ (own_W hw 46 rfl)) (notFace_of_selects (args := #[]) (mvT hZ (own_W hw 48 rfl))) (mvT hZ (own_W hw 48 rfl)) (mvT hZ (own_W hw 47 rfl)) (by decide) (backOf (W := 0) (own_rm_adD1n l Z a0 hw [] b3 vc aC b1 ob28 kb28 vd (own_sat (0 : Int64) (1 : Int64)) vb (own_sat (0 : Int64) aB) va (own_sat (0 : Int64) aA) ((((0 : Int64) + (1 : Int64)) + (1 : Int64)) + (1 : Int64)) T28.heap n0 Z28 c28_1 c28_2 c28_3 c28_4 c28_5 c28_6 g_b3 g_ob28 g_b1 (Ne.symm ne_b1_b3) c28_8 c28_9 (by have z0 := mt Int64.toInt_inj.mp hA; have z1 := Int64.lt_iff_toInt_lt.mp hB; have z2 := mt Int64.toInt_inj.mp hC; have z3 := mt Int64.toInt_inj.mp hD; have z4 := (not_congr Int64.lt_iff_toInt_lt).mp hE; have z5 := Int64.lt_iff_toInt_lt.mp hF; rw [Int64.lt_iff_toInt_lt]; omega) (by have z0 := mt Int64.toInt_inj.mp hA; have z1 := Int64.lt_iff_toInt_lt.mp hB; have z2 := mt Int64.toInt_inj.mp hC; have z3 := mt Int64.toInt_inj.mp hD; have z4 := (not_congr Int64.lt_iff_toInt_lt).mp hE; have z5 := Int64.lt_iff_toInt_lt.mp hF; rw [Int64.lt_iff_toInt_lt]; omega) (by have z0 := mt Int64.toInt_inj.mp hA; have z1 := Int64.lt_iff_toInt_lt.mp hB; have z2 := mt Int64.toInt_inj.mp hC; have z3 := mt Int64.toInt_inj.mp hD; have z4 := (not_congr Int64.lt_iff_toInt_lt).mp hE; have z5 := Int64.lt_iff_toInt_lt.mp hF; rw [← Int64.toInt_inj]; omega)) hZ (own_W hw 49 rfl) (own_W hw 17 rfl) (by decide) (by decide)) q32a q32c (g := (mkF m 94 #[jv va, sS, jv vb, sS, jv vc, sS, jv vd, sS, jv ve, sS, jv vf, sS, jv aA, sS, jv aB, sS, jv aC, sS, rv b1, rv b3, uS, uS, uS, uS] [(.ref b1), (.long aC), (.long vc), (.int 1), (.ref b3)])) rfl (by rw [hml]; rfl) (Steps.refl _) (argsL := [(.int 1), (.long vc), (.long aC), (.ref b1)]) (rest := []) (lenOf own_pd11 rfl) rfl (Nat.le_of_eq rfl) (hb hby at_94) (fun _ _ => ⟨rfl, rfl, (by decide : 8 + 1 ≤ _), (by decide : 33 + 10 ≤ _)⟩)
                dsimp only [Pt.U, Pt.locs, Pt.cells, Pt.slots] at X32 l32 y32 z32 st32 hQ32
                subst l32 y32 z32
                obtain ⟨ob32, kb32, rfl, N32q, K32q, c32_1, c32_2, c32_3, c32_4, c32_5, c32_6, c32_7, c32_8, c32_9⟩ := hQ32
                refine own_FinW.go (fun t k => st32.trans k) ?_
                have N32 := Fr.app N28 N32q
                have Z32 := Nat.le_trans Z28 K32q.1
                have hk32 := Nat.le_trans hk28 K32q.1
                have ne_b3_ob32 : b3 ≠ ob32 := Nat.ne_of_lt (Nat.lt_of_lt_of_le c28_3.lt c32_7)
                have ne_ob28_ob32 : ob28 ≠ ob32 := Nat.ne_of_lt (Nat.lt_of_lt_of_le c28_4.lt c32_7)
                have ne_b1_ob32 : b1 ≠ ob32 := Nat.ne_of_lt (Nat.lt_of_lt_of_le c28_6.lt c32_7)
                have g_ob32 : n0 ≤ ob32 := Nat.le_trans Z28 c32_7
                exact tail3 T32 _ (X32.mono (by decide) (by decide)) N32 Z32 hk32 ob32 kb32 vb (own_sat (0 : Int64) aB) vc (own_sat (0 : Int64) aC) va (own_sat (0 : Int64) aA) (((((0 : Int64) + (1 : Int64)) + (1 : Int64)) + (1 : Int64)) + (1 : Int64)) c32_1 c32_2 c32_3 c32_4 c32_5 c32_6 g_ob32 c32_8 c32_9 (own_o_1_2_0 hJ28.1 hJ28.2.1 hJ28.2.2 (by have z0 := mt Int64.toInt_inj.mp hA; have z1 := Int64.lt_iff_toInt_lt.mp hB; have z2 := mt Int64.toInt_inj.mp hC; have z3 := mt Int64.toInt_inj.mp hD; have z4 := (not_congr Int64.lt_iff_toInt_lt).mp hE; have z5 := Int64.lt_iff_toInt_lt.mp hF; rw [Int64.lt_iff_toInt_lt]; omega) (by have z0 := mt Int64.toInt_inj.mp hA; have z1 := Int64.lt_iff_toInt_lt.mp hB; have z2 := mt Int64.toInt_inj.mp hC; have z3 := mt Int64.toInt_inj.mp hD; have z4 := (not_congr Int64.lt_iff_toInt_lt).mp hE; have z5 := Int64.lt_iff_toInt_lt.mp hF; rw [Int64.lt_iff_toInt_lt]; omega))
              · show own_FinW _ _ _ _ _ _ _ (T28.setTop (mkF m 85 #[jv va, sS, jv vb, sS, jv vc, sS, jv vd, sS, jv ve, sS, jv vf, sS, jv aA, sS, jv aB, sS, jv aC, sS, rv b1, rv b3, uS, uS, uS, uS] []))
                refine own_FinW.go (fun t k => XS.aload X28.here hx rfl (hb hby at_85) rfl rfl (XS.iconst X28.here hx rfl (hb hby at_87) (XS.lload X28.here hx rfl (hb hby at_88) rfl (XS.lload X28.here hx rfl (hb hby at_90) rfl k)))) ?_
                refine own_FinW.go (fun t k => XS.aload X28.here hx rfl (hb hby at_92) rfl rfl k) ?_
                show own_FinW _ _ _ _ _ _ _ (T28.setTop (mkF m 94 #[jv va, sS, jv vb, sS, jv vc, sS, jv vd, sS, jv ve, sS, jv vf, sS, jv aA, sS, jv aB, sS, jv aC, sS, rv b1, rv b3, uS, uS, uS, uS] [(.ref b1), (.long aC), (.long vc), (.int 1), (.ref b3)]))
                obtain ⟨cq33, kq33, q33a, q33b, q33c⟩ := isOf hZ rfl c28_1
                obtain ⟨_, _, ⟨T33, L33, k33, n33⟩, -, X33, ⟨Lc33, hQ33, l33, y33, z33⟩, st33⟩ := X28.virtualBack hx (y := own_y17) (z := own_y17) hown (mvT hZ (own_W hw 45 rfl)) (mvT hZ (own_W hw 46 rfl)) (notFace_of_selects (args := #[]) (mvT hZ (own_W hw 48 rfl))) (mvT hZ (own_W hw 48 rfl)) (mvT hZ (own_W hw 47 rfl)) (by decide) (backOf (W := 0) (own_rm_adD2n l Z a0 hw [] b3 vc aC b1 ob28 kb28 vd (own_sat (0 : Int64) (1 : Int64)) vb (own_sat (0 : Int64) aB) va (own_sat (0 : Int64) aA) ((((0 : Int64) + (1 : Int64)) + (1 : Int64)) + (1 : Int64)) T28.heap n0 Z28 c28_1 c28_2 c28_3 c28_4 c28_5 c28_6 g_b3 g_ob28 g_b1 (Ne.symm ne_b1_b3) c28_8 c28_9 (by have z0 := mt Int64.toInt_inj.mp hA; have z1 := Int64.lt_iff_toInt_lt.mp hB; have z2 := mt Int64.toInt_inj.mp hC; have z3 := mt Int64.toInt_inj.mp hD; have z4 := (not_congr Int64.lt_iff_toInt_lt).mp hE; have z5 := (not_congr Int64.lt_iff_toInt_lt).mp hF; rw [Int64.lt_iff_toInt_lt]; omega)) hZ (own_W hw 49 rfl) (own_W hw 17 rfl) (by decide) (by decide)) q33a q33c (g := (mkF m 94 #[jv va, sS, jv vb, sS, jv vc, sS, jv vd, sS, jv ve, sS, jv vf, sS, jv aA, sS, jv aB, sS, jv aC, sS, rv b1, rv b3, uS, uS, uS, uS] [(.ref b1), (.long aC), (.long vc), (.int 1), (.ref b3)])) rfl (by rw [hml]; rfl) (Steps.refl _) (argsL := [(.int 1), (.long vc), (.long aC), (.ref b1)]) (rest := []) (lenOf own_pd11 rfl) rfl (Nat.le_of_eq rfl) (hb hby at_94) (fun _ _ => ⟨rfl, rfl, (by decide : 8 + 1 ≤ _), (by decide : 33 + 10 ≤ _)⟩)
                dsimp only [Pt.U, Pt.locs, Pt.cells, Pt.slots] at X33 l33 y33 z33 st33 hQ33
                subst l33 y33 z33
                obtain ⟨ob33, kb33, rfl, N33q, K33q, c33_1, c33_2, c33_3, c33_4, c33_5, c33_6, c33_7, c33_8, c33_9⟩ := hQ33
                refine own_FinW.go (fun t k => st33.trans k) ?_
                have N33 := Fr.app N28 N33q
                have Z33 := Nat.le_trans Z28 K33q.1
                have hk33 := Nat.le_trans hk28 K33q.1
                have ne_b3_ob33 : b3 ≠ ob33 := Nat.ne_of_lt (Nat.lt_of_lt_of_le c28_3.lt c33_7)
                have ne_ob28_ob33 : ob28 ≠ ob33 := Nat.ne_of_lt (Nat.lt_of_lt_of_le c28_4.lt c33_7)
                have ne_b1_ob33 : b1 ≠ ob33 := Nat.ne_of_lt (Nat.lt_of_lt_of_le c28_6.lt c33_7)
                have g_ob33 : n0 ≤ ob33 := Nat.le_trans Z28 c33_7
                exact tail3 T33 _ (X33.mono (by decide) (by decide)) N33 Z33 hk33 ob33 kb33 vb (own_sat (0 : Int64) aB) va (own_sat (0 : Int64) aA) vc (own_sat (0 : Int64) aC) (((((0 : Int64) + (1 : Int64)) + (1 : Int64)) + (1 : Int64)) + (1 : Int64)) c33_1 c33_2 c33_3 c33_4 c33_5 c33_6 g_ob33 c33_8 c33_9 (own_o_1_0_2 hJ28.1 hJ28.2.1 hJ28.2.2 (by have z0 := mt Int64.toInt_inj.mp hA; have z1 := Int64.lt_iff_toInt_lt.mp hB; have z2 := mt Int64.toInt_inj.mp hC; have z3 := mt Int64.toInt_inj.mp hD; have z4 := (not_congr Int64.lt_iff_toInt_lt).mp hE; have z5 := (not_congr Int64.lt_iff_toInt_lt).mp hF; rw [Int64.lt_iff_toInt_lt]; omega) (by have z0 := mt Int64.toInt_inj.mp hA; have z1 := Int64.lt_iff_toInt_lt.mp hB; have z2 := mt Int64.toInt_inj.mp hC; have z3 := mt Int64.toInt_inj.mp hD; have z4 := (not_congr Int64.lt_iff_toInt_lt).mp hE; have z5 := (not_congr Int64.lt_iff_toInt_lt).mp hF; rw [Int64.lt_iff_toInt_lt]; omega))
      · show own_FinW _ _ _ _ _ _ _ (T8.setTop (mkF m 74 #[jv va, sS, jv vb, sS, jv vc, sS, jv vd, sS, jv ve, sS, jv vf, sS, jv aA, sS, jv aB, sS, jv aC, sS, rv b1, rv b3, uS, uS, uS, uS] []))
        refine own_FinW.go (fun t k => XS.aload X8.here hx rfl (hb hby at_74) rfl rfl (XS.iconst X8.here hx rfl (hb hby at_76) (XS.lloadN X8.here hx rfl (hb hby at_77) rfl (XS.lload X8.here hx rfl (hb hby at_78) rfl k)))) ?_
        refine own_FinW.go (fun t k => XS.aload X8.here hx rfl (hb hby at_80) rfl rfl k) ?_
        show own_FinW _ _ _ _ _ _ _ (T8.setTop (mkF m 82 #[jv va, sS, jv vb, sS, jv vc, sS, jv vd, sS, jv ve, sS, jv vf, sS, jv aA, sS, jv aB, sS, jv aC, sS, rv b1, rv b3, uS, uS, uS, uS] [(.ref b1), (.long aB), (.long vb), (.int 1), (.ref b3)]))
        obtain ⟨cq34, kq34, q34a, q34b, q34c⟩ := isOf hZ rfl c8_1
        obtain ⟨_, _, ⟨T34, L34, k34, n34⟩, -, X34, ⟨Lc34, hQ34, l34, y34, z34⟩, st34⟩ := X8.virtualBack hx (y := own_y17) (z := own_y17) hown (mvT hZ (own_W hw 45 rfl)) (mvT hZ (own_W hw 46 rfl)) (notFace_of_selects (args := #[]) (mvT hZ (own_W hw 48 rfl))) (mvT hZ (own_W hw 48 rfl)) (mvT hZ (own_W hw 47 rfl)) (by decide) (backOf (W := 0) (own_rm_adC1n l Z a0 hw [] b3 vb aB b1 ob8 kb8 vd (own_sat (0 : Int64) (1 : Int64)) va (own_sat (0 : Int64) aA) (((0 : Int64) + (1 : Int64)) + (1 : Int64)) T8.heap n0 Z8 c8_1 c8_2 c8_3 c8_4 c8_5 c8_6 g_b3 g_ob8 g_b1 (Ne.symm ne_b1_b3) c8_8 c8_9 (by have z0 := mt Int64.toInt_inj.mp hA; have z1 := (not_congr Int64.lt_iff_toInt_lt).mp hB; rw [Int64.lt_iff_toInt_lt]; omega)) hZ (own_W hw 49 rfl) (own_W hw 17 rfl) (by decide) (by decide)) q34a q34c (g := (mkF m 82 #[jv va, sS, jv vb, sS, jv vc, sS, jv vd, sS, jv ve, sS, jv vf, sS, jv aA, sS, jv aB, sS, jv aC, sS, rv b1, rv b3, uS, uS, uS, uS] [(.ref b1), (.long aB), (.long vb), (.int 1), (.ref b3)])) rfl (by rw [hml]; rfl) (Steps.refl _) (argsL := [(.int 1), (.long vb), (.long aB), (.ref b1)]) (rest := []) (lenOf own_pd11 rfl) rfl (Nat.le_of_eq rfl) (hb hby at_82) (fun _ _ => ⟨rfl, rfl, (by decide : 7 + 1 ≤ _), (by decide : 25 + 8 ≤ _)⟩)
        dsimp only [Pt.U, Pt.locs, Pt.cells, Pt.slots] at X34 l34 y34 z34 st34 hQ34
        subst l34 y34 z34
        obtain ⟨ob34, kb34, rfl, N34q, K34q, c34_1, c34_2, c34_3, c34_4, c34_5, c34_6, c34_7, c34_8, c34_9⟩ := hQ34
        refine own_FinW.go (fun t k => st34.trans k) ?_
        have N34 := Fr.app N8 N34q
        have Z34 := Nat.le_trans Z8 K34q.1
        have hk34 := Nat.le_trans hk8 K34q.1
        have ne_b3_ob34 : b3 ≠ ob34 := Nat.ne_of_lt (Nat.lt_of_lt_of_le c8_3.lt c34_7)
        have ne_ob8_ob34 : ob8 ≠ ob34 := Nat.ne_of_lt (Nat.lt_of_lt_of_le c8_4.lt c34_7)
        have ne_b1_ob34 : b1 ≠ ob34 := Nat.ne_of_lt (Nat.lt_of_lt_of_le c8_6.lt c34_7)
        have g_ob34 : n0 ≤ ob34 := Nat.le_trans Z8 c34_7
        show own_FinW _ _ _ _ _ _ _ (T34.setTop (mkF m 85 #[jv va, sS, jv vb, sS, jv vc, sS, jv vd, sS, jv ve, sS, jv vf, sS, jv aA, sS, jv aB, sS, jv aC, sS, rv b1, rv b3, uS, uS, uS, uS] []))
        by_cases hC : va = vc
        · show own_FinW _ _ _ _ _ _ _ (T34.setTop (mkF m 85 #[jv va, sS, jv vb, sS, jv vc, sS, jv vd, sS, jv ve, sS, jv vf, sS, jv aA, sS, jv aB, sS, jv aC, sS, rv b1, rv b3, uS, uS, uS, uS] []))
          refine own_FinW.go (fun t k => XS.aload X34.here hx rfl (hb hby at_85) rfl rfl (XS.iconst X34.here hx rfl (hb hby at_87) (XS.lload X34.here hx rfl (hb hby at_88) rfl (XS.lload X34.here hx rfl (hb hby at_90) rfl k)))) ?_
          refine own_FinW.go (fun t k => XS.aload X34.here hx rfl (hb hby at_92) rfl rfl k) ?_
          show own_FinW _ _ _ _ _ _ _ (T34.setTop (mkF m 94 #[jv va, sS, jv vb, sS, jv vc, sS, jv vd, sS, jv ve, sS, jv vf, sS, jv aA, sS, jv aB, sS, jv aC, sS, rv b1, rv b3, uS, uS, uS, uS] [(.ref b1), (.long aC), (.long vc), (.int 1), (.ref b3)]))
          obtain ⟨cq35, kq35, q35a, q35b, q35c⟩ := isOf hZ rfl c34_1
          obtain ⟨_, _, ⟨T35, L35, k35, n35⟩, -, X35, ⟨Lc35, hQ35, l35, y35, z35⟩, st35⟩ := X34.virtualBack hx (y := own_y17) (z := own_y17) hown (mvT hZ (own_W hw 45 rfl)) (mvT hZ (own_W hw 46 rfl)) (notFace_of_selects (args := #[]) (mvT hZ (own_W hw 48 rfl))) (mvT hZ (own_W hw 48 rfl)) (mvT hZ (own_W hw 47 rfl)) (by decide) (backOf (W := 0) (own_rm_adD0e l Z a0 hw [] b3 vc aC b1 ob34 kb34 vd (own_sat (0 : Int64) (1 : Int64)) va (own_sat (0 : Int64) aA) vb (own_sat (0 : Int64) aB) ((((0 : Int64) + (1 : Int64)) + (1 : Int64)) + (1 : Int64)) T34.heap n0 Z34 c34_1 c34_2 c34_3 c34_4 c34_5 c34_6 g_b3 g_ob34 g_b1 (Ne.symm ne_b1_b3) c34_8 c34_9 (by have z0 := mt Int64.toInt_inj.mp hA; have z1 := (not_congr Int64.lt_iff_toInt_lt).mp hB; have z2 := congrArg Int64.toInt hC; rw [Int64.lt_iff_toInt_lt]; omega) (by have z0 := mt Int64.toInt_inj.mp hA; have z1 := (not_congr Int64.lt_iff_toInt_lt).mp hB; have z2 := congrArg Int64.toInt hC; rw [Int64.lt_iff_toInt_lt]; omega) (by have z0 := mt Int64.toInt_inj.mp hA; have z1 := (not_congr Int64.lt_iff_toInt_lt).mp hB; have z2 := congrArg Int64.toInt hC; apply Int64.toInt_inj.mp; omega)) hZ (own_W hw 49 rfl) (own_W hw 17 rfl) (by decide) (by decide)) q35a q35c (g := (mkF m 94 #[jv va, sS, jv vb, sS, jv vc, sS, jv vd, sS, jv ve, sS, jv vf, sS, jv aA, sS, jv aB, sS, jv aC, sS, rv b1, rv b3, uS, uS, uS, uS] [(.ref b1), (.long aC), (.long vc), (.int 1), (.ref b3)])) rfl (by rw [hml]; rfl) (Steps.refl _) (argsL := [(.int 1), (.long vc), (.long aC), (.ref b1)]) (rest := []) (lenOf own_pd11 rfl) rfl (Nat.le_of_eq rfl) (hb hby at_94) (fun _ _ => ⟨rfl, rfl, (by decide : 8 + 0 ≤ _), (by decide : 33 + 0 ≤ _)⟩)
          dsimp only [Pt.U, Pt.locs, Pt.cells, Pt.slots] at X35 l35 y35 z35 st35 hQ35
          subst l35 y35 z35
          obtain ⟨rfl, N35q, K35q, c35_1, c35_2, c35_3, c35_4, c35_5, c35_6⟩ := hQ35
          refine own_FinW.go (fun t k => st35.trans k) ?_
          have N35 := Fr.app N34 N35q
          have Z35 := Nat.le_trans Z34 K35q.1
          have hk35 := Nat.le_trans hk34 K35q.1
          exact tail2 T35 _ (X35.mono (by decide) (by decide)) N35 Z35 hk35 ob34 kb34 va (own_sat (own_sat (0 : Int64) aA) aC) vb (own_sat (0 : Int64) aB) ((((0 : Int64) + (1 : Int64)) + (1 : Int64)) + (1 : Int64)) c35_1 c35_2 c35_3 c35_4 c35_5 c35_6 g_ob34 c34_8 c34_9 (own_o_02_1 hJ28.1 hJ28.2.1 hJ28.2.2 (by have z0 := mt Int64.toInt_inj.mp hA; have z1 := (not_congr Int64.lt_iff_toInt_lt).mp hB; have z2 := congrArg Int64.toInt hC; apply Int64.toInt_inj.mp; omega) (by have z0 := mt Int64.toInt_inj.mp hA; have z1 := (not_congr Int64.lt_iff_toInt_lt).mp hB; have z2 := congrArg Int64.toInt hC; rw [Int64.lt_iff_toInt_lt]; omega))
        · by_cases hD : vb = vc
          · show own_FinW _ _ _ _ _ _ _ (T34.setTop (mkF m 85 #[jv va, sS, jv vb, sS, jv vc, sS, jv vd, sS, jv ve, sS, jv vf, sS, jv aA, sS, jv aB, sS, jv aC, sS, rv b1, rv b3, uS, uS, uS, uS] []))
            refine own_FinW.go (fun t k => XS.aload X34.here hx rfl (hb hby at_85) rfl rfl (XS.iconst X34.here hx rfl (hb hby at_87) (XS.lload X34.here hx rfl (hb hby at_88) rfl (XS.lload X34.here hx rfl (hb hby at_90) rfl k)))) ?_
            refine own_FinW.go (fun t k => XS.aload X34.here hx rfl (hb hby at_92) rfl rfl k) ?_
            show own_FinW _ _ _ _ _ _ _ (T34.setTop (mkF m 94 #[jv va, sS, jv vb, sS, jv vc, sS, jv vd, sS, jv ve, sS, jv vf, sS, jv aA, sS, jv aB, sS, jv aC, sS, rv b1, rv b3, uS, uS, uS, uS] [(.ref b1), (.long aC), (.long vc), (.int 1), (.ref b3)]))
            obtain ⟨cq36, kq36, q36a, q36b, q36c⟩ := isOf hZ rfl c34_1
            obtain ⟨_, _, ⟨T36, L36, k36, n36⟩, -, X36, ⟨Lc36, hQ36, l36, y36, z36⟩, st36⟩ := X34.virtualBack hx (y := own_y17) (z := own_y17) hown (mvT hZ (own_W hw 45 rfl)) (mvT hZ (own_W hw 46 rfl)) (notFace_of_selects (args := #[]) (mvT hZ (own_W hw 48 rfl))) (mvT hZ (own_W hw 48 rfl)) (mvT hZ (own_W hw 47 rfl)) (by decide) (backOf (W := 0) (own_rm_adD1e l Z a0 hw [] b3 vc aC b1 ob34 kb34 vd (own_sat (0 : Int64) (1 : Int64)) va (own_sat (0 : Int64) aA) vb (own_sat (0 : Int64) aB) ((((0 : Int64) + (1 : Int64)) + (1 : Int64)) + (1 : Int64)) T34.heap n0 Z34 c34_1 c34_2 c34_3 c34_4 c34_5 c34_6 g_b3 g_ob34 g_b1 (Ne.symm ne_b1_b3) c34_8 c34_9 (by have z0 := mt Int64.toInt_inj.mp hA; have z1 := (not_congr Int64.lt_iff_toInt_lt).mp hB; have z2 := mt Int64.toInt_inj.mp hC; have z3 := congrArg Int64.toInt hD; rw [Int64.lt_iff_toInt_lt]; omega) (by have z0 := mt Int64.toInt_inj.mp hA; have z1 := (not_congr Int64.lt_iff_toInt_lt).mp hB; have z2 := mt Int64.toInt_inj.mp hC; have z3 := congrArg Int64.toInt hD; rw [Int64.lt_iff_toInt_lt]; omega) (by have z0 := mt Int64.toInt_inj.mp hA; have z1 := (not_congr Int64.lt_iff_toInt_lt).mp hB; have z2 := mt Int64.toInt_inj.mp hC; have z3 := congrArg Int64.toInt hD; apply Int64.toInt_inj.mp; omega)) hZ (own_W hw 49 rfl) (own_W hw 17 rfl) (by decide) (by decide)) q36a q36c (g := (mkF m 94 #[jv va, sS, jv vb, sS, jv vc, sS, jv vd, sS, jv ve, sS, jv vf, sS, jv aA, sS, jv aB, sS, jv aC, sS, rv b1, rv b3, uS, uS, uS, uS] [(.ref b1), (.long aC), (.long vc), (.int 1), (.ref b3)])) rfl (by rw [hml]; rfl) (Steps.refl _) (argsL := [(.int 1), (.long vc), (.long aC), (.ref b1)]) (rest := []) (lenOf own_pd11 rfl) rfl (Nat.le_of_eq rfl) (hb hby at_94) (fun _ _ => ⟨rfl, rfl, (by decide : 8 + 0 ≤ _), (by decide : 33 + 0 ≤ _)⟩)
            dsimp only [Pt.U, Pt.locs, Pt.cells, Pt.slots] at X36 l36 y36 z36 st36 hQ36
            subst l36 y36 z36
            obtain ⟨rfl, N36q, K36q, c36_1, c36_2, c36_3, c36_4, c36_5, c36_6⟩ := hQ36
            refine own_FinW.go (fun t k => st36.trans k) ?_
            have N36 := Fr.app N34 N36q
            have Z36 := Nat.le_trans Z34 K36q.1
            have hk36 := Nat.le_trans hk34 K36q.1
            exact tail2 T36 _ (X36.mono (by decide) (by decide)) N36 Z36 hk36 ob34 kb34 va (own_sat (0 : Int64) aA) vb (own_sat (own_sat (0 : Int64) aB) aC) ((((0 : Int64) + (1 : Int64)) + (1 : Int64)) + (1 : Int64)) c36_1 c36_2 c36_3 c36_4 c36_5 c36_6 g_ob34 c34_8 c34_9 (own_o_0_12 hJ28.1 hJ28.2.1 hJ28.2.2 (by have z0 := mt Int64.toInt_inj.mp hA; have z1 := (not_congr Int64.lt_iff_toInt_lt).mp hB; have z2 := mt Int64.toInt_inj.mp hC; have z3 := congrArg Int64.toInt hD; apply Int64.toInt_inj.mp; omega) (by have z0 := mt Int64.toInt_inj.mp hA; have z1 := (not_congr Int64.lt_iff_toInt_lt).mp hB; have z2 := mt Int64.toInt_inj.mp hC; have z3 := congrArg Int64.toInt hD; rw [Int64.lt_iff_toInt_lt]; omega))
          · by_cases hE : vc < va
            · show own_FinW _ _ _ _ _ _ _ (T34.setTop (mkF m 85 #[jv va, sS, jv vb, sS, jv vc, sS, jv vd, sS, jv ve, sS, jv vf, sS, jv aA, sS, jv aB, sS, jv aC, sS, rv b1, rv b3, uS, uS, uS, uS] []))
              refine own_FinW.go (fun t k => XS.aload X34.here hx rfl (hb hby at_85) rfl rfl (XS.iconst X34.here hx rfl (hb hby at_87) (XS.lload X34.here hx rfl (hb hby at_88) rfl (XS.lload X34.here hx rfl (hb hby at_90) rfl k)))) ?_
              refine own_FinW.go (fun t k => XS.aload X34.here hx rfl (hb hby at_92) rfl rfl k) ?_
              show own_FinW _ _ _ _ _ _ _ (T34.setTop (mkF m 94 #[jv va, sS, jv vb, sS, jv vc, sS, jv vd, sS, jv ve, sS, jv vf, sS, jv aA, sS, jv aB, sS, jv aC, sS, rv b1, rv b3, uS, uS, uS, uS] [(.ref b1), (.long aC), (.long vc), (.int 1), (.ref b3)]))
              obtain ⟨cq37, kq37, q37a, q37b, q37c⟩ := isOf hZ rfl c34_1
              obtain ⟨_, _, ⟨T37, L37, k37, n37⟩, -, X37, ⟨Lc37, hQ37, l37, y37, z37⟩, st37⟩ := X34.virtualBack hx (y := own_y17) (z := own_y17) hown (mvT hZ (own_W hw 45 rfl)) (mvT hZ (own_W hw 46 rfl)) (notFace_of_selects (args := #[]) (mvT hZ (own_W hw 48 rfl))) (mvT hZ (own_W hw 48 rfl)) (mvT hZ (own_W hw 47 rfl)) (by decide) (backOf (W := 0) (own_rm_adD0n l Z a0 hw [] b3 vc aC b1 ob34 kb34 vd (own_sat (0 : Int64) (1 : Int64)) va (own_sat (0 : Int64) aA) vb (own_sat (0 : Int64) aB) ((((0 : Int64) + (1 : Int64)) + (1 : Int64)) + (1 : Int64)) T34.heap n0 Z34 c34_1 c34_2 c34_3 c34_4 c34_5 c34_6 g_b3 g_ob34 g_b1 (Ne.symm ne_b1_b3) c34_8 c34_9 (by have z0 := mt Int64.toInt_inj.mp hA; have z1 := (not_congr Int64.lt_iff_toInt_lt).mp hB; have z2 := mt Int64.toInt_inj.mp hC; have z3 := mt Int64.toInt_inj.mp hD; have z4 := Int64.lt_iff_toInt_lt.mp hE; rw [Int64.lt_iff_toInt_lt]; omega) (by have z0 := mt Int64.toInt_inj.mp hA; have z1 := (not_congr Int64.lt_iff_toInt_lt).mp hB; have z2 := mt Int64.toInt_inj.mp hC; have z3 := mt Int64.toInt_inj.mp hD; have z4 := Int64.lt_iff_toInt_lt.mp hE; rw [Int64.lt_iff_toInt_lt]; omega) (by have z0 := mt Int64.toInt_inj.mp hA; have z1 := (not_congr Int64.lt_iff_toInt_lt).mp hB; have z2 := mt Int64.toInt_inj.mp hC; have z3 := mt Int64.toInt_inj.mp hD; have z4 := Int64.lt_iff_toInt_lt.mp hE; rw [← Int64.toInt_inj]; omega)) hZ (own_W hw 49 rfl) (own_W hw 17 rfl) (by decide) (by decide)) q37a q37c (g := (mkF m 94 #[jv va, sS, jv vb, sS, jv vc, sS, jv vd, sS, jv ve, sS, jv vf, sS, jv aA, sS, jv aB, sS, jv aC, sS, rv b1, rv b3, uS, uS, uS, uS] [(.ref b1), (.long aC), (.long vc), (.int 1), (.ref b3)])) rfl (by rw [hml]; rfl) (Steps.refl _) (argsL := [(.int 1), (.long vc), (.long aC), (.ref b1)]) (rest := []) (lenOf own_pd11 rfl) rfl (Nat.le_of_eq rfl) (hb hby at_94) (fun _ _ => ⟨rfl, rfl, (by decide : 8 + 1 ≤ _), (by decide : 33 + 10 ≤ _)⟩)
              dsimp only [Pt.U, Pt.locs, Pt.cells, Pt.slots] at X37 l37 y37 z37 st37 hQ37
              subst l37 y37 z37
              obtain ⟨ob37, kb37, rfl, N37q, K37q, c37_1, c37_2, c37_3, c37_4, c37_5, c37_6, c37_7, c37_8, c37_9⟩ := hQ37
              refine own_FinW.go (fun t k => st37.trans k) ?_
              have N37 := Fr.app N34 N37q
              have Z37 := Nat.le_trans Z34 K37q.1
              have hk37 := Nat.le_trans hk34 K37q.1
              have ne_b3_ob37 : b3 ≠ ob37 := Nat.ne_of_lt (Nat.lt_of_lt_of_le c34_3.lt c37_7)
              have ne_ob34_ob37 : ob34 ≠ ob37 := Nat.ne_of_lt (Nat.lt_of_lt_of_le c34_4.lt c37_7)
              have ne_b1_ob37 : b1 ≠ ob37 := Nat.ne_of_lt (Nat.lt_of_lt_of_le c34_6.lt c37_7)
              have g_ob37 : n0 ≤ ob37 := Nat.le_trans Z34 c37_7
              exact tail3 T37 _ (X37.mono (by decide) (by decide)) N37 Z37 hk37 ob37 kb37 vc (own_sat (0 : Int64) aC) va (own_sat (0 : Int64) aA) vb (own_sat (0 : Int64) aB) (((((0 : Int64) + (1 : Int64)) + (1 : Int64)) + (1 : Int64)) + (1 : Int64)) c37_1 c37_2 c37_3 c37_4 c37_5 c37_6 g_ob37 c37_8 c37_9 (own_o_2_0_1 hJ28.1 hJ28.2.1 hJ28.2.2 (by have z0 := mt Int64.toInt_inj.mp hA; have z1 := (not_congr Int64.lt_iff_toInt_lt).mp hB; have z2 := mt Int64.toInt_inj.mp hC; have z3 := mt Int64.toInt_inj.mp hD; have z4 := Int64.lt_iff_toInt_lt.mp hE; rw [Int64.lt_iff_toInt_lt]; omega) (by have z0 := mt Int64.toInt_inj.mp hA; have z1 := (not_congr Int64.lt_iff_toInt_lt).mp hB; have z2 := mt Int64.toInt_inj.mp hC; have z3 := mt Int64.toInt_inj.mp hD; have z4 := Int64.lt_iff_toInt_lt.mp hE; rw [Int64.lt_iff_toInt_lt]; omega))
            · by_cases hF : vc < vb
              · show own_FinW _ _ _ _ _ _ _ (T34.setTop (mkF m 85 #[jv va, sS, jv vb, sS, jv vc, sS, jv vd, sS, jv ve, sS, jv vf, sS, jv aA, sS, jv aB, sS, jv aC, sS, rv b1, rv b3, uS, uS, uS, uS] []))
                refine own_FinW.go (fun t k => XS.aload X34.here hx rfl (hb hby at_85) rfl rfl (XS.iconst X34.here hx rfl (hb hby at_87) (XS.lload X34.here hx rfl (hb hby at_88) rfl (XS.lload X34.here hx rfl (hb hby at_90) rfl k)))) ?_
                refine own_FinW.go (fun t k => XS.aload X34.here hx rfl (hb hby at_92) rfl rfl k) ?_
                show own_FinW _ _ _ _ _ _ _ (T34.setTop (mkF m 94 #[jv va, sS, jv vb, sS, jv vc, sS, jv vd, sS, jv ve, sS, jv vf, sS, jv aA, sS, jv aB, sS, jv aC, sS, rv b1, rv b3, uS, uS, uS, uS] [(.ref b1), (.long aC), (.long vc), (.int 1), (.ref b3)]))
                obtain ⟨cq38, kq38, q38a, q38b, q38c⟩ := isOf hZ rfl c34_1
                obtain ⟨_, _, ⟨T38, L38, k38, n38⟩, -, X38, ⟨Lc38, hQ38, l38, y38, z38⟩, st38⟩ := X34.virtualBack hx (y := own_y17) (z := own_y17) hown (mvT hZ (own_W hw 45 rfl)) (mvT hZ (own_W hw 46 rfl)) (notFace_of_selects (args := #[]) (mvT hZ (own_W hw 48 rfl))) (mvT hZ (own_W hw 48 rfl)) (mvT hZ (own_W hw 47 rfl)) (by decide) (backOf (W := 0) (own_rm_adD1n l Z a0 hw [] b3 vc aC b1 ob34 kb34 vd (own_sat (0 : Int64) (1 : Int64)) va (own_sat (0 : Int64) aA) vb (own_sat (0 : Int64) aB) ((((0 : Int64) + (1 : Int64)) + (1 : Int64)) + (1 : Int64)) T34.heap n0 Z34 c34_1 c34_2 c34_3 c34_4 c34_5 c34_6 g_b3 g_ob34 g_b1 (Ne.symm ne_b1_b3) c34_8 c34_9 (by have z0 := mt Int64.toInt_inj.mp hA; have z1 := (not_congr Int64.lt_iff_toInt_lt).mp hB; have z2 := mt Int64.toInt_inj.mp hC; have z3 := mt Int64.toInt_inj.mp hD; have z4 := (not_congr Int64.lt_iff_toInt_lt).mp hE; have z5 := Int64.lt_iff_toInt_lt.mp hF; rw [Int64.lt_iff_toInt_lt]; omega) (by have z0 := mt Int64.toInt_inj.mp hA; have z1 := (not_congr Int64.lt_iff_toInt_lt).mp hB; have z2 := mt Int64.toInt_inj.mp hC; have z3 := mt Int64.toInt_inj.mp hD; have z4 := (not_congr Int64.lt_iff_toInt_lt).mp hE; have z5 := Int64.lt_iff_toInt_lt.mp hF; rw [Int64.lt_iff_toInt_lt]; omega) (by have z0 := mt Int64.toInt_inj.mp hA; have z1 := (not_congr Int64.lt_iff_toInt_lt).mp hB; have z2 := mt Int64.toInt_inj.mp hC; have z3 := mt Int64.toInt_inj.mp hD; have z4 := (not_congr Int64.lt_iff_toInt_lt).mp hE; have z5 := Int64.lt_iff_toInt_lt.mp hF; rw [← Int64.toInt_inj]; omega)) hZ (own_W hw 49 rfl) (own_W hw 17 rfl) (by decide) (by decide)) q38a q38c (g := (mkF m 94 #[jv va, sS, jv vb, sS, jv vc, sS, jv vd, sS, jv ve, sS, jv vf, sS, jv aA, sS, jv aB, sS, jv aC, sS, rv b1, rv b3, uS, uS, uS, uS] [(.ref b1), (.long aC), (.long vc), (.int 1), (.ref b3)])) rfl (by rw [hml]; rfl) (Steps.refl _) (argsL := [(.int 1), (.long vc), (.long aC), (.ref b1)]) (rest := []) (lenOf own_pd11 rfl) rfl (Nat.le_of_eq rfl) (hb hby at_94) (fun _ _ => ⟨rfl, rfl, (by decide : 8 + 1 ≤ _), (by decide : 33 + 10 ≤ _)⟩)
                dsimp only [Pt.U, Pt.locs, Pt.cells, Pt.slots] at X38 l38 y38 z38 st38 hQ38
                subst l38 y38 z38
                obtain ⟨ob38, kb38, rfl, N38q, K38q, c38_1, c38_2, c38_3, c38_4, c38_5, c38_6, c38_7, c38_8, c38_9⟩ := hQ38
                refine own_FinW.go (fun t k => st38.trans k) ?_
                have N38 := Fr.app N34 N38q
                have Z38 := Nat.le_trans Z34 K38q.1
                have hk38 := Nat.le_trans hk34 K38q.1
                have ne_b3_ob38 : b3 ≠ ob38 := Nat.ne_of_lt (Nat.lt_of_lt_of_le c34_3.lt c38_7)
                have ne_ob34_ob38 : ob34 ≠ ob38 := Nat.ne_of_lt (Nat.lt_of_lt_of_le c34_4.lt c38_7)
                have ne_b1_ob38 : b1 ≠ ob38 := Nat.ne_of_lt (Nat.lt_of_lt_of_le c34_6.lt c38_7)
                have g_ob38 : n0 ≤ ob38 := Nat.le_trans Z34 c38_7
                exact tail3 T38 _ (X38.mono (by decide) (by decide)) N38 Z38 hk38 ob38 kb38 va (own_sat (0 : Int64) aA) vc (own_sat (0 : Int64) aC) vb (own_sat (0 : Int64) aB) (((((0 : Int64) + (1 : Int64)) + (1 : Int64)) + (1 : Int64)) + (1 : Int64)) c38_1 c38_2 c38_3 c38_4 c38_5 c38_6 g_ob38 c38_8 c38_9 (own_o_0_2_1 hJ28.1 hJ28.2.1 hJ28.2.2 (by have z0 := mt Int64.toInt_inj.mp hA; have z1 := (not_congr Int64.lt_iff_toInt_lt).mp hB; have z2 := mt Int64.toInt_inj.mp hC; have z3 := mt Int64.toInt_inj.mp hD; have z4 := (not_congr Int64.lt_iff_toInt_lt).mp hE; have z5 := Int64.lt_iff_toInt_lt.mp hF; rw [Int64.lt_iff_toInt_lt]; omega) (by have z0 := mt Int64.toInt_inj.mp hA; have z1 := (not_congr Int64.lt_iff_toInt_lt).mp hB; have z2 := mt Int64.toInt_inj.mp hC; have z3 := mt Int64.toInt_inj.mp hD; have z4 := (not_congr Int64.lt_iff_toInt_lt).mp hE; have z5 := Int64.lt_iff_toInt_lt.mp hF; rw [Int64.lt_iff_toInt_lt]; omega))
              · show own_FinW _ _ _ _ _ _ _ (T34.setTop (mkF m 85 #[jv va, sS, jv vb, sS, jv vc, sS, jv vd, sS, jv ve, sS, jv vf, sS, jv aA, sS, jv aB, sS, jv aC, sS, rv b1, rv b3, uS, uS, uS, uS] []))
                refine own_FinW.go (fun t k => XS.aload X34.here hx rfl (hb hby at_85) rfl rfl (XS.iconst X34.here hx rfl (hb hby at_87) (XS.lload X34.here hx rfl (hb hby at_88) rfl (XS.lload X34.here hx rfl (hb hby at_90) rfl k)))) ?_
                refine own_FinW.go (fun t k => XS.aload X34.here hx rfl (hb hby at_92) rfl rfl k) ?_
                show own_FinW _ _ _ _ _ _ _ (T34.setTop (mkF m 94 #[jv va, sS, jv vb, sS, jv vc, sS, jv vd, sS, jv ve, sS, jv vf, sS, jv aA, sS, jv aB, sS, jv aC, sS, rv b1, rv b3, uS, uS, uS, uS] [(.ref b1), (.long aC), (.long vc), (.int 1), (.ref b3)]))
                obtain ⟨cq39, kq39, q39a, q39b, q39c⟩ := isOf hZ rfl c34_1
                obtain ⟨_, _, ⟨T39, L39, k39, n39⟩, -, X39, ⟨Lc39, hQ39, l39, y39, z39⟩, st39⟩ := X34.virtualBack hx (y := own_y17) (z := own_y17) hown (mvT hZ (own_W hw 45 rfl)) (mvT hZ (own_W hw 46 rfl)) (notFace_of_selects (args := #[]) (mvT hZ (own_W hw 48 rfl))) (mvT hZ (own_W hw 48 rfl)) (mvT hZ (own_W hw 47 rfl)) (by decide) (backOf (W := 0) (own_rm_adD2n l Z a0 hw [] b3 vc aC b1 ob34 kb34 vd (own_sat (0 : Int64) (1 : Int64)) va (own_sat (0 : Int64) aA) vb (own_sat (0 : Int64) aB) ((((0 : Int64) + (1 : Int64)) + (1 : Int64)) + (1 : Int64)) T34.heap n0 Z34 c34_1 c34_2 c34_3 c34_4 c34_5 c34_6 g_b3 g_ob34 g_b1 (Ne.symm ne_b1_b3) c34_8 c34_9 (by have z0 := mt Int64.toInt_inj.mp hA; have z1 := (not_congr Int64.lt_iff_toInt_lt).mp hB; have z2 := mt Int64.toInt_inj.mp hC; have z3 := mt Int64.toInt_inj.mp hD; have z4 := (not_congr Int64.lt_iff_toInt_lt).mp hE; have z5 := (not_congr Int64.lt_iff_toInt_lt).mp hF; rw [Int64.lt_iff_toInt_lt]; omega)) hZ (own_W hw 49 rfl) (own_W hw 17 rfl) (by decide) (by decide)) q39a q39c (g := (mkF m 94 #[jv va, sS, jv vb, sS, jv vc, sS, jv vd, sS, jv ve, sS, jv vf, sS, jv aA, sS, jv aB, sS, jv aC, sS, rv b1, rv b3, uS, uS, uS, uS] [(.ref b1), (.long aC), (.long vc), (.int 1), (.ref b3)])) rfl (by rw [hml]; rfl) (Steps.refl _) (argsL := [(.int 1), (.long vc), (.long aC), (.ref b1)]) (rest := []) (lenOf own_pd11 rfl) rfl (Nat.le_of_eq rfl) (hb hby at_94) (fun _ _ => ⟨rfl, rfl, (by decide : 8 + 1 ≤ _), (by decide : 33 + 10 ≤ _)⟩)
                dsimp only [Pt.U, Pt.locs, Pt.cells, Pt.slots] at X39 l39 y39 z39 st39 hQ39
                subst l39 y39 z39
                obtain ⟨ob39, kb39, rfl, N39q, K39q, c39_1, c39_2, c39_3, c39_4, c39_5, c39_6, c39_7, c39_8, c39_9⟩ := hQ39
                refine own_FinW.go (fun t k => st39.trans k) ?_
                have N39 := Fr.app N34 N39q
                have Z39 := Nat.le_trans Z34 K39q.1
                have hk39 := Nat.le_trans hk34 K39q.1
                have ne_b3_ob39 : b3 ≠ ob39 := Nat.ne_of_lt (Nat.lt_of_lt_of_le c34_3.lt c39_7)
                have ne_ob34_ob39 : ob34 ≠ ob39 := Nat.ne_of_lt (Nat.lt_of_lt_of_le c34_4.lt c39_7)
                have ne_b1_ob39 : b1 ≠ ob39 := Nat.ne_of_lt (Nat.lt_of_lt_of_le c34_6.lt c39_7)
                have g_ob39 : n0 ≤ ob39 := Nat.le_trans Z34 c39_7
                exact tail3 T39 _ (X39.mono (by decide) (by decide)) N39 Z39 hk39 ob39 kb39 va (own_sat (0 : Int64) aA) vb (own_sat (0 : Int64) aB) vc (own_sat (0 : Int64) aC) (((((0 : Int64) + (1 : Int64)) + (1 : Int64)) + (1 : Int64)) + (1 : Int64)) c39_1 c39_2 c39_3 c39_4 c39_5 c39_6 g_ob39 c39_8 c39_9 (own_o_0_1_2 hJ28.1 hJ28.2.1 hJ28.2.2 (by have z0 := mt Int64.toInt_inj.mp hA; have z1 := (not_congr Int64.lt_iff_toInt_lt).mp hB; have z2 := mt Int64.toInt_inj.mp hC; have z3 := mt Int64.toInt_inj.mp hD; have z4 := (not_congr Int64.lt_iff_toInt_lt).mp hE; have z5 := (not_congr Int64.lt_iff_toInt_lt).mp hF; rw [Int64.lt_iff_toInt_lt]; omega) (by have z0 := mt Int64.toInt_inj.mp hA; have z1 := (not_congr Int64.lt_iff_toInt_lt).mp hB; have z2 := mt Int64.toInt_inj.mp hC; have z3 := mt Int64.toInt_inj.mp hD; have z4 := (not_congr Int64.lt_iff_toInt_lt).mp hE; have z5 := (not_congr Int64.lt_iff_toInt_lt).mp hF; rw [Int64.lt_iff_toInt_lt]; omega))
  refine own_FinW.go (fun t k => XS.lload X0.here hx rfl (hb hby at_0) rfl k) ?_
  obtain ⟨_, _, ⟨T40, L40, k40, n40⟩, -, X40, ⟨Lc40, hQ40, l40, y40, z40⟩, st40⟩ := Jvm.LawKit.callS X0 hx (y := own_y11) hown (mvT hZ (own_W hw 0 rfl)) (mvT hZ (own_W hw 1 rfl)) (mvT hZ (own_W hw 2 rfl)) (mvT hZ (own_W hw 3 rfl)) (by decide) (backOf (W := 0) (own_rm_pos l Z a0 hw [] vf  h0 n0 Z0 ) hZ (own_W hw 3 rfl) (own_W hw 2 rfl) (by decide) (by decide)) (g := (mkF m 2 #[jv va, sS, jv vb, sS, jv vc, sS, jv vd, sS, jv ve, sS, jv vf, sS, uS, uS, uS, uS, uS, uS, uS, uS, uS, uS, uS, uS] [(.long vf)])) rfl (by rw [hml]; rfl) (argsL := [(.long vf)]) (rest := []) (lenOf own_pd13 rfl) rfl (Nat.le_of_eq rfl) (hb hby at_2) (fun _ _ => ⟨rfl, e0, (by decide : 0 + 0 ≤ _), (by decide : 0 + 0 ≤ _)⟩)
  dsimp only [Pt.U, Pt.locs, Pt.cells, Pt.slots] at X40 l40 y40 z40 st40 hQ40
  subst l40 y40 z40
  obtain ⟨rfl, N40q, e40⟩ := hQ40
  refine own_FinW.go (fun t k => st40 t k) ?_
  have N40 := Fr.app N0 N40q
  show own_FinW _ _ _ _ _ _ _ (T40.setTop (mkF m 5 #[jv va, sS, jv vb, sS, jv vc, sS, jv vd, sS, jv ve, sS, jv vf, sS, uS, uS, uS, uS, uS, uS, uS, uS, uS, uS, uS, uS] [(.long (own_pos vf))]))
  refine own_FinW.go (fun t k => XS.lstore X40.here hx rfl (hb hby at_5) rfl (l' := #[jv va, sS, jv vb, sS, jv vc, sS, jv vd, sS, jv ve, sS, jv vf, sS, .val (.long (own_pos vf)), sS, uS, uS, uS, uS, uS, uS, uS, uS, uS, uS]) rfl (XS.lload X40.here hx rfl (hb hby at_7) rfl (XS.bipush X40.here hx rfl (hb hby at_9) (XS.lushr X40.here hx rfl (hb hby at_11) rfl k)))) ?_
  obtain ⟨_, _, ⟨T41, L41, k41, n41⟩, -, X41, ⟨Lc41, hQ41, l41, y41, z41⟩, st41⟩ := Jvm.LawKit.callS X40 hx (y := own_y11) hown (mvT hZ (own_W hw 0 rfl)) (mvT hZ (own_W hw 1 rfl)) (mvT hZ (own_W hw 2 rfl)) (mvT hZ (own_W hw 3 rfl)) (by decide) (backOf (W := 0) (own_rm_pos l Z a0 hw [] ((vf.toUInt64 >>> ((33 : Int32) &&& 0x3f).toInt64.toUInt64).toInt64)  h0 n0 Z0 ) hZ (own_W hw 3 rfl) (own_W hw 2 rfl) (by decide) (by decide)) (g := (mkF m 12 #[jv va, sS, jv vb, sS, jv vc, sS, jv vd, sS, jv ve, sS, jv vf, sS, .val (.long (own_pos vf)), sS, uS, uS, uS, uS, uS, uS, uS, uS, uS, uS] [(.long ((vf.toUInt64 >>> ((33 : Int32) &&& 0x3f).toInt64.toUInt64).toInt64))])) rfl (by rw [hml]; rfl) (argsL := [(.long ((vf.toUInt64 >>> ((33 : Int32) &&& 0x3f).toInt64.toUInt64).toInt64))]) (rest := []) (lenOf own_pd13 rfl) rfl (Nat.le_of_eq rfl) (hb hby at_12) (fun _ _ => ⟨rfl, e40, (by decide : 0 + 0 ≤ _), (by decide : 0 + 0 ≤ _)⟩)
  dsimp only [Pt.U, Pt.locs, Pt.cells, Pt.slots] at X41 l41 y41 z41 st41 hQ41
  subst l41 y41 z41
  obtain ⟨rfl, N41q, e41⟩ := hQ41
  refine own_FinW.go (fun t k => st41 t k) ?_
  have N41 := Fr.app N40 N41q
  show own_FinW _ _ _ _ _ _ _ (T41.setTop (mkF m 15 #[jv va, sS, jv vb, sS, jv vc, sS, jv vd, sS, jv ve, sS, jv vf, sS, .val (.long (own_pos vf)), sS, uS, uS, uS, uS, uS, uS, uS, uS, uS, uS] [(.long (own_pos ((vf.toUInt64 >>> ((33 : Int32) &&& 0x3f).toInt64.toUInt64).toInt64)))]))
  refine own_FinW.go (fun t k => XS.lstore X41.here hx rfl (hb hby at_15) rfl (l' := #[jv va, sS, jv vb, sS, jv vc, sS, jv vd, sS, jv ve, sS, jv vf, sS, .val (.long (own_pos vf)), sS, .val (.long (own_pos ((vf.toUInt64 >>> ((33 : Int32) &&& 0x3f).toInt64.toUInt64).toInt64))), sS, uS, uS, uS, uS, uS, uS, uS, uS]) rfl (XS.lload X41.here hx rfl (hb hby at_17) rfl k)) ?_
  refine own_FinW.go (fun t k => X41.ldc2Long hx hown (mvT hZ (own_W hw 5 rfl)) (g := (mkF m 19 #[jv va, sS, jv vb, sS, jv vc, sS, jv vd, sS, jv ve, sS, jv vf, sS, .val (.long (own_pos vf)), sS, .val (.long (own_pos ((vf.toUInt64 >>> ((33 : Int32) &&& 0x3f).toInt64.toUInt64).toInt64))), sS, uS, uS, uS, uS, uS, uS, uS, uS] [(.long vf)])) rfl (hb hby at_19) t k) ?_
  refine own_FinW.go (fun t k => XS.lxor X41.here hx rfl (hb hby at_22) rfl k) ?_
  obtain ⟨_, _, ⟨T42, L42, k42, n42⟩, -, X42, ⟨Lc42, hQ42, l42, y42, z42⟩, st42⟩ := Jvm.LawKit.callS X41 hx (y := own_y11) hown (mvT hZ (own_W hw 0 rfl)) (mvT hZ (own_W hw 1 rfl)) (mvT hZ (own_W hw 2 rfl)) (mvT hZ (own_W hw 3 rfl)) (by decide) (backOf (W := 0) (own_rm_pos l Z a0 hw [] (vf ^^^ (-1 : Int64))  h0 n0 Z0 ) hZ (own_W hw 3 rfl) (own_W hw 2 rfl) (by decide) (by decide)) (g := (mkF m 23 #[jv va, sS, jv vb, sS, jv vc, sS, jv vd, sS, jv ve, sS, jv vf, sS, .val (.long (own_pos vf)), sS, .val (.long (own_pos ((vf.toUInt64 >>> ((33 : Int32) &&& 0x3f).toInt64.toUInt64).toInt64))), sS, uS, uS, uS, uS, uS, uS, uS, uS] [(.long (vf ^^^ (-1 : Int64)))])) rfl (by rw [hml]; rfl) (argsL := [(.long (vf ^^^ (-1 : Int64)))]) (rest := []) (lenOf own_pd13 rfl) rfl (Nat.le_of_eq rfl) (hb hby at_23) (fun _ _ => ⟨rfl, e41, (by decide : 0 + 0 ≤ _), (by decide : 0 + 0 ≤ _)⟩)
  dsimp only [Pt.U, Pt.locs, Pt.cells, Pt.slots] at X42 l42 y42 z42 st42 hQ42
  subst l42 y42 z42
  obtain ⟨rfl, N42q, e42⟩ := hQ42
  refine own_FinW.go (fun t k => st42 t k) ?_
  have N42 := Fr.app N41 N42q
  show own_FinW _ _ _ _ _ _ _ (T42.setTop (mkF m 26 #[jv va, sS, jv vb, sS, jv vc, sS, jv vd, sS, jv ve, sS, jv vf, sS, .val (.long (own_pos vf)), sS, .val (.long (own_pos ((vf.toUInt64 >>> ((33 : Int32) &&& 0x3f).toInt64.toUInt64).toInt64))), sS, uS, uS, uS, uS, uS, uS, uS, uS] [(.long (own_pos (vf ^^^ (-1 : Int64))))]))
  refine own_FinW.go (fun t k => XS.lstore X42.here hx rfl (hb hby at_26) rfl (l' := #[jv va, sS, jv vb, sS, jv vc, sS, jv vd, sS, jv ve, sS, jv vf, sS, .val (.long (own_pos vf)), sS, .val (.long (own_pos ((vf.toUInt64 >>> ((33 : Int32) &&& 0x3f).toInt64.toUInt64).toInt64))), sS, .val (.long (own_pos (vf ^^^ (-1 : Int64)))), sS, uS, uS, uS, uS, uS, uS]) rfl k) ?_
  exact J28 T42 _ X42 N42 e42 (own_pos vf) (own_pos ((vf.toUInt64 >>> ((33 : Int32) &&& 0x3f).toInt64.toUInt64).toInt64)) (own_pos (vf ^^^ (-1 : Int64))) (by exact ⟨own_posI _, own_posI _, own_posI _⟩)
set_option maxRecDepth 65536 in
set_option maxHeartbeats 40000000 in
theorem comes_1 {Post : Tables → Env → Array Value → State → Outcome → State → Prop} (hpost : ∀ tb e args s v u, (limb_1_1.after args s (.returned v) u = true ∧ limb_1_2.after args s (.returned v) u = true ∧ True) → FramedW s (.returned v) u (Jvm.fieldLocs frame_1_writes args s ++ Jvm.arrayLocs frame_1_arrays args s ++ Jvm.staticLocs frame_1_statics s) 32 1216 → Post tb e args s (.returned v) u) :
    ArmFor flags0 classFile x code maxLocals ret World_1 tables_1 room_1 Calls_1 rest_1 Pre_1 Post := by
  intro l hfl _ _ p e ha hc hk s m args below hf hA hF happ hP
  obtain ⟨hcalls, hrest, hpre⟩ := hP
  obtain ⟨-, -, -, hnamed, -, -, -, hat⟩ := (Spec.applies_iff hf).mp happ
  obtain ⟨hg, hn⟩ := and_e (Cond.before_iff.mp (show (Jvm.Cond.and given_1 narrow_1).before args s = true from hpre))
  obtain ⟨hg0, hr0⟩ := and_e hg
  obtain ⟨hg1, hr1⟩ := and_e hr0
  obtain ⟨hg2, hr2⟩ := and_e hr1
  obtain ⟨hg3, hr3⟩ := and_e hr2
  obtain ⟨hg4, hr4⟩ := and_e hr3
  obtain ⟨hg5, hr5⟩ := and_e hr4
  obtain ⟨w0, w1, w2, w3, w4, w5, rfl⟩ : ∃ w0 w1 w2 w3 w4 w5 : Value, args = #[w0, w1, w2, w3, w4, w5] := by
    have hs : args.size = 6 := by simpa [Cond.value, given_1] using hg0
    obtain ⟨L⟩ := args
    match L, hs with
    | [w0, w1, w2, w3, w4, w5], _ => exact ⟨w0, w1, w2, w3, w4, w5, rfl⟩
  have hw := fun d (hd : d ∈ tables_1) => atoms_spec (ws := Jvm.Cond.code x code maxLocals ret :: tables_1) hat d (List.mem_cons_of_mem _ hd)
  have hfit : Fit s := fun {y c} hc i hi => by
    obtain ⟨ha, rfl⟩ := Array.getElem?_eq_some_iff.mp hc
    have q := List.all_eq_true.mp ((Array.all_eq_true_iff_forall_mem.mp hF) _ (Array.getElem_mem ha)) i (List.mem_range.mpr hi)
    simpa [Array.getElem?_eq_getElem hi] using q
  obtain ⟨i0, ei0⟩ := isL_v hg1
  obtain rfl : w0 = (.long i0) := Option.some.inj ei0
  obtain ⟨i1, ei1⟩ := isL_v hg2
  obtain rfl : w1 = (.long i1) := Option.some.inj ei1
  obtain ⟨i2, ei2⟩ := isL_v hg3
  obtain rfl : w2 = (.long i2) := Option.some.inj ei2
  obtain ⟨i3, ei3⟩ := isL_v hg4
  obtain rfl : w3 = (.long i3) := Option.some.inj ei3
  obtain ⟨i4, ei4⟩ := isL_v hg5
  obtain rfl : w4 = (.long i4) := Option.some.inj ei4
  obtain ⟨i5, ei5⟩ := isL_v hr5
  obtain rfl : w5 = (.long i5) := Option.some.inj ei5
  obtain ⟨hn0, hm0⟩ := and_e hn
  obtain ⟨hn1, hm1⟩ := and_e hm0
  obtain ⟨hn2, hm2⟩ := and_e hm1
  obtain ⟨oADD, evADD⟩ := exa_v hn0
  have E_oADD := Exa.start evADD hn0
  have S_ADD := Sta.start evADD (Or.inr ⟨(own_W hw 27 rfl), (own_W hw 28 rfl)⟩)
  obtain ⟨oUNIQUE, evUNIQUE⟩ := exa_v hn1
  have E_oUNIQUE := Exa.start evUNIQUE hn1
  have S_UNIQUE := Sta.start evUNIQUE (Or.inr ⟨(own_W hw 27 rfl), (own_W hw 42 rfl)⟩)
  have F_oADD_ordinal := Fld.start (own_fld evADD (own_eqInt hn2))
  have F_oUNIQUE_ordinal := Fld.start (own_fld evUNIQUE (own_eqInt hm2))
  have ne_au : oADD ≠ oUNIQUE := Fld.ne F_oADD_ordinal F_oUNIQUE_ordinal (by intro q; exact absurd (Value.int.inj q) (by decide))
  obtain ⟨n, o, h1, h2, h3, _, L, rfl, ⟨rfl, N⟩, hq⟩ := own_rm_law l s _ hw tables_1 i0 i1 i2 i3 i4 i5 oADD oUNIQUE s.heap s.heap.size (Nat.le_refl _) S_ADD S_UNIQUE ne_au p e ha hc hk s m _ below hf ((Spec.applies_iff_loose hf).mp happ).1 ⟨rfl, State.Warmed39.refl s, rfl, rfl, rfl, rfl⟩ trivial
  refine ⟨n, _, h1, h2, h3, hpost _ _ _ _ _ _ ⟨Cond.after_iff.mpr rfl, Cond.after_iff.mpr (eq_i res_at (Term.int_eval (1)) rfl), trivial⟩ ⟨hq.1, hq.2.1, hq.2.2.1, (hq.2.2.2.sift fun y hy => Or.inr (N y hy)).mono (by decide) (by decide)⟩⟩
theorem main_1_1 : Claimed_1_1 := comes_1 fun _ _ _ _ _ _ h hF => ⟨h.1, hF⟩
theorem main_1_2 : Claimed_1_2 := comes_1 fun _ _ _ _ _ _ h hF => ⟨h.2.1, hF⟩
end Jvm.Pilot.@@N@@
namespace Jvm.Pilot.@@N@@
open Jvm Jvm.ClassFile Sem Op Lib Jvm.Free Jvm.Stand Jvm.Pilot.@@N@@.Jvm.D
/-! MADE BY PROGRAM (witnessworld.py) out of the Statement's table words and the real class files: 22 classes; the members and pool entries that the words name. The judged class is class 1, her method 1. -/
namespace start1
open Jvm.ClassFile
def u (s : String) : CpInfo := .utf8 (stringToUtf16 s)
/-- a pool by its gaps: so many unusable entries, then the entry; so many at the end -/
def gap : Nat → List CpInfo → List CpInfo
  | 0, r => r
  | n + 1, r => .unusable :: gap n r
def poolList (es : List (Nat × CpInfo)) (last : Nat) : List CpInfo := es.foldr (fun e r => gap e.1 (e.2 :: r)) (gap last [])
def pool (es : List (Nat × CpInfo)) (last : Nat) : Array CpInfo := ⟨poolList es last⟩
def fileOf (pool : Array CpInfo) (this : Nat) (attrs : Array Attribute := #[]) (ms : Array MethodInfo := #[]) (fl : Nat := 33) (sup : Nat := 0) (ifs : Array Nat := #[]) (fds : Array FieldInfo := #[]) : ClassFile where
  minorVersion := 0
  majorVersion := 65
  constantPool := pool
  accessFlags := fl
  thisClass := this
  superClass := sup
  interfaces := ifs
  fields := fds
  methods := ms
  attributes := attrs
def plain (name : String) (sup : Option ClassId) : Class where
  name := name
  kind := .ordinary
  loader := none
  accessFlags := 33
  super := sup
  interfaces := #[]
  cf := none
  fields := #[]
  methods := #[]
  instanceTypes := #[]
  staticTypes := #[]
  resolved := #[]
  callSites := []
  init := .initialized
  statics := none
  mirror := none

def pool0 : Array CpInfo := pool [(5, u "<init>"), (0, u "()V"), (1, .class_ 10), (1, u "java/lang/Object")] 113

def k0c0 : Code := { maxStack := 0, maxLocals := 1, code := object_method_1_code, exceptionTable := #[], attributes := #[] }
def k0m0 : Method := { name := "<init>", desc := "()V", sig := { parameters := [], returnType := none }, accessFlags := 1, code := some k0c0 }
/-- java/lang/Object -/
def k0 : Class := { plain "java/lang/Object" none with
  accessFlags := 33
  interfaces := #[]
  cf := some (fileOf pool0 8 #[] #[{ accessFlags := 1, nameIndex := 5, descriptorIndex := 6, attributes := #[] }] 33 0 #[] #[])
  fields := #[]
  methods := #[k0m0]
  instanceTypes := #[]
  staticTypes := #[]
  resolved := Array.replicate 124 none
  statics := none }

def pool1 : Array CpInfo := pool [(2, .class_ 4), (0, .nameAndType 5 6), (0, u "java/lang/Object"), (0, u "<init>"), (0, u "()V"), (0, .methodref 8 9), (0, .class_ 10), (0, .nameAndType 11 12), (0, u "com/example/inrush/inrush/engine/CounterSumPinLaw"), (0, u "positive"), (0, u "(J)J"), (0, .long 18446744073709551615), (1, .class_ 16), (0, u "com/example/inrush/inrush/engine/Tally"), (0, .methodref 15 3), (0, .class_ 19), (0, u "com/example/inrush/inrush/engine/Counter"), (0, .string 21), (0, u "c"), (0, .fieldref 23 24), (0, .class_ 25), (0, .nameAndType 26 27), (0, u "com/example/inrush/inrush/engine/CounterKind"), (0, u "ADD"), (0, u "Lcom/example/inrush/inrush/engine/CounterKind;"), (0, .methodref 18 29), (0, .nameAndType 5 30), (0, u "(Ljava/lang/String;Lcom/example/inrush/inrush/engine/CounterKind;I)V"), (0, .methodref 18 32), (0, .nameAndType 33 34), (0, u "add"), (0, u "(IJJLcom/example/inrush/inrush/engine/Tally;)V"), (0, .methodref 18 36), (0, .nameAndType 37 38), (0, u "sum"), (0, u "(IJJ)J"), (0, .methodref 8 40), (0, .nameAndType 41 42), (0, u "capped"), (0, u "(JJ)J"), (2, .long 9223372036854775807), (3, u "law"), (0, u "(JJJJJJ)Z")] 3

def k1m0 : Method := { name := "<init>", desc := "()V", sig := { parameters := [], returnType := none }, accessFlags := 1, code := none }
def k1c1 : Code := { maxStack := 7, maxLocals := 24, code := code, exceptionTable := #[], attributes := #[] }
def k1m1 : Method := { name := "law", desc := "(JJJJJJ)Z", sig := { parameters := [.long, .long, .long, .long, .long, .long], returnType := some .boolean }, accessFlags := 9, code := some k1c1 }
def k1c2 : Code := { maxStack := 4, maxLocals := 4, code := method_3_code, exceptionTable := #[], attributes := #[] }
def k1m2 : Method := { name := "positive", desc := "(J)J", sig := { parameters := [.long], returnType := some .long }, accessFlags := 10, code := some k1c2 }
def k1c3 : Code := { maxStack := 6, maxLocals := 4, code := method_4_code, exceptionTable := #[], attributes := #[] }
def k1m3 : Method := { name := "capped", desc := "(JJ)J", sig := { parameters := [.long, .long], returnType := some .long }, accessFlags := 10, code := some k1c3 }
/-- com/example/inrush/inrush/engine/CounterSumPinLaw -/
def k1 : Class := { plain "com/example/inrush/inrush/engine/CounterSumPinLaw" (some 0) with
  accessFlags := 49
  interfaces := #[]
  cf := some (fileOf pool1 8 #[] #[{ accessFlags := 1, nameIndex := 5, descriptorIndex := 6, attributes := #[] }, { accessFlags := 9, nameIndex := 49, descriptorIndex := 50, attributes := #[] }, { accessFlags := 10, nameIndex := 11, descriptorIndex := 12, attributes := #[] }, { accessFlags := 10, nameIndex := 41, descriptorIndex := 42, attributes := #[] }] 49 2 #[] #[])
  fields := #[]
  methods := #[k1m0, k1m1, k1m2, k1m3]
  instanceTypes := #[]
  staticTypes := #[]
  resolved := Array.replicate 54 none
  statics := none }

def pool2 : Array CpInfo := pool [(1, .methodref 2 3), (0, .class_ 4), (0, .nameAndType 5 6), (0, u "java/lang/Object"), (0, u "<init>"), (0, u "()V"), (0, .class_ 8), (0, u "com/example/inrush/inrush/engine/Tally"), (0, u "buckets"), (0, u "J"), (0, u "pairs")] 4

def k2c0 : Code := { maxStack := 1, maxLocals := 1, code := prog_40_method_1_code, exceptionTable := #[], attributes := #[] }
def k2m0 : Method := { name := "<init>", desc := "()V", sig := { parameters := [], returnType := none }, accessFlags := 0, code := some k2c0 }
/-- com/example/inrush/inrush/engine/Tally -/
def k2 : Class := { plain "com/example/inrush/inrush/engine/Tally" (some 0) with
  accessFlags := 48
  interfaces := #[]
  cf := some (fileOf pool2 7 #[] #[{ accessFlags := 0, nameIndex := 5, descriptorIndex := 6, attributes := #[] }] 48 2 #[] #[{ accessFlags := 0, nameIndex := 9, descriptorIndex := 10, attributes := #[] }, { accessFlags := 0, nameIndex := 11, descriptorIndex := 10, attributes := #[] }])
  fields := #[{ name := "buckets", type := .long, accessFlags := 0, slot := 0, constantValue := 0 }, { name := "pairs", type := .long, accessFlags := 0, slot := 1, constantValue := 0 }]
  methods := #[k2m0]
  instanceTypes := #[.long, .long]
  staticTypes := #[]
  resolved := Array.replicate 16 none
  statics := none }

def pool3 : Array CpInfo := pool [(1, .class_ 2), (0, u "com/example/inrush/inrush/engine/Counter"), (4, .methodref 8 9), (0, .class_ 10), (0, .nameAndType 11 12), (0, u "java/lang/Object"), (0, u "<init>"), (0, u "()V"), (0, .fieldref 1 14), (0, .nameAndType 15 16), (0, u "name"), (0, u "Ljava/lang/String;"), (0, .methodref 1 18), (0, .nameAndType 19 20), (0, u "headerLength"), (0, u "(I)I"), (0, .fieldref 1 22), (0, .nameAndType 23 24), (0, u "cells"), (0, u "[J"), (0, .fieldref 26 27), (0, .class_ 28), (0, .nameAndType 29 30), (0, u "com/example/inrush/inrush/engine/CounterKind"), (0, u "UNIQUE"), (0, u "Lcom/example/inrush/inrush/engine/CounterKind;"), (2, u "NO_SETS"), (0, u "[Ljava/lang/Object;"), (0, .fieldref 1 36), (0, .nameAndType 37 34), (0, u "sets"), (3, .methodref 1 42), (0, .nameAndType 43 44), (0, u "slotOf"), (0, u "(IJLcom/example/inrush/inrush/engine/Tally;)I"), (0, .methodref 1 46), (0, .nameAndType 47 48), (0, u "saturatedSum"), (0, u "(JJ)J"), (0, .methodref 1 50), (0, .nameAndType 19 51), (0, u "()I"), (20, .class_ 74), (1, u "com/example/inrush/inrush/engine/Tally"), (1, u "J"), (0, .methodref 1 78), (0, .nameAndType 79 20), (0, u "start"), (0, .methodref 1 81), (0, .nameAndType 82 20), (0, u "length"), (0, .methodref 1 84), (0, .nameAndType 85 86), (0, u "indexOf"), (0, u "(IJ)I"), (0, .methodref 1 88), (0, .nameAndType 89 90), (0, u "lowerBound"), (0, u "(IIJ)I"), (14, .methodref 106 107), (0, .class_ 108), (0, .nameAndType 109 110), (0, u "java/lang/System"), (0, u "arraycopy"), (0, u "(Ljava/lang/Object;ILjava/lang/Object;II)V"), (0, .fieldref 72 112), (0, .nameAndType 113 76), (0, u "buckets"), (0, .methodref 1 115), (0, .nameAndType 116 117), (0, u "setLength"), (0, u "(II)V"), (1, .class_ 121), (1, u "java/util/Arrays"), (2, .methodref 119 125), (0, .nameAndType 126 127), (0, u "copyOf"), (0, u "([JI)[J"), (3, .methodref 1 132), (0, .nameAndType 133 51), (0, u "periods"), (24, u "add"), (0, u "(IJJLcom/example/inrush/inrush/engine/Tally;)V"), (10, .methodref 1 171), (0, .nameAndType 172 51), (0, u "used"), (0, .long 1073741823), (1, .long 18446744073709551615), (1, .long 9223372036854775807), (5, u "LENGTH_BITS"), (0, u "I"), (2, u "LENGTH_MASK"), (0, u "PERIODS_SHIFT"), (1, u "(Ljava/lang/String;Lcom/example/inrush/inrush/engine/CounterKind;I)V"), (9, u "sum"), (0, u "(IJJ)J")] 39

def k3c0 : Code := { maxStack := 5, maxLocals := 4, code := prog_4_method_1_code, exceptionTable := #[], attributes := #[] }
def k3m0 : Method := { name := "<init>", desc := "(Ljava/lang/String;Lcom/example/inrush/inrush/engine/CounterKind;I)V", sig := { parameters := [(.object "java/lang/String"), (.object "com/example/inrush/inrush/engine/CounterKind"), .int], returnType := none }, accessFlags := 0, code := some k3c0 }
def k3c1 : Code := { maxStack := 6, maxLocals := 8, code := prog_4_method_4_code, exceptionTable := #[], attributes := #[] }
def k3m1 : Method := { name := "add", desc := "(IJJLcom/example/inrush/inrush/engine/Tally;)V", sig := { parameters := [.int, .long, .long, (.object "com/example/inrush/inrush/engine/Tally")], returnType := none }, accessFlags := 0, code := some k3c1 }
def k3c2 : Code := { maxStack := 5, maxLocals := 10, code := prog_4_method_6_code, exceptionTable := #[], attributes := #[] }
def k3m2 : Method := { name := "sum", desc := "(IJJ)J", sig := { parameters := [.int, .long, .long], returnType := some .long }, accessFlags := 0, code := some k3c2 }
def k3c3 : Code := { maxStack := 6, maxLocals := 10, code := prog_4_method_10_code, exceptionTable := #[], attributes := #[] }
def k3m3 : Method := { name := "slotOf", desc := "(IJLcom/example/inrush/inrush/engine/Tally;)I", sig := { parameters := [.int, .long, (.object "com/example/inrush/inrush/engine/Tally")], returnType := some .int }, accessFlags := 2, code := some k3c3 }
def k3c4 : Code := { maxStack := 5, maxLocals := 4, code := prog_4_method_11_code, exceptionTable := #[], attributes := #[] }
def k3m4 : Method := { name := "indexOf", desc := "(IJ)I", sig := { parameters := [.int, .long], returnType := some .int }, accessFlags := 2, code := some k3c4 }
def k3c5 : Code := { maxStack := 4, maxLocals := 8, code := prog_4_method_12_code, exceptionTable := #[], attributes := #[] }
def k3m5 : Method := { name := "lowerBound", desc := "(IIJ)I", sig := { parameters := [.int, .int, .long], returnType := some .int }, accessFlags := 2, code := some k3c5 }
def k3c6 : Code := { maxStack := 4, maxLocals := 4, code := prog_4_method_13_code, exceptionTable := #[], attributes := #[] }
def k3m6 : Method := { name := "start", desc := "(I)I", sig := { parameters := [.int], returnType := some .int }, accessFlags := 2, code := some k3c6 }
def k3c7 : Code := { maxStack := 2, maxLocals := 1, code := prog_4_method_14_code, exceptionTable := #[], attributes := #[] }
def k3m7 : Method := { name := "used", desc := "()I", sig := { parameters := [], returnType := some .int }, accessFlags := 2, code := some k3c7 }
def k3c8 : Code := { maxStack := 3, maxLocals := 1, code := prog_4_method_15_code, exceptionTable := #[], attributes := #[] }
def k3m8 : Method := { name := "periods", desc := "()I", sig := { parameters := [], returnType := some .int }, accessFlags := 2, code := some k3c8 }
def k3c9 : Code := { maxStack := 1, maxLocals := 1, code := prog_4_method_16_code, exceptionTable := #[], attributes := #[] }
def k3m9 : Method := { name := "headerLength", desc := "()I", sig := { parameters := [], returnType := some .int }, accessFlags := 2, code := some k3c9 }
def k3c10 : Code := { maxStack := 2, maxLocals := 1, code := prog_4_method_17_code, exceptionTable := #[], attributes := #[] }
def k3m10 : Method := { name := "headerLength", desc := "(I)I", sig := { parameters := [.int], returnType := some .int }, accessFlags := 10, code := some k3c10 }
def k3c11 : Code := { maxStack := 4, maxLocals := 2, code := prog_4_method_18_code, exceptionTable := #[], attributes := #[] }
def k3m11 : Method := { name := "length", desc := "(I)I", sig := { parameters := [.int], returnType := some .int }, accessFlags := 2, code := some k3c11 }
def k3c12 : Code := { maxStack := 8, maxLocals := 4, code := prog_4_method_19_code, exceptionTable := #[], attributes := #[] }
def k3m12 : Method := { name := "setLength", desc := "(II)V", sig := { parameters := [.int, .int], returnType := none }, accessFlags := 2, code := some k3c12 }
def k3c13 : Code := { maxStack := 4, maxLocals := 6, code := prog_4_method_20_code, exceptionTable := #[], attributes := #[] }
def k3m13 : Method := { name := "saturatedSum", desc := "(JJ)J", sig := { parameters := [.long, .long], returnType := some .long }, accessFlags := 10, code := some k3c13 }
/-- com/example/inrush/inrush/engine/Counter -/
def k3 : Class := { plain "com/example/inrush/inrush/engine/Counter" (some 0) with
  accessFlags := 48
  interfaces := #[]
  cf := some (fileOf pool3 1 #[] #[{ accessFlags := 0, nameIndex := 11, descriptorIndex := 190, attributes := #[] }, { accessFlags := 0, nameIndex := 158, descriptorIndex := 159, attributes := #[] }, { accessFlags := 0, nameIndex := 200, descriptorIndex := 201, attributes := #[] }, { accessFlags := 2, nameIndex := 43, descriptorIndex := 44, attributes := #[] }, { accessFlags := 2, nameIndex := 85, descriptorIndex := 86, attributes := #[] }, { accessFlags := 2, nameIndex := 89, descriptorIndex := 90, attributes := #[] }, { accessFlags := 2, nameIndex := 79, descriptorIndex := 20, attributes := #[] }, { accessFlags := 2, nameIndex := 172, descriptorIndex := 51, attributes := #[] }, { accessFlags := 2, nameIndex := 133, descriptorIndex := 51, attributes := #[] }, { accessFlags := 2, nameIndex := 19, descriptorIndex := 51, attributes := #[] }, { accessFlags := 10, nameIndex := 19, descriptorIndex := 20, attributes := #[] }, { accessFlags := 2, nameIndex := 82, descriptorIndex := 20, attributes := #[] }, { accessFlags := 2, nameIndex := 116, descriptorIndex := 117, attributes := #[] }, { accessFlags := 10, nameIndex := 47, descriptorIndex := 48, attributes := #[] }] 48 8 #[] #[{ accessFlags := 26, nameIndex := 183, descriptorIndex := 184, attributes := #[] }, { accessFlags := 26, nameIndex := 187, descriptorIndex := 76, attributes := #[] }, { accessFlags := 26, nameIndex := 188, descriptorIndex := 184, attributes := #[] }, { accessFlags := 26, nameIndex := 33, descriptorIndex := 34, attributes := #[] }, { accessFlags := 18, nameIndex := 15, descriptorIndex := 16, attributes := #[] }, { accessFlags := 2, nameIndex := 23, descriptorIndex := 24, attributes := #[] }, { accessFlags := 2, nameIndex := 37, descriptorIndex := 34, attributes := #[] }])
  fields := #[{ name := "LENGTH_BITS", type := .int, accessFlags := 26, slot := 0, constantValue := 0 }, { name := "LENGTH_MASK", type := .long, accessFlags := 26, slot := 1, constantValue := 0 }, { name := "PERIODS_SHIFT", type := .int, accessFlags := 26, slot := 2, constantValue := 0 }, { name := "NO_SETS", type := (.array (.object "java/lang/Object")), accessFlags := 26, slot := 3, constantValue := 0 }, { name := "name", type := (.object "java/lang/String"), accessFlags := 18, slot := 0, constantValue := 0 }, { name := "cells", type := (.array .long), accessFlags := 2, slot := 1, constantValue := 0 }, { name := "sets", type := (.array (.object "java/lang/Object")), accessFlags := 2, slot := 2, constantValue := 0 }]
  methods := #[k3m0, k3m1, k3m2, k3m3, k3m4, k3m5, k3m6, k3m7, k3m8, k3m9, k3m10, k3m11, k3m12, k3m13]
  instanceTypes := #[(.object "java/lang/String"), (.array .long), (.array (.object "java/lang/Object"))]
  staticTypes := #[.int, .long, .int, (.array (.object "java/lang/Object"))]
  resolved := Array.replicate 241 none
  statics := none }

def pool4 : Array CpInfo := pool [(1, .class_ 2), (0, u "java/io/Serializable"), (0, .class_ 4), (0, u "java/lang/Object")] 2

/-- java/io/Serializable -/
def k4 : Class := { plain "java/io/Serializable" (some 0) with
  accessFlags := 1537
  interfaces := #[]
  cf := some (fileOf pool4 1 #[] #[] 1537 3 #[] #[])
  fields := #[]
  methods := #[]
  instanceTypes := #[]
  staticTypes := #[]
  resolved := Array.replicate 7 none
  statics := none }

def pool5 : Array CpInfo := pool [(1, .class_ 2), (0, u "java/lang/Comparable"), (0, .class_ 4), (0, u "java/lang/Object")] 7

/-- java/lang/Comparable -/
def k5 : Class := { plain "java/lang/Comparable" (some 0) with
  accessFlags := 1537
  interfaces := #[]
  cf := some (fileOf pool5 1 #[] #[] 1537 3 #[] #[])
  fields := #[]
  methods := #[]
  instanceTypes := #[]
  staticTypes := #[]
  resolved := Array.replicate 12 none
  statics := none }

def pool6 : Array CpInfo := pool [(2, .class_ 4), (1, u "java/lang/CharSequence"), (42, .class_ 48), (0, u "java/lang/CharSequence$1CodePointIterator"), (10, .class_ 60), (0, u "java/lang/CharSequence$1CharIterator"), (5, .class_ 67), (0, u "java/lang/Object")] 63

/-- java/lang/CharSequence -/
def k6 : Class := { plain "java/lang/CharSequence" (some 0) with
  accessFlags := 1537
  interfaces := #[]
  cf := some (fileOf pool6 2 #[.nestMembers #[47, 59]] #[] 1537 66 #[] #[])
  fields := #[]
  methods := #[]
  instanceTypes := #[]
  staticTypes := #[]
  resolved := Array.replicate 131 none
  statics := none }

def pool7 : Array CpInfo := pool [(1, .class_ 2), (0, u "java/lang/constant/Constable"), (0, .class_ 4), (0, u "java/lang/Object")] 6

/-- java/lang/constant/Constable -/
def k7 : Class := { plain "java/lang/constant/Constable" (some 0) with
  accessFlags := 1537
  interfaces := #[]
  cf := some (fileOf pool7 1 #[] #[] 1537 3 #[] #[])
  fields := #[]
  methods := #[]
  instanceTypes := #[]
  staticTypes := #[]
  resolved := Array.replicate 11 none
  statics := none }

def pool8 : Array CpInfo := pool [(1, .class_ 2), (0, u "java/lang/constant/ConstantDesc"), (0, .class_ 4), (0, u "java/lang/Object")] 32

/-- java/lang/constant/ConstantDesc -/
def k8 : Class := { plain "java/lang/constant/ConstantDesc" (some 0) with
  accessFlags := 1537
  interfaces := #[]
  cf := some (fileOf pool8 1 #[] #[] 1537 3 #[] #[])
  fields := #[]
  methods := #[]
  instanceTypes := #[]
  staticTypes := #[]
  resolved := Array.replicate 37 none
  statics := none }

def pool9 : Array CpInfo := pool [(2, .class_ 4), (1, u "java/lang/Object"), (0, u "<init>"), (0, u "()V"), (3, .class_ 12), (1, u "java/lang/String"), (0, u "value"), (0, u "[B"), (2, u "coder"), (0, u "B"), (2, u "hash"), (0, u "I"), (2, u "hashIsZero"), (0, u "Z"), (13, u "COMPACT_STRINGS"), (534, .class_ 576), (0, u "java/lang/CharSequence"), (22, u "CASE_INSENSITIVE_ORDER"), (0, u "Ljava/util/Comparator;"), (500, u "serialPersistentFields"), (0, u "[Ljava/io/ObjectStreamField;"), (0, .class_ 1104), (0, u "java/lang/String$CaseInsensitiveComparator"), (1, .class_ 1107), (0, u "java/io/Serializable"), (0, .class_ 1109), (0, u "java/lang/Comparable"), (0, .class_ 1111), (0, u "java/lang/constant/Constable"), (0, .class_ 1113), (0, u "java/lang/constant/ConstantDesc"), (2, u "serialVersionUID"), (0, u "J"), (3, u "REPL"), (0, u "C"), (2, u "LATIN1"), (1, u "UTF16")] 323

def k9m0 : Method := { name := "<init>", desc := "()V", sig := { parameters := [], returnType := none }, accessFlags := 1, code := none }
/-- java/lang/String -/
def k9 : Class := { plain "java/lang/String" (some 0) with
  accessFlags := 49
  interfaces := #[4, 5, 6, 7, 8]
  cf := some (fileOf pool9 10 #[.nestMembers #[1103]] #[{ accessFlags := 1, nameIndex := 5, descriptorIndex := 6, attributes := #[] }] 49 2 #[1106, 1108, 575, 1110, 1112] #[{ accessFlags := 18, nameIndex := 13, descriptorIndex := 14, attributes := #[] }, { accessFlags := 18, nameIndex := 17, descriptorIndex := 18, attributes := #[] }, { accessFlags := 2, nameIndex := 21, descriptorIndex := 22, attributes := #[] }, { accessFlags := 2, nameIndex := 25, descriptorIndex := 26, attributes := #[] }, { accessFlags := 26, nameIndex := 1116, descriptorIndex := 1117, attributes := #[] }, { accessFlags := 24, nameIndex := 40, descriptorIndex := 26, attributes := #[] }, { accessFlags := 26, nameIndex := 1101, descriptorIndex := 1102, attributes := #[] }, { accessFlags := 26, nameIndex := 1121, descriptorIndex := 1122, attributes := #[] }, { accessFlags := 25, nameIndex := 599, descriptorIndex := 600, attributes := #[] }, { accessFlags := 24, nameIndex := 1125, descriptorIndex := 18, attributes := #[] }, { accessFlags := 24, nameIndex := 1127, descriptorIndex := 18, attributes := #[] }])
  fields := #[{ name := "value", type := (.array .byte), accessFlags := 18, slot := 0, constantValue := 0 }, { name := "coder", type := .byte, accessFlags := 18, slot := 1, constantValue := 0 }, { name := "hash", type := .int, accessFlags := 2, slot := 2, constantValue := 0 }, { name := "hashIsZero", type := .boolean, accessFlags := 2, slot := 3, constantValue := 0 }, { name := "serialVersionUID", type := .long, accessFlags := 26, slot := 0, constantValue := 0 }, { name := "COMPACT_STRINGS", type := .boolean, accessFlags := 24, slot := 1, constantValue := 0 }, { name := "serialPersistentFields", type := (.array (.object "java/io/ObjectStreamField")), accessFlags := 26, slot := 2, constantValue := 0 }, { name := "REPL", type := .char, accessFlags := 26, slot := 3, constantValue := 0 }, { name := "CASE_INSENSITIVE_ORDER", type := (.object "java/util/Comparator"), accessFlags := 25, slot := 4, constantValue := 0 }, { name := "LATIN1", type := .byte, accessFlags := 24, slot := 5, constantValue := 0 }, { name := "UTF16", type := .byte, accessFlags := 24, slot := 6, constantValue := 0 }]
  methods := #[k9m0]
  instanceTypes := #[(.array .byte), .byte, .int, .boolean]
  staticTypes := #[.long, .boolean, (.array (.object "java/io/ObjectStreamField")), .char, (.object "java/util/Comparator"), .byte, .byte]
  resolved := Array.replicate 1451 none
  statics := none }

def pool10 : Array CpInfo := pool [(2, .class_ 4), (1, u "java/lang/Enum"), (0, u "name"), (0, u "Ljava/lang/String;"), (2, u "ordinal"), (0, u "I"), (1, .class_ 14), (1, u "java/lang/Object"), (4, u "hash"), (86, .class_ 108), (1, u "java/lang/Enum$EnumDesc"), (2, .class_ 112), (0, u "java/lang/constant/Constable"), (0, .class_ 114), (0, u "java/lang/Comparable"), (0, .class_ 116), (0, u "java/io/Serializable")] 87

/-- java/lang/Enum -/
def k10 : Class := { plain "java/lang/Enum" (some 0) with
  accessFlags := 1057
  interfaces := #[7, 5, 4]
  cf := some (fileOf pool10 2 #[.nestMembers #[106]] #[] 1057 12 #[111, 113, 115] #[{ accessFlags := 18, nameIndex := 5, descriptorIndex := 6, attributes := #[] }, { accessFlags := 18, nameIndex := 9, descriptorIndex := 10, attributes := #[] }, { accessFlags := 2, nameIndex := 19, descriptorIndex := 10, attributes := #[] }])
  fields := #[{ name := "name", type := (.object "java/lang/String"), accessFlags := 18, slot := 0, constantValue := 0 }, { name := "ordinal", type := .int, accessFlags := 18, slot := 1, constantValue := 0 }, { name := "hash", type := .int, accessFlags := 2, slot := 2, constantValue := 0 }]
  methods := #[]
  instanceTypes := #[(.object "java/lang/String"), .int, .int]
  staticTypes := #[]
  resolved := Array.replicate 204 none
  statics := none }

def pool11 : Array CpInfo := pool [(1, .class_ 2), (0, u "com/example/inrush/inrush/engine/CounterKind"), (2, u "ADD"), (0, u "Lcom/example/inrush/inrush/engine/CounterKind;"), (2, u "UNIQUE"), (2, u "$VALUES"), (0, u "[Lcom/example/inrush/inrush/engine/CounterKind;"), (6, .class_ 22), (1, u "java/lang/Enum")] 41

/-- com/example/inrush/inrush/engine/CounterKind -/
def k11 : Class := { plain "com/example/inrush/inrush/engine/CounterKind" (some 10) with
  accessFlags := 16432
  interfaces := #[]
  cf := some (fileOf pool11 1 #[] #[] 16432 20 #[] #[{ accessFlags := 16409, nameIndex := 5, descriptorIndex := 6, attributes := #[] }, { accessFlags := 16409, nameIndex := 9, descriptorIndex := 6, attributes := #[] }, { accessFlags := 4122, nameIndex := 12, descriptorIndex := 13, attributes := #[] }])
  fields := #[{ name := "ADD", type := (.object "com/example/inrush/inrush/engine/CounterKind"), accessFlags := 16409, slot := 0, constantValue := 0 }, { name := "UNIQUE", type := (.object "com/example/inrush/inrush/engine/CounterKind"), accessFlags := 16409, slot := 1, constantValue := 0 }, { name := "$VALUES", type := (.array (.object "com/example/inrush/inrush/engine/CounterKind")), accessFlags := 4122, slot := 2, constantValue := 0 }]
  methods := #[]
  instanceTypes := #[(.object "java/lang/String"), .int, .int]
  staticTypes := #[(.object "com/example/inrush/inrush/engine/CounterKind"), (.object "com/example/inrush/inrush/engine/CounterKind"), (.array (.object "com/example/inrush/inrush/engine/CounterKind"))]
  resolved := Array.replicate 64 none
  statics := some 0 }

def pool12 : Array CpInfo := pool [(2, .class_ 4), (1, u "java/lang/Object"), (0, u "<init>"), (0, u "()V"), (7, .class_ 16), (1, u "java/util/Arrays"), (57, .class_ 76), (1, u "java/util/Arrays$NaturalOrder"), (36, .class_ 115), (1, u "java/util/Arrays$LegacyMergeSort"), (1, u "Z"), (32, .methodref 151 152), (0, .class_ 153), (0, .nameAndType 154 155), (0, u "java/lang/System"), (0, u "arraycopy"), (0, u "(Ljava/lang/Object;ILjava/lang/Object;II)V"), (146, u "copyOf"), (1, .methodref 305 306), (0, .class_ 307), (0, .nameAndType 308 309), (0, u "java/lang/Math"), (0, u "min"), (0, u "(II)I"), (65, .class_ 376), (0, u "java/util/Arrays$ArrayList"), (68, u "$assertionsDisabled"), (269, u "MIN_ARRAY_SORT_GRAN"), (0, u "I"), (2, u "INSERTIONSORT_THRESHOLD"), (152, u "([JI)[J"), (102, .class_ 976), (0, u "java/util/Arrays$ArrayItr")] 52

def k12m0 : Method := { name := "<init>", desc := "()V", sig := { parameters := [], returnType := none }, accessFlags := 2, code := none }
def k12c1 : Code := { maxStack := 6, maxLocals := 3, code := jdk_65_method_124_code, exceptionTable := #[], attributes := #[] }
def k12m1 : Method := { name := "copyOf", desc := "([JI)[J", sig := { parameters := [(.array .long), .int], returnType := some (.array .long) }, accessFlags := 9, code := some k12c1 }
/-- java/util/Arrays -/
def k12 : Class := { plain "java/util/Arrays" (some 0) with
  accessFlags := 49
  interfaces := #[]
  cf := some (fileOf pool12 14 #[.nestMembers #[975, 375, 113, 74]] #[{ accessFlags := 2, nameIndex := 5, descriptorIndex := 6, attributes := #[] }, { accessFlags := 9, nameIndex := 302, descriptorIndex := 872, attributes := #[] }] 49 2 #[] #[{ accessFlags := 26, nameIndex := 715, descriptorIndex := 716, attributes := #[] }, { accessFlags := 26, nameIndex := 719, descriptorIndex := 716, attributes := #[] }, { accessFlags := 4120, nameIndex := 445, descriptorIndex := 117, attributes := #[] }])
  fields := #[{ name := "MIN_ARRAY_SORT_GRAN", type := .int, accessFlags := 26, slot := 0, constantValue := 0 }, { name := "INSERTIONSORT_THRESHOLD", type := .int, accessFlags := 26, slot := 1, constantValue := 0 }, { name := "$assertionsDisabled", type := .boolean, accessFlags := 4120, slot := 2, constantValue := 0 }]
  methods := #[k12m0, k12m1]
  instanceTypes := #[]
  staticTypes := #[.int, .int, .boolean]
  resolved := Array.replicate 1029 none
  statics := none }

def pool13 : Array CpInfo := pool [(1, .class_ 2), (0, u "java/lang/Math"), (1, .class_ 6), (1, u "java/lang/Object"), (0, u "<init>"), (0, u "()V"), (89, .class_ 100), (1, u "java/lang/Math$RandomNumberGeneratorHolder"), (71, u "negativeZeroFloatBits"), (0, u "J"), (2, u "negativeZeroDoubleBits"), (24, u "min"), (43, u "$assertionsDisabled"), (0, u "Z"), (88, u "(II)I"), (2, u "twoToTheDoubleScaleDown"), (0, u "D"), (4, u "twoToTheDoubleScaleUp"), (9, u "E"), (3, u "PI"), (2, u "TAU"), (2, u "DEGREES_TO_RADIANS"), (0, u "RADIANS_TO_DEGREES")] 94

def k13m0 : Method := { name := "<init>", desc := "()V", sig := { parameters := [], returnType := none }, accessFlags := 2, code := none }
def k13c1 : Code := { maxStack := 2, maxLocals := 2, code := jdk_29_method_69_code, exceptionTable := #[], attributes := #[] }
def k13m1 : Method := { name := "min", desc := "(II)I", sig := { parameters := [.int, .int], returnType := some .int }, accessFlags := 9, code := some k13c1 }
/-- java/lang/Math -/
def k13 : Class := { plain "java/lang/Math" (some 0) with
  accessFlags := 49
  interfaces := #[]
  cf := some (fileOf pool13 1 #[.nestMembers #[98]] #[{ accessFlags := 2, nameIndex := 7, descriptorIndex := 8, attributes := #[] }, { accessFlags := 9, nameIndex := 201, descriptorIndex := 335, attributes := #[] }] 49 4 #[] #[{ accessFlags := 25, nameIndex := 354, descriptorIndex := 339, attributes := #[] }, { accessFlags := 25, nameIndex := 358, descriptorIndex := 339, attributes := #[] }, { accessFlags := 25, nameIndex := 361, descriptorIndex := 339, attributes := #[] }, { accessFlags := 26, nameIndex := 364, descriptorIndex := 339, attributes := #[] }, { accessFlags := 26, nameIndex := 365, descriptorIndex := 339, attributes := #[] }, { accessFlags := 26, nameIndex := 172, descriptorIndex := 173, attributes := #[] }, { accessFlags := 26, nameIndex := 176, descriptorIndex := 173, attributes := #[] }, { accessFlags := 8, nameIndex := 344, descriptorIndex := 339, attributes := #[] }, { accessFlags := 8, nameIndex := 338, descriptorIndex := 339, attributes := #[] }, { accessFlags := 4120, nameIndex := 245, descriptorIndex := 246, attributes := #[] }])
  fields := #[{ name := "E", type := .double, accessFlags := 25, slot := 0, constantValue := 0 }, { name := "PI", type := .double, accessFlags := 25, slot := 1, constantValue := 0 }, { name := "TAU", type := .double, accessFlags := 25, slot := 2, constantValue := 0 }, { name := "DEGREES_TO_RADIANS", type := .double, accessFlags := 26, slot := 3, constantValue := 0 }, { name := "RADIANS_TO_DEGREES", type := .double, accessFlags := 26, slot := 4, constantValue := 0 }, { name := "negativeZeroFloatBits", type := .long, accessFlags := 26, slot := 5, constantValue := 0 }, { name := "negativeZeroDoubleBits", type := .long, accessFlags := 26, slot := 6, constantValue := 0 }, { name := "twoToTheDoubleScaleUp", type := .double, accessFlags := 8, slot := 7, constantValue := 0 }, { name := "twoToTheDoubleScaleDown", type := .double, accessFlags := 8, slot := 8, constantValue := 0 }, { name := "$assertionsDisabled", type := .boolean, accessFlags := 4120, slot := 9, constantValue := 0 }]
  methods := #[k13m0, k13m1]
  instanceTypes := #[]
  staticTypes := #[.double, .double, .double, .double, .double, .long, .long, .double, .double, .boolean]
  resolved := Array.replicate 460 none
  statics := none }

def pool14 : Array CpInfo := pool [(2, .class_ 4), (1, u "java/lang/Object"), (0, u "<init>"), (0, u "()V"), (1, .class_ 10), (1, u "java/lang/System"), (0, u "allowSecurityManager"), (0, u "I"), (16, u "cons"), (0, u "Ljava/io/Console;"), (77, .class_ 110), (1, u "java/lang/System$CallersHolder"), (43, u "initialErrStream"), (0, u "Ljava/io/PrintStream;"), (19, u "security"), (0, u "Ljava/lang/SecurityManager;"), (31, .class_ 209), (0, u "java/lang/System$1"), (7, u "props"), (0, u "Ljava/util/Properties;"), (2, u "lineSeparator"), (0, u "Ljava/lang/String;"), (96, .class_ 321), (1, u "java/lang/System$LoggerFinder"), (5, .class_ 328), (0, u "java/lang/System$Logger"), (67, u "err"), (2, u "out"), (91, u "notSupportedJnuEncoding"), (15, u "in"), (17, u "initialIn"), (0, u "Ljava/io/InputStream;"), (35, u "bootLayer"), (0, u "Ljava/lang/ModuleLayer;"), (99, .class_ 664), (0, u "java/lang/System$2"), (9, u "NEVER"), (2, u "MAYBE"), (49, u "arraycopy"), (0, u "(Ljava/lang/Object;ILjava/lang/Object;II)V"), (72, .class_ 802), (0, u "java/lang/System$Logger$Level")] 31

def k14m0 : Method := { name := "<init>", desc := "()V", sig := { parameters := [], returnType := none }, accessFlags := 2, code := none }
def k14m1 : Method := { name := "arraycopy", desc := "(Ljava/lang/Object;ILjava/lang/Object;II)V", sig := { parameters := [(.object "java/lang/Object"), .int, (.object "java/lang/Object"), .int, .int], returnType := none }, accessFlags := 265, code := none }
/-- java/lang/System -/
def k14 : Class := { plain "java/lang/System" (some 0) with
  accessFlags := 49
  interfaces := #[]
  cf := some (fileOf pool14 8 #[.nestMembers #[319, 327, 801, 108, 663, 208]] #[{ accessFlags := 2, nameIndex := 5, descriptorIndex := 6, attributes := #[] }, { accessFlags := 265, nameIndex := 727, descriptorIndex := 728, attributes := #[] }] 49 2 #[] #[{ accessFlags := 25, nameIndex := 507, descriptorIndex := 526, attributes := #[] }, { accessFlags := 25, nameIndex := 399, descriptorIndex := 155, attributes := #[] }, { accessFlags := 25, nameIndex := 396, descriptorIndex := 155, attributes := #[] }, { accessFlags := 10, nameIndex := 525, descriptorIndex := 526, attributes := #[] }, { accessFlags := 26, nameIndex := 674, descriptorIndex := 12, attributes := #[] }, { accessFlags := 26, nameIndex := 677, descriptorIndex := 12, attributes := #[] }, { accessFlags := 10, nameIndex := 11, descriptorIndex := 12, attributes := #[] }, { accessFlags := 74, nameIndex := 175, descriptorIndex := 176, attributes := #[] }, { accessFlags := 10, nameIndex := 491, descriptorIndex := 222, attributes := #[] }, { accessFlags := 74, nameIndex := 29, descriptorIndex := 30, attributes := #[] }, { accessFlags := 74, nameIndex := 154, descriptorIndex := 155, attributes := #[] }, { accessFlags := 10, nameIndex := 217, descriptorIndex := 218, attributes := #[] }, { accessFlags := 10, nameIndex := 221, descriptorIndex := 222, attributes := #[] }, { accessFlags := 8, nameIndex := 562, descriptorIndex := 563, attributes := #[] }])
  fields := #[{ name := "in", type := (.object "java/io/InputStream"), accessFlags := 25, slot := 0, constantValue := 0 }, { name := "out", type := (.object "java/io/PrintStream"), accessFlags := 25, slot := 1, constantValue := 0 }, { name := "err", type := (.object "java/io/PrintStream"), accessFlags := 25, slot := 2, constantValue := 0 }, { name := "initialIn", type := (.object "java/io/InputStream"), accessFlags := 10, slot := 3, constantValue := 0 }, { name := "NEVER", type := .int, accessFlags := 26, slot := 4, constantValue := 0 }, { name := "MAYBE", type := .int, accessFlags := 26, slot := 5, constantValue := 0 }, { name := "allowSecurityManager", type := .int, accessFlags := 10, slot := 6, constantValue := 0 }, { name := "security", type := (.object "java/lang/SecurityManager"), accessFlags := 74, slot := 7, constantValue := 0 }, { name := "notSupportedJnuEncoding", type := (.object "java/lang/String"), accessFlags := 10, slot := 8, constantValue := 0 }, { name := "cons", type := (.object "java/io/Console"), accessFlags := 74, slot := 9, constantValue := 0 }, { name := "initialErrStream", type := (.object "java/io/PrintStream"), accessFlags := 74, slot := 10, constantValue := 0 }, { name := "props", type := (.object "java/util/Properties"), accessFlags := 10, slot := 11, constantValue := 0 }, { name := "lineSeparator", type := (.object "java/lang/String"), accessFlags := 10, slot := 12, constantValue := 0 }, { name := "bootLayer", type := (.object "java/lang/ModuleLayer"), accessFlags := 8, slot := 13, constantValue := 0 }]
  methods := #[k14m0, k14m1]
  instanceTypes := #[]
  staticTypes := #[(.object "java/io/InputStream"), (.object "java/io/PrintStream"), (.object "java/io/PrintStream"), (.object "java/io/InputStream"), .int, .int, .int, (.object "java/lang/SecurityManager"), (.object "java/lang/String"), (.object "java/io/Console"), (.object "java/io/PrintStream"), (.object "java/util/Properties"), (.object "java/lang/String"), (.object "java/lang/ModuleLayer")]
  resolved := Array.replicate 834 none
  statics := none }

def pool15 : Array CpInfo := pool [(1, u "java/lang/Cloneable"), (0, .class_ 1), (0, u "java/lang/Object"), (0, .class_ 3)] 3

/-- java/lang/Cloneable -/
def k15 : Class := { plain "java/lang/Cloneable" (some 0) with
  accessFlags := 1537
  interfaces := #[]
  cf := some (fileOf pool15 2 #[] #[] 1537 4 #[] #[])
  fields := #[]
  methods := #[]
  instanceTypes := #[]
  staticTypes := #[]
  resolved := Array.replicate 8 none
  statics := none }

/-- the primitive byte -/
def k16 : Class := { plain "byte" none with kind := .primitive 'B', accessFlags := 0x411 }
/-- [B -/
def k17 : Class := { plain "[B" (some 0) with kind := .array 16 .byte, interfaces := #[15, 4], accessFlags := 1041 }

/-- the primitive int -/
def k18 : Class := { plain "int" none with kind := .primitive 'I', accessFlags := 0x411 }
/-- [I -/
def k19 : Class := { plain "[I" (some 0) with kind := .array 18 .int, interfaces := #[15, 4], accessFlags := 1041 }

/-- the primitive long -/
def k20 : Class := { plain "long" none with kind := .primitive 'J', accessFlags := 0x411 }
/-- [J -/
def k21 : Class := { plain "[J" (some 0) with kind := .array 20 .long, interfaces := #[15, 4], accessFlags := 1041 }

def heap : Heap := #[{ cls := 11, slots := #[.ref 1, .ref 2, .null], vm := .statics 11 },
  { cls := 11, slots := #[.null, .int 0, .int 0], vm := .none },
  { cls := 11, slots := #[.null, .int 1, .int 0], vm := .none }]
def classes : Array Class := #[k0, k1, k2, k3, k4, k5, k6, k7, k8, k9, k10, k11, k12, k13, k14, k15, k16, k17, k18, k19, k20, k21]
def interned : List (Array UInt16 × Addr) := []
def slotsUsed : Nat := 9
def theMethod : MethodId := ⟨1, 1⟩
def args0 : Array Value := #[.long 5, .long 7, .long 9, .long 11, .long 3, .long 8]
def aboutOver (below : List Frame) : State where
  vm := { classes := classes, interned := interned.toArray }
  heap := heap
  slotsUsed := slotsUsed
  threads := #[{ frames := .invoking theMethod args0 :: below }]
def below0 : List Frame := [.native { method := ⟨0, 0⟩, args := #[] }]
def about1 : State := aboutOver below0
def p0 : Program := .bare "" "" ""
def e0 : Env := launch0.env 0 0 0
theorem w_frames : about1.frames = Frame.invoking theMethod args0 :: below0 := rfl
set_option maxRecDepth 65536 in
theorem w_args : argsFit about1.vm theMethod args0 = true := by decide +kernel
set_option maxRecDepth 65536 in
theorem w_heap : heapFits about1 = true := by decide +kernel
set_option maxRecDepth 65536 in
theorem w_runnable : about1.curStatus? = some .runnable := by decide +kernel
set_option maxRecDepth 65536 in
theorem w_alone : about1.alone = true := by decide +kernel
set_option maxRecDepth 65536 in
theorem w_named : about1.methodNamed? x = some theMethod := by decide +kernel
set_option maxRecDepth 65536 in
theorem w_hears : about1.hears theMethod below0 = true := by decide +kernel
set_option maxRecDepth 65536 in
theorem w_ripe : about1.ripe theMethod args0 below0 = true := by decide +kernel
theorem w_running : about1.status = .running := rfl
set_option maxRecDepth 65536 in
theorem w_room : about1.hasRoom e0.platform room_1 = true :=
  launch0.hasRoom_least _ room_1 (by decide +kernel) (by decide +kernel) (by decide +kernel) (by decide +kernel) (by decide +kernel) (by decide +kernel)
theorem allAtoms_all (ts : List Jvm.Cond) (a : Array Jvm.Value) (st : Jvm.State) : (allAtoms ts).before a st = ts.all (fun c => c.before a st) := by
  induction ts with
  | nil => rfl
  | cons c t ih =>
    show (Jvm.Cond.and c (allAtoms t)).before a st = _
    rw [Jvm.Cond.before_and, ih, List.all_cons]
def words1 : List Jvm.Cond := Jvm.Cond.code x code maxLocals ret :: tables_1
/-- a 'code' word, met by the world's own term for the bytes: nothing is compared byte by byte -/
theorem code_word {y : MethodName} {bytes : ByteArray} {mx : Nat} {rt : Option FieldType} {a : Array Value} {s : State} {m : MethodId} {meth : Method} {c : Code} (h1 : s.methodNamed? y = some m) (h2 : s.vm.method? m = some meth) (h3 : meth.code = some c) (h4 : c.code = bytes)
    (h5 : (c.maxLocals == mx && c.exceptionTable.isEmpty && decide (c.maxStack ≤ mostOperands) && decide (meth.sig.returnType = rt) && !meth.locks && decide (parseMethodDescriptor y.desc = some meth.sig)) = true) : (Jvm.Cond.code y bytes mx rt).before a s = true := by
  simp only [Bool.and_eq_true, beq_iff_eq, Bool.not_eq_true', decide_eq_true_eq] at h5
  obtain ⟨⟨⟨⟨⟨g1, g2⟩, g3⟩, g4⟩, g5⟩, g6⟩ := h5
  simp [Cond.before, Cond.holds, Cond.value, h1, h2, h3, h4, g1, g2, g3, g4, g5, g6]
def isCode : Jvm.Cond → Bool
  | .code _ _ _ _ => true
  | _ => false
theorem all_split {L : List Jvm.Cond} {P : Jvm.Cond → Bool} (h1 : L.all (fun c => isCode c || P c) = true) (h2 : ∀ c ∈ L.filter isCode, P c = true) : L.all P = true := by
  refine List.all_eq_true.mpr fun c hc => ?_
  have h := List.all_eq_true.mp h1 c hc
  rcases Bool.eq_false_or_eq_true (isCode c) with hi | hi
  · exact h2 c (List.mem_filter.mpr ⟨hc, hi⟩)
  · simpa [hi] using h
set_option maxRecDepth 65536 in
theorem w_c0 : (Jvm.Cond.code x code maxLocals ret).before args0 about1 = true := code_word (m := ⟨1, 1⟩) (meth := k1m1) (c := k1c1) (by decide +kernel) rfl rfl rfl (by decide +kernel)
set_option maxRecDepth 65536 in
theorem w_c1 : (Jvm.Cond.code ({ cls := "com/example/inrush/inrush/engine/CounterSumPinLaw", name := "positive", desc := "(J)J" } : Jvm.MethodName) method_3_code (4 : Nat) (Option.some Jvm.ClassFile.FieldType.long)).before args0 about1 = true := code_word (m := ⟨1, 2⟩) (meth := k1m2) (c := k1c2) (by decide +kernel) rfl rfl rfl (by decide +kernel)
set_option maxRecDepth 65536 in
theorem w_c2 : (Jvm.Cond.code ({ cls := "com/example/inrush/inrush/engine/Tally", name := "<init>", desc := "()V" } : Jvm.MethodName) prog_40_method_1_code (1 : Nat) (Option.none : Option Jvm.ClassFile.FieldType)).before args0 about1 = true := code_word (m := ⟨2, 0⟩) (meth := k2m0) (c := k2c0) (by decide +kernel) rfl rfl rfl (by decide +kernel)
set_option maxRecDepth 65536 in
theorem w_c3 : (Jvm.Cond.code ({ cls := "java/lang/Object", name := "<init>", desc := "()V" } : Jvm.MethodName) object_method_1_code (1 : Nat) (Option.none : Option Jvm.ClassFile.FieldType)).before args0 about1 = true := code_word (m := ⟨0, 0⟩) (meth := k0m0) (c := k0c0) (by decide +kernel) rfl rfl rfl (by decide +kernel)
set_option maxRecDepth 65536 in
theorem w_c4 : (Jvm.Cond.code ({ cls := "com/example/inrush/inrush/engine/Counter", name := "<init>", desc := "(Ljava/lang/String;Lcom/example/inrush/inrush/engine/CounterKind;I)V" } : Jvm.MethodName) prog_4_method_1_code (4 : Nat) (Option.none : Option Jvm.ClassFile.FieldType)).before args0 about1 = true := code_word (m := ⟨3, 0⟩) (meth := k3m0) (c := k3c0) (by decide +kernel) rfl rfl rfl (by decide +kernel)
set_option maxRecDepth 65536 in
theorem w_c5 : (Jvm.Cond.code ({ cls := "com/example/inrush/inrush/engine/Counter", name := "headerLength", desc := "(I)I" } : Jvm.MethodName) prog_4_method_17_code (1 : Nat) (Option.some Jvm.ClassFile.FieldType.int)).before args0 about1 = true := code_word (m := ⟨3, 10⟩) (meth := k3m10) (c := k3c10) (by decide +kernel) rfl rfl rfl (by decide +kernel)
set_option maxRecDepth 65536 in
theorem w_c6 : (Jvm.Cond.code ({ cls := "com/example/inrush/inrush/engine/Counter", name := "add", desc := "(IJJLcom/example/inrush/inrush/engine/Tally;)V" } : Jvm.MethodName) prog_4_method_4_code (8 : Nat) (Option.none : Option Jvm.ClassFile.FieldType)).before args0 about1 = true := code_word (m := ⟨3, 1⟩) (meth := k3m1) (c := k3c1) (by decide +kernel) rfl rfl rfl (by decide +kernel)
set_option maxRecDepth 65536 in
theorem w_c7 : (Jvm.Cond.code ({ cls := "com/example/inrush/inrush/engine/Counter", name := "slotOf", desc := "(IJLcom/example/inrush/inrush/engine/Tally;)I" } : Jvm.MethodName) prog_4_method_10_code (10 : Nat) (Option.some Jvm.ClassFile.FieldType.int)).before args0 about1 = true := code_word (m := ⟨3, 3⟩) (meth := k3m3) (c := k3c3) (by decide +kernel) rfl rfl rfl (by decide +kernel)
set_option maxRecDepth 65536 in
theorem w_c8 : (Jvm.Cond.code ({ cls := "com/example/inrush/inrush/engine/Counter", name := "indexOf", desc := "(IJ)I" } : Jvm.MethodName) prog_4_method_11_code (4 : Nat) (Option.some Jvm.ClassFile.FieldType.int)).before args0 about1 = true := code_word (m := ⟨3, 4⟩) (meth := k3m4) (c := k3c4) (by decide +kernel) rfl rfl rfl (by decide +kernel)
set_option maxRecDepth 65536 in
theorem w_c9 : (Jvm.Cond.code ({ cls := "com/example/inrush/inrush/engine/Counter", name := "start", desc := "(I)I" } : Jvm.MethodName) prog_4_method_13_code (4 : Nat) (Option.some Jvm.ClassFile.FieldType.int)).before args0 about1 = true := code_word (m := ⟨3, 6⟩) (meth := k3m6) (c := k3c6) (by decide +kernel) rfl rfl rfl (by decide +kernel)
set_option maxRecDepth 65536 in
theorem w_c10 : (Jvm.Cond.code ({ cls := "com/example/inrush/inrush/engine/Counter", name := "headerLength", desc := "()I" } : Jvm.MethodName) prog_4_method_16_code (1 : Nat) (Option.some Jvm.ClassFile.FieldType.int)).before args0 about1 = true := code_word (m := ⟨3, 9⟩) (meth := k3m9) (c := k3c9) (by decide +kernel) rfl rfl rfl (by decide +kernel)
set_option maxRecDepth 65536 in
theorem w_c11 : (Jvm.Cond.code ({ cls := "com/example/inrush/inrush/engine/Counter", name := "periods", desc := "()I" } : Jvm.MethodName) prog_4_method_15_code (1 : Nat) (Option.some Jvm.ClassFile.FieldType.int)).before args0 about1 = true := code_word (m := ⟨3, 8⟩) (meth := k3m8) (c := k3c8) (by decide +kernel) rfl rfl rfl (by decide +kernel)
set_option maxRecDepth 65536 in
theorem w_c12 : (Jvm.Cond.code ({ cls := "com/example/inrush/inrush/engine/Counter", name := "length", desc := "(I)I" } : Jvm.MethodName) prog_4_method_18_code (2 : Nat) (Option.some Jvm.ClassFile.FieldType.int)).before args0 about1 = true := code_word (m := ⟨3, 11⟩) (meth := k3m11) (c := k3c11) (by decide +kernel) rfl rfl rfl (by decide +kernel)
set_option maxRecDepth 65536 in
theorem w_c13 : (Jvm.Cond.code ({ cls := "com/example/inrush/inrush/engine/Counter", name := "lowerBound", desc := "(IIJ)I" } : Jvm.MethodName) prog_4_method_12_code (8 : Nat) (Option.some Jvm.ClassFile.FieldType.int)).before args0 about1 = true := code_word (m := ⟨3, 5⟩) (meth := k3m5) (c := k3c5) (by decide +kernel) rfl rfl rfl (by decide +kernel)
set_option maxRecDepth 65536 in
theorem w_c14 : (Jvm.Cond.code ({ cls := "com/example/inrush/inrush/engine/Counter", name := "used", desc := "()I" } : Jvm.MethodName) prog_4_method_14_code (1 : Nat) (Option.some Jvm.ClassFile.FieldType.int)).before args0 about1 = true := code_word (m := ⟨3, 7⟩) (meth := k3m7) (c := k3c7) (by decide +kernel) rfl rfl rfl (by decide +kernel)
set_option maxRecDepth 65536 in
theorem w_c15 : (Jvm.Cond.code ({ cls := "java/util/Arrays", name := "copyOf", desc := "([JI)[J" } : Jvm.MethodName) jdk_65_method_124_code (3 : Nat) (Option.some (Jvm.ClassFile.FieldType.array Jvm.ClassFile.FieldType.long))).before args0 about1 = true := code_word (m := ⟨12, 1⟩) (meth := k12m1) (c := k12c1) (by decide +kernel) rfl rfl rfl (by decide +kernel)
set_option maxRecDepth 65536 in
theorem w_c16 : (Jvm.Cond.code ({ cls := "java/lang/Math", name := "min", desc := "(II)I" } : Jvm.MethodName) jdk_29_method_69_code (2 : Nat) (Option.some Jvm.ClassFile.FieldType.int)).before args0 about1 = true := code_word (m := ⟨13, 1⟩) (meth := k13m1) (c := k13c1) (by decide +kernel) rfl rfl rfl (by decide +kernel)
set_option maxRecDepth 65536 in
theorem w_c17 : (Jvm.Cond.code ({ cls := "com/example/inrush/inrush/engine/Counter", name := "setLength", desc := "(II)V" } : Jvm.MethodName) prog_4_method_19_code (4 : Nat) (Option.none : Option Jvm.ClassFile.FieldType)).before args0 about1 = true := code_word (m := ⟨3, 12⟩) (meth := k3m12) (c := k3c12) (by decide +kernel) rfl rfl rfl (by decide +kernel)
set_option maxRecDepth 65536 in
theorem w_c18 : (Jvm.Cond.code ({ cls := "com/example/inrush/inrush/engine/Counter", name := "saturatedSum", desc := "(JJ)J" } : Jvm.MethodName) prog_4_method_20_code (6 : Nat) (Option.some Jvm.ClassFile.FieldType.long)).before args0 about1 = true := code_word (m := ⟨3, 13⟩) (meth := k3m13) (c := k3c13) (by decide +kernel) rfl rfl rfl (by decide +kernel)
set_option maxRecDepth 65536 in
theorem w_c19 : (Jvm.Cond.code ({ cls := "com/example/inrush/inrush/engine/Counter", name := "sum", desc := "(IJJ)J" } : Jvm.MethodName) prog_4_method_6_code (10 : Nat) (Option.some Jvm.ClassFile.FieldType.long)).before args0 about1 = true := code_word (m := ⟨3, 2⟩) (meth := k3m2) (c := k3c2) (by decide +kernel) rfl rfl rfl (by decide +kernel)
set_option maxRecDepth 65536 in
theorem w_c20 : (Jvm.Cond.code ({ cls := "com/example/inrush/inrush/engine/CounterSumPinLaw", name := "capped", desc := "(JJ)J" } : Jvm.MethodName) method_4_code (4 : Nat) (Option.some Jvm.ClassFile.FieldType.long)).before args0 about1 = true := code_word (m := ⟨1, 3⟩) (meth := k1m3) (c := k1c3) (by decide +kernel) rfl rfl rfl (by decide +kernel)
def codes1 : List Jvm.Cond := [Jvm.Cond.code x code maxLocals ret, Jvm.Cond.code ({ cls := "com/example/inrush/inrush/engine/CounterSumPinLaw", name := "positive", desc := "(J)J" } : Jvm.MethodName) method_3_code (4 : Nat) (Option.some Jvm.ClassFile.FieldType.long), Jvm.Cond.code ({ cls := "com/example/inrush/inrush/engine/Tally", name := "<init>", desc := "()V" } : Jvm.MethodName) prog_40_method_1_code (1 : Nat) (Option.none : Option Jvm.ClassFile.FieldType), Jvm.Cond.code ({ cls := "java/lang/Object", name := "<init>", desc := "()V" } : Jvm.MethodName) object_method_1_code (1 : Nat) (Option.none : Option Jvm.ClassFile.FieldType), Jvm.Cond.code ({ cls := "com/example/inrush/inrush/engine/Counter", name := "<init>", desc := "(Ljava/lang/String;Lcom/example/inrush/inrush/engine/CounterKind;I)V" } : Jvm.MethodName) prog_4_method_1_code (4 : Nat) (Option.none : Option Jvm.ClassFile.FieldType), Jvm.Cond.code ({ cls := "com/example/inrush/inrush/engine/Counter", name := "headerLength", desc := "(I)I" } : Jvm.MethodName) prog_4_method_17_code (1 : Nat) (Option.some Jvm.ClassFile.FieldType.int), Jvm.Cond.code ({ cls := "com/example/inrush/inrush/engine/Counter", name := "add", desc := "(IJJLcom/example/inrush/inrush/engine/Tally;)V" } : Jvm.MethodName) prog_4_method_4_code (8 : Nat) (Option.none : Option Jvm.ClassFile.FieldType), Jvm.Cond.code ({ cls := "com/example/inrush/inrush/engine/Counter", name := "slotOf", desc := "(IJLcom/example/inrush/inrush/engine/Tally;)I" } : Jvm.MethodName) prog_4_method_10_code (10 : Nat) (Option.some Jvm.ClassFile.FieldType.int), Jvm.Cond.code ({ cls := "com/example/inrush/inrush/engine/Counter", name := "indexOf", desc := "(IJ)I" } : Jvm.MethodName) prog_4_method_11_code (4 : Nat) (Option.some Jvm.ClassFile.FieldType.int), Jvm.Cond.code ({ cls := "com/example/inrush/inrush/engine/Counter", name := "start", desc := "(I)I" } : Jvm.MethodName) prog_4_method_13_code (4 : Nat) (Option.some Jvm.ClassFile.FieldType.int), Jvm.Cond.code ({ cls := "com/example/inrush/inrush/engine/Counter", name := "headerLength", desc := "()I" } : Jvm.MethodName) prog_4_method_16_code (1 : Nat) (Option.some Jvm.ClassFile.FieldType.int), Jvm.Cond.code ({ cls := "com/example/inrush/inrush/engine/Counter", name := "periods", desc := "()I" } : Jvm.MethodName) prog_4_method_15_code (1 : Nat) (Option.some Jvm.ClassFile.FieldType.int), Jvm.Cond.code ({ cls := "com/example/inrush/inrush/engine/Counter", name := "length", desc := "(I)I" } : Jvm.MethodName) prog_4_method_18_code (2 : Nat) (Option.some Jvm.ClassFile.FieldType.int), Jvm.Cond.code ({ cls := "com/example/inrush/inrush/engine/Counter", name := "lowerBound", desc := "(IIJ)I" } : Jvm.MethodName) prog_4_method_12_code (8 : Nat) (Option.some Jvm.ClassFile.FieldType.int), Jvm.Cond.code ({ cls := "com/example/inrush/inrush/engine/Counter", name := "used", desc := "()I" } : Jvm.MethodName) prog_4_method_14_code (1 : Nat) (Option.some Jvm.ClassFile.FieldType.int), Jvm.Cond.code ({ cls := "java/util/Arrays", name := "copyOf", desc := "([JI)[J" } : Jvm.MethodName) jdk_65_method_124_code (3 : Nat) (Option.some (Jvm.ClassFile.FieldType.array Jvm.ClassFile.FieldType.long)), Jvm.Cond.code ({ cls := "java/lang/Math", name := "min", desc := "(II)I" } : Jvm.MethodName) jdk_29_method_69_code (2 : Nat) (Option.some Jvm.ClassFile.FieldType.int), Jvm.Cond.code ({ cls := "com/example/inrush/inrush/engine/Counter", name := "setLength", desc := "(II)V" } : Jvm.MethodName) prog_4_method_19_code (4 : Nat) (Option.none : Option Jvm.ClassFile.FieldType), Jvm.Cond.code ({ cls := "com/example/inrush/inrush/engine/Counter", name := "saturatedSum", desc := "(JJ)J" } : Jvm.MethodName) prog_4_method_20_code (6 : Nat) (Option.some Jvm.ClassFile.FieldType.long), Jvm.Cond.code ({ cls := "com/example/inrush/inrush/engine/Counter", name := "sum", desc := "(IJJ)J" } : Jvm.MethodName) prog_4_method_6_code (10 : Nat) (Option.some Jvm.ClassFile.FieldType.long), Jvm.Cond.code ({ cls := "com/example/inrush/inrush/engine/CounterSumPinLaw", name := "capped", desc := "(JJ)J" } : Jvm.MethodName) method_4_code (4 : Nat) (Option.some Jvm.ClassFile.FieldType.long)]
set_option maxRecDepth 65536 in
theorem codes_eq : words1.filter isCode = codes1 := rfl
theorem w_codes : ∀ c ∈ words1.filter isCode, c.before args0 about1 = true := by
  rw [codes_eq]
  intro c hc
  simp only [codes1, List.mem_cons, List.not_mem_nil, or_false] at hc
  rcases hc with rfl | rfl | rfl | rfl | rfl | rfl | rfl | rfl | rfl | rfl | rfl | rfl | rfl | rfl | rfl | rfl | rfl | rfl | rfl | rfl | rfl
  · exact w_c0
  · exact w_c1
  · exact w_c2
  · exact w_c3
  · exact w_c4
  · exact w_c5
  · exact w_c6
  · exact w_c7
  · exact w_c8
  · exact w_c9
  · exact w_c10
  · exact w_c11
  · exact w_c12
  · exact w_c13
  · exact w_c14
  · exact w_c15
  · exact w_c16
  · exact w_c17
  · exact w_c18
  · exact w_c19
  · exact w_c20
set_option maxRecDepth 65536 in
theorem w_t1 : (words1.take 24).all (fun c => isCode c || c.before args0 about1) = true := by decide +kernel
set_option maxRecDepth 65536 in
theorem w_t2 : ((words1.drop 24).take 24).all (fun c => isCode c || c.before args0 about1) = true := by decide +kernel
set_option maxRecDepth 65536 in
theorem w_t3 : (((words1.drop 24).drop 24).take 24).all (fun c => isCode c || c.before args0 about1) = true := by decide +kernel
set_option maxRecDepth 65536 in
theorem w_t4 : ((((words1.drop 24).drop 24).drop 24).take 24).all (fun c => isCode c || c.before args0 about1) = true := by decide +kernel
set_option maxRecDepth 65536 in
theorem w_t5 : ((((words1.drop 24).drop 24).drop 24).drop 24).all (fun c => isCode c || c.before args0 about1) = true := by decide +kernel
theorem w_tables : (allAtoms (Jvm.Cond.code x code maxLocals ret :: tables_1)).before args0 about1 = true := by
  rw [allAtoms_all]
  show words1.all (fun c => c.before args0 about1) = true
  refine all_split ?_ w_codes
  rw [← List.take_append_drop 24 words1, List.all_append, w_t1, ← List.take_append_drop 24 (words1.drop 24), List.all_append, w_t2, ← List.take_append_drop 24 ((words1.drop 24).drop 24), List.all_append, w_t3, ← List.take_append_drop 24 (((words1.drop 24).drop 24).drop 24), List.all_append, w_t4, w_t5]
  rfl
set_option maxRecDepth 65536 in
theorem w_case : (Jvm.Cond.and given_1 narrow_1).before args0 about1 = true := by decide +kernel
theorem w_applies : (headSpec (Jvm.Cond.code x code maxLocals ret :: tables_1) room_1).applies x e0.platform about1 = true :=
  (Spec.applies_iff w_frames).mpr ⟨w_running, w_runnable, w_alone, w_named, w_hears, w_ripe, w_room, w_tables⟩
theorem atStart : AtStart classFile x code maxLocals ret World_1 tables_1 room_1 Calls_1 rest_1 Pre_1 launch0 p0 e0 about1 theMethod args0 below0 :=
  ⟨lists_1, trivial, launch0.admits_env _ _ _, launch0.least_env, fairChoices_fair.cas, fairChoices_fair.clock, w_frames, w_args, w_heap, w_applies, trivial, trivial, w_case⟩
end start1
theorem witness_1 : WitnessClaimed_1 := ⟨start1.p0, start1.e0, start1.about1, start1.theMethod, start1.args0, start1.below0, start1.atStart⟩
end Jvm.Pilot.@@N@@
